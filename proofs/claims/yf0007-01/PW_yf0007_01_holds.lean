import PyProof.Rows.All
import Wide.All
import OpenK.AllK
import Wide.FinOn
import PyProof.AutoSeq1
import PyProof.EnumMake
import PyProof.ExcStrCall
import PyProof.StrLawsIn
import PyProof.StrLawsChain
import PyProof.ListMulRoad
import PyProof.Rows.StrClose5
import PyProof.Rows.ListMul
import PyProof.Rows.StrDigitsNeg
import PyProof.Rows.ReprOcc
import PyProof.Rows.StrJoinMade
import PyProof.Rows.WhileGen
import PyProof.StrReplace2
import KE.KCompIf
import KE.KIntText
import KE.KTryDeep
import Lean
import PySem.Challenge.RW_yf0007_01
set_option Elab.async false
set_option maxRecDepth 100000
set_option linter.unusedVariables false
set_option linter.unusedSimpArgs false
open PySem PySem.W PySem.Calls PyProof.Rows PySem.Spec
#guard_msgs (drop all) in
lay_quick_some 2 no_such_name
namespace Mine

-- Hd
section
open PySem PySem.W PyProof.Rows
set_option maxRecDepth 100000 in
set_option maxHeartbeats 8000000 in
open_top hd for PySem.Challenge.rw_yf0007_01
end
local macro_rules | `(tactic| walk_at $s:str) => do let t := Lean.Syntax.mkStrLit ("own " ++ s.getString); `(tactic| k_extra $t)
local macro_rules | `(tactic| omega) => `(tactic| omega -splitDisjunctions)
local macro_rules | `(tactic| k_ne) => `(tactic| (refine neN ?_; (try dsimp only); first | (simp only [ne_eq, not_false_eq_true, *]; done) | (refine Ne.symm ?_; simp only [ne_eq, not_false_eq_true, *]; done) | (refine Nat.ne_of_gt ?_; simp only [*]; done) | (refine Nat.ne_of_lt ?_; simp only [*]; done)))

-- Base
section
theorem fillK : (fun (_ : OpenLaw) (_ : Params → Frag) => True) PySem.Challenge.rw_yf0007_01 Mine.hd.heap_39 := by k_fill; exact trivial
set_option maxHeartbeats 4000000 in


theorem meas {n i : Nat} (h : i < n) : n + 1 - (i + 1) < n + 1 - i := Nat.sub_lt_sub_left (Nat.lt_succ_of_lt h) (Nat.lt_succ_self i)
theorem room0 {a n k lim : Nat} (h : a + n < lim) (hk : Nat.ble k n = true) : a + k < lim := Nat.lt_of_le_of_lt (Nat.add_le_add_left (Nat.le_of_ble_eq_true hk) a) h
theorem room1 {a n k lim : Nat} (h : a + n < lim) (hk : Nat.ble (1 + k) n = true) : a + 1 + k < lim := by rw [Nat.add_assoc]; exact room0 h hk
/-- the state around a call: no exception handled, the frames written -/
abbrev topA (dp un : Nat) (gd : Option (List Code)) (outer : List Env) : Around := { handled := none, depth := dp, frames := some outer, guards := gd, units := un }

/-- a def of the text, called on args, comes back with a value of which post tells, having kept all that stood -/
def Spec (w : World) (mean : ExcName → Option Value) (mg mb : Str → Option Value) (f : Addr) (d u : Nat) (args : List Value) (pre : Heap → Prop) (post : Heap → Heap → Value → Prop) : Prop :=
  ∀ (dp un : Nat) (gd : Option (List Code)) (outer : List Env) (base : Heap) (s : Shared) (R : Result → Shared → Prop),
    Below (topA dp un gd outer) base outer s.heap → Frag.In (Mine.hd.heap_39 w.params) s.heap → Top Mine.hd.view_39 (looseW Mine.hd.view_39 []) mean mg mb s.heap →
    dp + d < recursionLimit → un + u < cLine → pre s.heap →
    (∀ v h' tk', (∀ b o, s.heap.get? b = some o → h'.get? b = some o) → post s.heap h' v → R (.ok (.ret v)) { s with heap := h', toks := tk' }) →
    codeAny (model PySem.Challenge.pw_yf0007_01 w) (topA dp un gd outer) (.call (.ref f) ⟨args, []⟩) R s

section
variable {prog : Program} {w : World} {A : Around} {K : Frag} {s : Shared} {base : Heap} {outer : List Env} {p : Program} {loose : List Str} {mean : ExcName → Option Value} {mg mb : Str → Option Value}
  {R : Result → Shared → Prop} {name qual : Str} {params : Arguments} {body : List Stmt} {scope : Scope} {dV kV doc pm cdv ct oc : Value} {an od : Option Addr} {osl : Array (Option Value)} {f : Addr} {args : Args} {binds : List (Str × Value)}

theorem enter (B : Below A base outer s.heap) (X : K.In s.heap) (T : Top p loose mean mg mb s.heap)
    (ho : K.lookup f = some ⟨oc, od, .func (fnOf name qual params body scope dV kV doc pm an cdv ct), osl⟩) (hcd : codeIn K cdv qual = true) (hroom : A.depth < recursionLimit)
    (hbind : BindsTo s (fnOf name qual params body scope dV kV doc pm an cdv ct) args binds) (hloc : ∀ y ∈ binds, scope.names.lookup y.1 = some .local)
    (h : ∀ g L' h₁, s.heap = g → Below A base outer g → K.In g → Top p loose mean mg mb g → Fr g L' h₁ (fun y => binds.reverse.lookup y) → News g L' h₁ [] →
      wpAny (model prog w) (A.deeper (envOf qual scope L' f cdv)) (execs body (envOf qual scope L' f cdv))
        (fun fl s' => R (.ok (.ret (match fl with | .ret v => v | _ => .none))) s')
        (fun e s' => wpAny (model prog w) (A.deeper (envOf qual scope L' f cdv)) (leaving (envOf qual scope L' f cdv) e) (fun _ s'' => R (.error e) s'') (fun e' s'' => R (.error e') s'') s')
        { s with heap := h₁, toks := s.toks + binds.length })
    (hco : scope.isCoroutine = false) (hgen : scope.isGenerator = false) (hk : scope.kind = .function)
    (hcell : ∀ x ∈ scope.names, x.2 ≠ .cell) : codeAny (model prog w) A (.call (.ref f) args) R s := by
  refine codeAny_call_def (fd := fnOf name qual params body scope dV kV doc pm an cdv ct) (body := body) (binds := binds) hroom (X _ _ ho) rfl T.nolimit (codeRec_of X hcd) rfl hbind hcell hloc (fun h₁ hns hk₁ => ?_) hco hgen hk
  exact h s.heap s.heap.objs.size h₁ rfl B X T ⟨hns, hk₁, Nat.le_refl _⟩ News.nil
theorem enterC (B : Below A base outer s.heap) (X : K.In s.heap) (T : Top p loose mean mg mb s.heap)
    (ho : K.lookup f = some ⟨oc, od, .func (fnOf name qual params body scope dV kV doc pm an cdv ct), osl⟩) (hcd : codeIn K cdv qual = true) (hroom : A.depth < recursionLimit)
    (hbind : BindsTo s (fnOf name qual params body scope dV kV doc pm an cdv ct) args binds) (hkind : (binds.all fun y => scope.names.lookup y.1 == some .local || scope.names.lookup y.1 == some .cell) = true)
    (hnd : ((cellsFrom 0 scope.names []).map (·.1)).Nodup)
    (h : ∀ g L' h₁ tk cells, s.heap = g → Below A base outer g → K.In g → Top p loose mean mg mb g → Fr g L' h₁ (bindL (envOfC qual scope L' f cdv).kindOf binds fun _ => none) → News g L' h₁ cells →
      CellsAre (bindC (envOfC qual scope L' f cdv).kindOf binds fun _ => none) (cellsFrom (L' + 1) scope.names []) cells →
      wpAny (model prog w) (A.deeper (envOfC qual scope L' f cdv)) (execs body (envOfC qual scope L' f cdv))
        (fun fl s' => R (.ok (.ret (match fl with | .ret v => v | _ => .none))) s')
        (fun e s' => wpAny (model prog w) (A.deeper (envOfC qual scope L' f cdv)) (leaving (envOfC qual scope L' f cdv) e) (fun _ s'' => R (.error e) s'') (fun e' s'' => R (.error e') s'') s')
        { s with heap := h₁, toks := tk })
    (hco : scope.isCoroutine = false) (hgen : scope.isGenerator = false) (hk : scope.kind = .function) : codeAny (model prog w) A (.call (.ref f) args) R s := by
  refine codeAny_call_function hroom (X _ _ ho) rfl hco hgen rfl (codeRec_of X hcd) (hbind _ _ _ _ ?_)
  refine wpAny_newFunctionEnv_cells hk (kindsX hkind _) fun env' he s' x => ?_
  subst he
  refine ⟨T.nolimit.keeps x.toInCall.keep, codeAny_func ?_⟩
  obtain ⟨h₁, tk, rfl, _⟩ := x.done
  have hk₁ := x.toInCall.keep
  obtain ⟨cells, NC, Y⟩ := Cl.news (h₀ := s.heap) (Nat.le_refl _) fun n c hm => ⟨x.cell n c (lookup_of_mem_nodup (cellsFrom_names scope.names 0 (s.heap.objs.size + 1) [] [] rfl ▸ hnd) hm), x.above n c hm⟩
  exact h s.heap s.heap.objs.size h₁ tk cells rfl B X T ⟨x.toInCall.ns, hk₁, Nat.le_refl _⟩ NC Y
end

section
variable {w : World} {A A₀ : Around} {s : Shared} {base h₀ : Heap} {outer : List Env} {mean : ExcName → Option Value} {mg mb : Str → Option Value} {env : Env}
  {f : Addr} {args : List Value} {L : Addr} {m : Str → Option Value} {news : List (Addr × Obj)} {d u : Nat} {pre : Heap → Prop} {post : Heap → Heap → Value → Prop} {Q E : Value → Shared → Prop}

theorem news_keeps {h h' : Heap} (N : News h₀ L h news) (hk : ∀ b o, h.get? b = some o → h'.get? b = some o) : News h₀ L h' news := fun p hp => ⟨hk _ _ (N p hp).1, (N p hp).2⟩
theorem fr_keeps {h h' : Heap} (F : Fr h₀ L h m) (hk : ∀ b o, h.get? b = some o → h'.get? b = some o) : Fr h₀ L h' m := ⟨F.ns.keeps hk, fun b o e => hk _ _ (F.keep b o e), F.above⟩

theorem call_spec {dp un : Nat} {gd : Option (List Code)} (S : Spec w mean mg mb f d u args pre post) (B : Below A₀ base outer h₀) (F : Fr h₀ L s.heap m) (X : Frag.In (Mine.hd.heap_39 w.params) h₀) (N : News h₀ L s.heap news) (T : Top Mine.hd.view_39 (looseW Mine.hd.view_39 []) mean mg mb h₀)
    (hA : A = topA dp un gd (env :: outer)) (hf : env.frame = some L) (hke : env.scope.kind = .function) (hd : dp + d < recursionLimit) (hu : un + u < cLine) (hp : pre s.heap)
    (h : ∀ v h' tk', Fr h₀ L h' m → News h₀ L h' news → (∀ b o, s.heap.get? b = some o → h'.get? b = some o) → post s.heap h' v → Q v { s with heap := h', toks := tk' }) :
    wpAny (model PySem.Challenge.pw_yf0007_01 w) A (call (.ref f) args) Q E s := by
  subst hA
  refine wpAny_call ?_
  have B₁ := pushX B F hf hke
  refine S dp un gd (env :: outer) base s _ ⟨rfl, B₁.stays, B₁.frames⟩ (fun a o e => F.keep _ _ (X a o e)) (T.keeps F.keep) hd hu hp fun v h' tk' hk hpost => ?_
  exact h v h' tk' (fr_keeps F hk) (news_keeps N hk) hk hpost

theorem call_specI {dp un : Nat} {gd : Option (List Code)} {x : Int} (S : Spec w mean mg mb f d u args (fun _ => True) (fun _ _ v => ∃ t, v = .int x t)) (B : Below A₀ base outer h₀) (F : Fr h₀ L s.heap m) (X : Frag.In (Mine.hd.heap_39 w.params) h₀) (N : News h₀ L s.heap news) (T : Top Mine.hd.view_39 (looseW Mine.hd.view_39 []) mean mg mb h₀)
    (hA : A = topA dp un gd (env :: outer)) (hf : env.frame = some L) (hke : env.scope.kind = .function) (hd : dp + d < recursionLimit) (hu : un + u < cLine)
    (h : ∀ t h' tk', Fr h₀ L h' m → News h₀ L h' news → Q (.int x t) { s with heap := h', toks := tk' }) :
    wpAny (model PySem.Challenge.pw_yf0007_01 w) A (call (.ref f) args) Q E s :=
  call_spec S B F X N T hA hf hke hd hu trivial fun v h' tk' F' N' _ hp => by obtain ⟨t, rfl⟩ := hp; exact h t h' tk' F' N'
theorem call_specS {dp un : Nat} {gd : Option (List Code)} {x : Str} (S : Spec w mean mg mb f d u args (fun _ => True) (fun _ _ v => ∃ t, v = .str x t)) (B : Below A₀ base outer h₀) (F : Fr h₀ L s.heap m) (X : Frag.In (Mine.hd.heap_39 w.params) h₀) (N : News h₀ L s.heap news) (T : Top Mine.hd.view_39 (looseW Mine.hd.view_39 []) mean mg mb h₀)
    (hA : A = topA dp un gd (env :: outer)) (hf : env.frame = some L) (hke : env.scope.kind = .function) (hd : dp + d < recursionLimit) (hu : un + u < cLine)
    (h : ∀ t h' tk', Fr h₀ L h' m → News h₀ L h' news → Q (.str x t) { s with heap := h', toks := tk' }) :
    wpAny (model PySem.Challenge.pw_yf0007_01 w) A (call (.ref f) args) Q E s :=
  call_spec S B F X N T hA hf hke hd hu trivial fun v h' tk' F' N' _ hp => by obtain ⟨t, rfl⟩ := hp; exact h t h' tk' F' N'
theorem call_specB {dp un : Nat} {gd : Option (List Code)} {x : Bool} (S : Spec w mean mg mb f d u args (fun _ => True) (fun _ _ v => v = .bool x)) (B : Below A₀ base outer h₀) (F : Fr h₀ L s.heap m) (X : Frag.In (Mine.hd.heap_39 w.params) h₀) (N : News h₀ L s.heap news) (T : Top Mine.hd.view_39 (looseW Mine.hd.view_39 []) mean mg mb h₀)
    (hA : A = topA dp un gd (env :: outer)) (hf : env.frame = some L) (hke : env.scope.kind = .function) (hd : dp + d < recursionLimit) (hu : un + u < cLine)
    (h : ∀ h' tk', Fr h₀ L h' m → News h₀ L h' news → Q (.bool x) { s with heap := h', toks := tk' }) :
    wpAny (model PySem.Challenge.pw_yf0007_01 w) A (call (.ref f) args) Q E s :=
  call_spec S B F X N T hA hf hke hd hu trivial fun v h' tk' F' N' _ hp => by obtain rfl := hp; exact h h' tk' F' N'
theorem call_aI {dp un : Nat} {gd : Option (List Code)} {x : Int} (S : Spec w mean mg mb f d u args (fun _ => True) (fun _ _ v => ∃ t, v = .int x t)) (h : ∀ t h' tk', Fr h₀ L h' m → News h₀ L h' news → Q (.int x t) { s with heap := h', toks := tk' })
    (B : Below A₀ base outer h₀ := by k_asm) (F : Fr h₀ L s.heap m := by k_asm) (X : Frag.In (Mine.hd.heap_39 w.params) h₀ := by k_asm) (N : News h₀ L s.heap news := by k_asm) (T : Top Mine.hd.view_39 (looseW Mine.hd.view_39 []) mean mg mb h₀ := by k_asm)
    (hA : A = topA dp un gd (env :: outer) := by exact rfl) (hf : env.frame = some L := by exact rfl) (hke : env.scope.kind = .function := by exact rfl) (hd : dp + d < recursionLimit := by first | exact room1 (by assumption) rfl | exact room0 (by assumption) rfl | omega | ((try dsimp only [topA, Around.deeper, Around.in1]); omega)) (hu : un + u < cLine := by first | exact room1 (by assumption) rfl | exact room0 (by assumption) rfl | omega | ((try dsimp only [topA, Around.deeper, Around.in1]); omega)) :
    wpAny (model PySem.Challenge.pw_yf0007_01 w) A (call (.ref f) args) Q E s := call_specI S B F X N T hA hf hke hd hu h
theorem call_aS {dp un : Nat} {gd : Option (List Code)} {x : Str} (S : Spec w mean mg mb f d u args (fun _ => True) (fun _ _ v => ∃ t, v = .str x t)) (h : ∀ t h' tk', Fr h₀ L h' m → News h₀ L h' news → Q (.str x t) { s with heap := h', toks := tk' })
    (B : Below A₀ base outer h₀ := by k_asm) (F : Fr h₀ L s.heap m := by k_asm) (X : Frag.In (Mine.hd.heap_39 w.params) h₀ := by k_asm) (N : News h₀ L s.heap news := by k_asm) (T : Top Mine.hd.view_39 (looseW Mine.hd.view_39 []) mean mg mb h₀ := by k_asm)
    (hA : A = topA dp un gd (env :: outer) := by exact rfl) (hf : env.frame = some L := by exact rfl) (hke : env.scope.kind = .function := by exact rfl) (hd : dp + d < recursionLimit := by first | exact room1 (by assumption) rfl | exact room0 (by assumption) rfl | omega | ((try dsimp only [topA, Around.deeper, Around.in1]); omega)) (hu : un + u < cLine := by first | exact room1 (by assumption) rfl | exact room0 (by assumption) rfl | omega | ((try dsimp only [topA, Around.deeper, Around.in1]); omega)) :
    wpAny (model PySem.Challenge.pw_yf0007_01 w) A (call (.ref f) args) Q E s := call_specS S B F X N T hA hf hke hd hu h
theorem call_aB {dp un : Nat} {gd : Option (List Code)} {x : Bool} (S : Spec w mean mg mb f d u args (fun _ => True) (fun _ _ v => v = .bool x)) (h : ∀ h' tk', Fr h₀ L h' m → News h₀ L h' news → Q (.bool x) { s with heap := h', toks := tk' })
    (B : Below A₀ base outer h₀ := by k_asm) (F : Fr h₀ L s.heap m := by k_asm) (X : Frag.In (Mine.hd.heap_39 w.params) h₀ := by k_asm) (N : News h₀ L s.heap news := by k_asm) (T : Top Mine.hd.view_39 (looseW Mine.hd.view_39 []) mean mg mb h₀ := by k_asm)
    (hA : A = topA dp un gd (env :: outer) := by exact rfl) (hf : env.frame = some L := by exact rfl) (hke : env.scope.kind = .function := by exact rfl) (hd : dp + d < recursionLimit := by first | exact room1 (by assumption) rfl | exact room0 (by assumption) rfl | omega | ((try dsimp only [topA, Around.deeper, Around.in1]); omega)) (hu : un + u < cLine := by first | exact room1 (by assumption) rfl | exact room0 (by assumption) rfl | omega | ((try dsimp only [topA, Around.deeper, Around.in1]); omega)) :
    wpAny (model PySem.Challenge.pw_yf0007_01 w) A (call (.ref f) args) Q E s := call_specB S B F X N T hA hf hke hd hu h
end
end

-- Leaf
section
set_option maxHeartbeats 4000000 in
theorem sp_is_b (w : World) (mean : ExcName → Option Value) (mg mb : Str → Option Value) (a b : Bool) :
    Spec w mean mg mb 79 1 3 [.bool a, .bool b] (fun _ => True) (fun _ _ v => v = .bool (a == b)) := by
  k_with_none
  w_top off
  unfold Spec
  intro dp un gd outer base s R B X T hd hu hpre hret
  k_dflt (refine' enter ?k1 ?k2 ?k3 ?k6 ?k7 ?k8 ?k9 ?kB ?_ ?c2 ?c3 ?c4 ?c5; (case k1 => exact B); (case k2 => exact X); (case k3 => exact T); (case k6 => k_is); (case k7 => k_is); (case k8 => ktr_room); (case k9 => exact BindsTo.of_eq rfl); (case c5 => decide); (case kB => exact locs rfl); (case c2 => exact rfl); (case c3 => exact rfl); (case c4 => exact rfl); k_whole)
  clear B X T
  intro g' L' h' hg B' X' T' F' N'
  w_binds F'
  (try dsimp only)
  k_fold
  k_steps
  all_goals (subst hg; refine hret _ _ _ (Fr.keep (by assumption)) ?_)
  all_goals (rfl)
set_option maxHeartbeats 4000000 in
theorem sp_neg (w : World) (mean : ExcName → Option Value) (mg mb : Str → Option Value) (a : Int) (ta : Tok) :
    Spec w mean mg mb 86 1 3 [.int a ta] (fun _ => True) (fun _ _ v => ∃ t, v = .int (-a) t) := by
  k_with_none
  w_top off
  unfold Spec
  intro dp un gd outer base s R B X T hd hu hpre hret
  k_dflt (refine' enter ?k1 ?k2 ?k3 ?k6 ?k7 ?k8 ?k9 ?kB ?_ ?c2 ?c3 ?c4 ?c5; (case k1 => exact B); (case k2 => exact X); (case k3 => exact T); (case k6 => k_is); (case k7 => k_is); (case k8 => ktr_room); (case k9 => exact BindsTo.of_eq rfl); (case c5 => decide); (case kB => exact locs rfl); (case c2 => exact rfl); (case c3 => exact rfl); (case c4 => exact rfl); k_whole)
  clear B X T
  intro g' L' h' hg B' X' T' F' N'
  w_binds F'
  (try dsimp only)
  k_fold
  k_steps
  all_goals (subst hg; refine hret _ _ _ (Fr.keep (by assumption)) ?_)
  all_goals (exact ⟨_, rfl⟩)
set_option maxHeartbeats 4000000 in
theorem sp_contains (w : World) (mean : ExcName → Option Value) (mg mb : Str → Option Value) (a b : Str) (ta tb : Tok) :
    Spec w mean mg mb 93 1 3 [.str a ta, .str b tb] (fun _ => True) (fun _ _ v => v = .bool (!(Builtin.Str.occurrences a b 0 a.length 1).isEmpty)) := by
  k_with_none
  w_top off
  unfold Spec
  intro dp un gd outer base s R B X T hd hu hpre hret
  k_dflt (refine' enter ?k1 ?k2 ?k3 ?k6 ?k7 ?k8 ?k9 ?kB ?_ ?c2 ?c3 ?c4 ?c5; (case k1 => exact B); (case k2 => exact X); (case k3 => exact T); (case k6 => k_is); (case k7 => k_is); (case k8 => ktr_room); (case k9 => exact BindsTo.of_eq rfl); (case c5 => decide); (case kB => exact locs rfl); (case c2 => exact rfl); (case c3 => exact rfl); (case c4 => exact rfl); k_whole)
  clear B X T
  intro g' L' h' hg B' X' T' F' N'
  w_binds F'
  (try dsimp only)
  k_fold
  k_steps
  all_goals (subst hg; refine hret _ _ _ (Fr.keep (by assumption)) ?_)
  all_goals (rfl)
set_option maxHeartbeats 4000000 in
theorem sp_iadd (w : World) (mean : ExcName → Option Value) (mg mb : Str → Option Value) (a b : Int) (ta tb : Tok) :
    Spec w mean mg mb 107 1 3 [.int a ta, .int b tb] (fun _ => True) (fun _ _ v => ∃ t, v = .int (a + b) t) := by
  k_with_none
  w_top off
  unfold Spec
  intro dp un gd outer base s R B X T hd hu hpre hret
  k_dflt (refine' enter ?k1 ?k2 ?k3 ?k6 ?k7 ?k8 ?k9 ?kB ?_ ?c2 ?c3 ?c4 ?c5; (case k1 => exact B); (case k2 => exact X); (case k3 => exact T); (case k6 => k_is); (case k7 => k_is); (case k8 => ktr_room); (case k9 => exact BindsTo.of_eq rfl); (case c5 => decide); (case kB => exact locs rfl); (case c2 => exact rfl); (case c3 => exact rfl); (case c4 => exact rfl); k_whole)
  clear B X T
  intro g' L' h' hg B' X' T' F' N'
  w_binds F'
  (try dsimp only)
  k_fold
  k_steps
  all_goals (subst hg; refine hret _ _ _ (Fr.keep (by assumption)) ?_)
  all_goals (exact ⟨_, rfl⟩)
set_option maxHeartbeats 4000000 in
theorem sp_ilshift (w : World) (mean : ExcName → Option Value) (mg mb : Str → Option Value) (a b : Int) (ta tb : Tok) (hb : b ≤ 16) (hb0 : 0 ≤ b) (ha : a < 2^40) (ha0 : -2^40 < a) :
    Spec w mean mg mb 114 1 3 [.int a ta, .int b tb] (fun _ => True) (fun _ _ v => ∃ t, v = .int (a * 2 ^ b.toNat) t) := by
  k_with_none
  w_top off
  unfold Spec
  intro dp un gd outer base s R B X T hd hu hpre hret
  k_dflt (refine' enter ?k1 ?k2 ?k3 ?k6 ?k7 ?k8 ?k9 ?kB ?_ ?c2 ?c3 ?c4 ?c5; (case k1 => exact B); (case k2 => exact X); (case k3 => exact T); (case k6 => k_is); (case k7 => k_is); (case k8 => ktr_room); (case k9 => exact BindsTo.of_eq rfl); (case c5 => decide); (case kB => exact locs rfl); (case c2 => exact rfl); (case c3 => exact rfl); (case c4 => exact rfl); k_whole)
  clear B X T
  intro g' L' h' hg B' X' T' F' N'
  w_binds F'
  (try dsimp only)
  k_fold
  k_steps
  all_goals (subst hg; refine hret _ _ _ (Fr.keep (by assumption)) ?_)
  all_goals (exact ⟨_, rfl⟩)
set_option maxHeartbeats 4000000 in
theorem sp_imod (w : World) (mean : ExcName → Option Value) (mg mb : Str → Option Value) (a b : Int) (ta tb : Tok) (hb : 0 < b) :
    Spec w mean mg mb 121 1 3 [.int a ta, .int b tb] (fun _ => True) (fun _ _ v => ∃ t, v = .int (a % b) t) := by
  k_with_none
  w_top off
  unfold Spec
  intro dp un gd outer base s R B X T hd hu hpre hret
  k_dflt (refine' enter ?k1 ?k2 ?k3 ?k6 ?k7 ?k8 ?k9 ?kB ?_ ?c2 ?c3 ?c4 ?c5; (case k1 => exact B); (case k2 => exact X); (case k3 => exact T); (case k6 => k_is); (case k7 => k_is); (case k8 => ktr_room); (case k9 => exact BindsTo.of_eq rfl); (case c5 => decide); (case kB => exact locs rfl); (case c2 => exact rfl); (case c3 => exact rfl); (case c4 => exact rfl); k_whole)
  clear B X T
  intro g' L' h' hg B' X' T' F' N'
  w_binds F'
  (try dsimp only)
  k_fold
  k_steps
  all_goals (subst hg; refine hret _ _ _ (Fr.keep (by assumption)) ?_)
  all_goals (exact ⟨_, by rw [Int.fmod_eq_emod_of_nonneg _ (Int.le_of_lt hb)]⟩)
set_option maxHeartbeats 4000000 in
theorem sp_imul (w : World) (mean : ExcName → Option Value) (mg mb : Str → Option Value) (a b : Int) (ta tb : Tok) (ha : a.natAbs < 2^20) (hb : b.natAbs < 2^20) :
    Spec w mean mg mb 128 1 3 [.int a ta, .int b tb] (fun _ => True) (fun _ _ v => ∃ t, v = .int (a * b) t) := by
  k_with_none
  w_top off
  unfold Spec
  intro dp un gd outer base s R B X T hd hu hpre hret
  k_dflt (refine' enter ?k1 ?k2 ?k3 ?k6 ?k7 ?k8 ?k9 ?kB ?_ ?c2 ?c3 ?c4 ?c5; (case k1 => exact B); (case k2 => exact X); (case k3 => exact T); (case k6 => k_is); (case k7 => k_is); (case k8 => ktr_room); (case k9 => exact BindsTo.of_eq rfl); (case c5 => decide); (case kB => exact locs rfl); (case c2 => exact rfl); (case c3 => exact rfl); (case c4 => exact rfl); k_whole)
  clear B X T
  intro g' L' h' hg B' X' T' F' N'
  w_binds F'
  (try dsimp only)
  k_fold
  k_steps
  all_goals (subst hg; refine hret _ _ _ (Fr.keep (by assumption)) ?_)
  all_goals (exact ⟨_, rfl⟩)
set_option maxHeartbeats 4000000 in
theorem sp_isub (w : World) (mean : ExcName → Option Value) (mg mb : Str → Option Value) (a b : Int) (ta tb : Tok) :
    Spec w mean mg mb 135 1 3 [.int a ta, .int b tb] (fun _ => True) (fun _ _ v => ∃ t, v = .int (a - b) t) := by
  k_with_none
  w_top off
  unfold Spec
  intro dp un gd outer base s R B X T hd hu hpre hret
  k_dflt (refine' enter ?k1 ?k2 ?k3 ?k6 ?k7 ?k8 ?k9 ?kB ?_ ?c2 ?c3 ?c4 ?c5; (case k1 => exact B); (case k2 => exact X); (case k3 => exact T); (case k6 => k_is); (case k7 => k_is); (case k8 => ktr_room); (case k9 => exact BindsTo.of_eq rfl); (case c5 => decide); (case kB => exact locs rfl); (case c2 => exact rfl); (case c3 => exact rfl); (case c4 => exact rfl); k_whole)
  clear B X T
  intro g' L' h' hg B' X' T' F' N'
  w_binds F'
  (try dsimp only)
  k_fold
  k_steps
  all_goals (subst hg; refine hret _ _ _ (Fr.keep (by assumption)) ?_)
  all_goals (exact ⟨_, rfl⟩)
end

-- Base2
section
section
variable {prog : Program} {w : World} {A : Around} {E : Value → Shared → Prop} {s : Shared} {a b : Int} {t u : Tok} {Q : Value → Shared → Prop}
theorem mod_e (hb : 0 < b) (h : ∀ k, Q (.int (a % b) k) { s with toks := s.toks + 1 }) : wpAny (model prog w) A (binaryOp .Mod (.int a t) (.int b u)) Q E s :=
  mod_int' (by omega) (by rw [Int.fmod_eq_emod_of_nonneg _ (Int.le_of_lt hb)]; exact h _)
theorem div_e (hb : 0 < b) (hp : Builtin.divisionGoesByPylong a b = false) (h : ∀ k, Q (.int (a / b) k) { s with toks := s.toks + 1 }) : wpAny (model prog w) A (binaryOp .FloorDiv (.int a t) (.int b u)) Q E s :=
  floordiv_int (by omega) (by rw [Int.fdiv_eq_ediv_of_nonneg _ (Int.le_of_lt hb)]; exact h _) (Or.inl hp)
theorem len_lit {l : Addr} {items : Array Value} {n : Int} (hl : s.heap.IsList l items) (hn : (items.size : Int) = n) (hfit : n < 2 ^ 63)
    (h : ∀ k, Q (.int n k) { s with toks := s.toks + 1 + 1 }) : wpAny (model prog w) A (call (.builtin "len") [.ref l]) Q E s := by
  subst hn; exact len_list hl hfit (h _)
theorem mul_lit {h₀ : Heap} {L : Addr} {m : Str → Option Value} {news : List (Addr × Obj)} {l : Addr} {items : Array Value} {c : Nat} {x : Int} {v : Tok} {q : List Value}
    (Fm : Fr h₀ L s.heap m) (N : News h₀ L s.heap news) (hm : (l, listOf items c) ∈ news) (hlo : -(2 ^ 63 : Int) ≤ x) (hhi : x < 2 ^ 63) (hsz : items.size * x.toNat ≤ 2 ^ 24)
    (hq : List.foldl (fun x1 x2 => x1 ++ x2) #[] (List.replicate (if items.isEmpty = true then 0 else x.toNat) items) = q.toArray)
    (h : ∀ D h', Fr h₀ L h' m → News h₀ L h' ((D, listOf q.toArray 0) :: news) → (∀ p ∈ news, p.1 < D) → Q (.ref D) { s with heap := h' }) :
    wpAny (model prog w) A (binaryOp .Mult (.ref l) (.int x v)) Q E s := by
  refine mul_list Fm N (N _ hm).1 hlo hhi hsz fun h' F' N' => ?_
  rw [hq] at N'
  exact h _ h' F' N' fun p hp => Heap.lt_size (N p hp).1
end
def tab (c : Int) : Bool := if c < 64976 then false else if c < 65008 then true else decide (c % 65536 = 65534 ∨ c % 65536 = 65535)
theorem land16 (c : Nat) : Builtin.bitAnd (c : Int) 65535 = (c : Int) % 65536 := by
  show ((c &&& 65535 : Nat) : Int) = _
  have : c &&& 65535 = c % 65536 := Nat.and_two_pow_sub_one_eq_mod c 16
  rw [this]; omega
theorem got_new {h₀ h : Heap} {L D : Addr} {news : List (Addr × Obj)} {o o' : Obj} (N : News h₀ L h ((D, o) :: news)) (e : o = o') : h.get? D = some o' := by subst e; exact N.get (.head _)
theorem new_none {h₀ h : Heap} {L D : Addr} {news : List (Addr × Obj)} {o : Obj} (N : News h₀ L h ((D, o) :: news)) : h₀.get? D = none := N.fresh (.head _)
theorem congrArg₂ {α β γ : Sort _} {a a' : α} {b b' : β} (f : α → β → γ) (h : a = a') (h' : b = b') : f a b = f a' b' := by rw [h, h']
theorem lst_eq {a b : Array Value} {n m : Nat} (h : a = b) (k : n = m) : listOf a n = listOf b m := by rw [h, k]
theorem beqd (a b : Int) : (a == b) = decide (a = b) := by by_cases h : a = b <;> simp [h]
end

-- L2
section
theorem sp_ilshift16 (w : World) (mean : ExcName → Option Value) (mg mb : Str → Option Value) (a : Int) (ta tb : Tok) (ha : a < 2^40) (ha0 : -2^40 < a) : Spec w mean mg mb 114 1 3 [.int a ta, .int 16 tb] (fun _ => True) (fun _ _ v => ∃ t, v = .int (a * 65536) t) :=
  sp_ilshift w mean mg mb a 16 ta tb (by decide) (by decide) ha ha0

theorem leaves_chk : ∀ r : Nat, r < 9 → 2 ≤ r → ∀ m : Nat, m < 256 → ∀ k : Nat, k < 2 → decide ((((m : Int) - 1) * 2 ^ (16 - r) + (65535 - (k : Int))) % 65536 = 65534 ∨ (((m : Int) - 1) * 2 ^ (16 - r) + (65535 - (k : Int))) % 65536 = 65535) = decide ((m : Int) % 2 ^ r = 1) := by decide +kernel
theorem tab_high {q w : Int} (hq : 0 ≤ q) : tab ((1 + q) * 65536 + w % 65536) = decide (w % 65536 = 65534 ∨ w % 65536 = 65535) := by
  have h : (1 + 0) * 65536 + 0 ≤ (1 + q) * 65536 + w % 65536 := Int.add_le_add (Int.mul_le_mul_of_nonneg_right (Int.add_le_add_left hq 1) (by decide)) (Int.emod_nonneg _ (by decide))
  unfold tab
  rw [if_neg (Int.not_lt.mpr (Int.le_trans (by decide) h)), if_neg (Int.not_lt.mpr (Int.le_trans (by decide) h)), Int.add_comm ((1 + q) * 65536), Int.add_mul_emod_self_right, Int.emod_emod]
theorem leaves_law (n turn : Int) (r : Int) (hr : 2 ≤ r) (hr2 : r ≤ 8) (hn : 0 ≤ n) :
    tab (((1 + turn % 16) * 65536 + ((n - 1) * 2 ^ (16 - r).toNat + (65535 - turn / 16 % 2)) % 65536)) = decide (n % 2 ^ r.toNat = 1) := by
  obtain ⟨r, rfl⟩ := Int.eq_ofNat_of_zero_le (Int.le_trans (by decide) hr)
  have hr := Int.ofNat_le.mp hr
  have hr2 := Int.ofNat_le.mp hr2
  have h := leaves_chk r (Nat.lt_succ_of_le hr2) hr (n % 256).toNat ((Int.toNat_lt (Int.emod_nonneg _ (by decide))).mpr (Int.emod_lt_of_pos _ (by decide))) (turn / 16 % 2).toNat ((Int.toNat_lt (Int.emod_nonneg _ (by decide))).mpr (Int.emod_lt_of_pos _ (by decide)))
  rw [Int.toNat_of_nonneg (Int.emod_nonneg _ (by decide)), Int.toNat_of_nonneg (Int.emod_nonneg _ (by decide))] at h
  have e1 : (16 - (r : Int)).toNat = 16 - r := Int.toNat_sub 16 r
  have e2 : ((r : Int)).toNat = r := rfl
  have e3 : (256 : Int) = 2 ^ r * 2 ^ (8 - r) := by rw [← Int.pow_add, Nat.add_sub_cancel' hr2]; rfl
  have e4 : (256 : Int) * 2 ^ (16 - r) = 2 ^ (8 - r) * 65536 := by
    rw [e3, Int.mul_comm (2 ^ r), Int.mul_assoc, ← Int.pow_add, Nat.add_sub_cancel' (Nat.le_trans hr2 (by decide))]; rfl
  have e5 : (n - 1) * 2 ^ (16 - r) + (65535 - turn / 16 % 2) = (n % 256 - 1) * 2 ^ (16 - r) + (65535 - turn / 16 % 2) + n / 256 * 2 ^ (8 - r) * 65536 := by
    have e : n - 1 = n % 256 - 1 + n / 256 * 256 := by omega
    rw [e, Int.add_mul, Int.mul_assoc, e4, Int.add_right_comm, ← Int.mul_assoc]
  rw [e1, e5, tab_high (Int.emod_nonneg turn (by decide)), Int.add_mul_emod_self_right, h, e3, Int.emod_emod_of_dvd _ (Int.dvd_mul_right _ _)]
  rfl
set_option maxHeartbeats 4000000 in
theorem sp_table (w : World) (mean : ExcName → Option Value) (mg mb : Str → Option Value) (c : Nat) (ta : Tok) (hc : c ≤ 1114111) :
    Spec w mean mg mb 21 1 3 [.str ⟨#[c]⟩ ta] (fun _ => True) (fun _ _ v => v = .bool (tab c)) := by
  k_with_none
  w_top off
  k_with "own binaryOp Mod int int" => (k_here; (with_reducible refine mod_e ?_ ?_); (focus (first | decide | omega)); intro k')
  k_with "own binaryOp FloorDiv int int" => (k_here; (with_reducible refine div_e ?_ ?_ ?_); (focus (first | decide | omega)); (focus (exact PyProof.noPylong_small (by first | decide | omega))); intro k')
  k_with "own call ref" => (k_here; k_dflt (refine call_aI (sp_iadd _ _ _ _ _ _ _ _) ?_; intro t' h' tk' F' N'; (try k_sweep); (try dsimp only); (try k_fold)))
  k_with "own call ref" => (k_here; k_dflt (refine call_aI (sp_ilshift _ _ _ _ _ _ _ _ (by first | assumption | omega) (by first | assumption | omega) (by first | assumption | omega) (by first | assumption | omega)) ?_; intro t' h' tk' F' N'; (try k_sweep); (try dsimp only); (try k_fold)))
  k_with "own call ref" => (k_here; k_dflt (refine call_aI (sp_ilshift16 _ _ _ _ _ _ _ (by first | assumption | omega) (by first | assumption | omega)) ?_; intro t' h' tk' F' N'; (try k_sweep); (try dsimp only); (try k_fold)))
  k_with "own call ref" => (k_here; k_dflt (refine call_aI (sp_imod _ _ _ _ _ _ _ _ (by first | assumption | omega)) ?_; intro t' h' tk' F' N'; (try k_sweep); (try dsimp only); (try k_fold)))
  k_with "own call ref" => (k_here; k_dflt (refine call_aI (sp_isub _ _ _ _ _ _ _ _) ?_; intro t' h' tk' F' N'; (try k_sweep); (try dsimp only); (try k_fold)))
  k_with "own call ref" => (k_here; k_dflt (refine call_aB (sp_tableI _ _ _ _ _ _ (by first | assumption | omega) (by first | assumption | omega)) ?_; intro h' tk' F' N'; (try k_sweep); (try dsimp only); (try k_fold)))
  unfold Spec
  intro dp un gd outer base s R B X T hd hu hpre hret
  k_dflt (refine' enter ?k1 ?k2 ?k3 ?k6 ?k7 ?k8 ?k9 ?kB ?_ ?c2 ?c3 ?c4 ?c5; (case k1 => exact B); (case k2 => exact X); (case k3 => exact T); (case k6 => k_is); (case k7 => k_is); (case k8 => ktr_room); (case k9 => exact BindsTo.of_eq rfl); (case c5 => decide); (case kB => exact locs rfl); (case c2 => exact rfl); (case c3 => exact rfl); (case c4 => exact rfl); k_whole)
  clear B X T
  intro g' L' h' hg B' X' T' F' N'
  w_binds F'
  (try dsimp only)
  k_fold
  k_steps
  all_goals (subst hg; refine hret _ _ _ (Fr.keep (by assumption)) ?_)
  all_goals (first
    | (refine congrArg Value.bool ?_; unfold tab; rw [if_pos (by omega)]; done)
    | (refine congrArg Value.bool ?_; unfold tab; rw [if_neg (by omega), if_pos (by omega)]; done)
    | (refine congrArg Value.bool ?_; unfold tab; rw [if_neg (by omega), if_neg (by omega), land16]; simp only [List.any_cons, List.any_nil, Bool.or_false]; rw [Bool.eq_iff_iff]; simp only [Bool.or_eq_true, beq_iff_eq, decide_eq_true_eq]; exact or_congr eq_comm eq_comm))
theorem sp_tableI (w : World) (mean : ExcName → Option Value) (mg mb : Str → Option Value) (i : Int) (ta : Tok) (h0 : 0 ≤ i) (h1 : i ≤ 1114111) : Spec w mean mg mb 21 1 3 [.str ⟨#[i.toNat]⟩ ta] (fun _ => True) (fun _ _ v => v = .bool (tab i)) := by
  have := sp_table w mean mg mb i.toNat ta (by omega)
  rwa [show ((i.toNat : Nat) : Int) = i by omega] at this
set_option maxHeartbeats 4000000 in
theorem sp_leaves (w : World) (mean : ExcName → Option Value) (mg mb : Str → Option Value) (n r turn : Int) (ta tb tc : Tok) (hn : 0 ≤ n) (hn2 : n < 65536) (hr : 2 ≤ r) (hr2 : r ≤ 8) :
    Spec w mean mg mb 187 2 6 [.int n ta, .int r tb, .int turn tc] (fun _ => True) (fun _ _ v => v = .bool (decide (n % 2 ^ r.toNat = 1))) := by
  k_with_none
  w_top off
  k_with "own binaryOp Mod int int" => (k_here; (with_reducible refine mod_e ?_ ?_); (focus (first | decide | omega)); intro k')
  k_with "own binaryOp FloorDiv int int" => (k_here; (with_reducible refine div_e ?_ ?_ ?_); (focus (first | decide | omega)); (focus (exact PyProof.noPylong_small (by first | decide | omega))); intro k')
  k_with "own call ref" => (k_here; k_dflt (refine call_aI (sp_iadd _ _ _ _ _ _ _ _) ?_; intro t' h' tk' F' N'; (try k_sweep); (try dsimp only); (try k_fold)))
  k_with "own call ref" => (k_here; k_dflt (refine call_aI (sp_ilshift _ _ _ _ _ _ _ _ (by first | assumption | omega) (by first | assumption | omega) (by first | assumption | omega) (by first | assumption | omega)) ?_; intro t' h' tk' F' N'; (try k_sweep); (try dsimp only); (try k_fold)))
  k_with "own call ref" => (k_here; k_dflt (refine call_aI (sp_ilshift16 _ _ _ _ _ _ _ (by first | assumption | omega) (by first | assumption | omega)) ?_; intro t' h' tk' F' N'; (try k_sweep); (try dsimp only); (try k_fold)))
  k_with "own call ref" => (k_here; k_dflt (refine call_aI (sp_imod _ _ _ _ _ _ _ _ (by first | assumption | omega)) ?_; intro t' h' tk' F' N'; (try k_sweep); (try dsimp only); (try k_fold)))
  k_with "own call ref" => (k_here; k_dflt (refine call_aI (sp_isub _ _ _ _ _ _ _ _) ?_; intro t' h' tk' F' N'; (try k_sweep); (try dsimp only); (try k_fold)))
  k_with "own call ref" => (k_here; k_dflt (refine call_aB (sp_tableI _ _ _ _ _ _ (by first | assumption | omega) (by first | assumption | omega)) ?_; intro h' tk' F' N'; (try k_sweep); (try dsimp only); (try k_fold)))
  unfold Spec
  intro dp un gd outer base s R B X T hd hu hpre hret
  k_dflt (refine' enter ?k1 ?k2 ?k3 ?k6 ?k7 ?k8 ?k9 ?kB ?_ ?c2 ?c3 ?c4 ?c5; (case k1 => exact B); (case k2 => exact X); (case k3 => exact T); (case k6 => k_is); (case k7 => k_is); (case k8 => ktr_room); (case k9 => exact BindsTo.of_eq rfl); (case c5 => decide); (case kB => exact locs rfl); (case c2 => exact rfl); (case c3 => exact rfl); (case c4 => exact rfl); k_whole)
  clear B X T
  intro g' L' h' hg B' X' T' F' N'
  w_binds F'
  (try dsimp only)
  k_fold
  k_steps
  all_goals (subst hg; refine hret _ _ _ (Fr.keep (by assumption)) ?_)
  all_goals ((refine congrArg Value.bool ?_; exact leaves_law n turn r hr hr2 hn))
end

-- Exc
section
section
variable {M : Model} {A : Around} {E : Value → Shared → Prop}
variable {nm q nm1 q1 : Str} {C N C1 N1 : Addr} {bs bm bs1 bm1 : List Value} {hdct hdct1 : Bool} {sn sn1 : List Str} {sub sub1 : List Value} {ab ab1 : Bool} {col col1 : Option Bool} {dd dd1 : Option Addr} {k0 k1 k2 k3 k5 j0 j1 j2 j3 j5 : Option Value} {newId newId1 : String}
theorem excMatches_other {h : Heap} {g : Array GenState} {d : Drawn} {t : Nat} {os : OsState} {e : Addr} {oe : Obj} {Q : Bool → Shared → Prop}
    (hC : h.get? C = some (excClassObj nm q C N bs bm hdct sn sub ab col dd k0 k1 k2 k3 k5 newId)) (he : h.get? e = some oe) (hcls : oe.cls = .ref C)
    (hC1 : h.get? C1 = some (excClassObj nm1 q1 C1 N1 bs1 bm1 hdct1 sn1 sub1 ab1 col1 dd1 j0 j1 j2 j3 j5 newId1)) (hbase : bm1.contains (.type "BaseException") = true) (hmiss : (Value.ref C :: bm).contains (.ref C1) = false)
    (hq : Q false ⟨h, g, d, t, os⟩) : wpAny M A (excMatches (.ref e) (.ref C1)) Q E ⟨h, g, d, t, os⟩ := by
  have hcB : (Value.ref C1 :: bm1).contains (.type "BaseException") = true := by rw [List.contains_cons, hbase, Bool.or_true]
  have f := tc_notTuple
  unfold excMatches
  repeat (first | (with_reducible refine wpAny_loadPart_at he ?_; rw [hcls]) | with_reducible refine wpAny_loadPart_at hC1 ?_ | (with_reducible refine wpAny_isSubtype_exc hC1 ?_; rw [hcB]) | (with_reducible refine wpAny_isSubtype_exc hC ?_; rw [hmiss]) | wp_step)
  exact hq
end
def missIn (K : Frag) (C C1 : Addr) : Bool := match K.lookup C with
  | some ⟨_, _, .cls cd, _⟩ => !(cd.mro.contains (.ref C1))
  | _ => false
theorem miss_of {K : Frag} {h : Heap} {C C1 N : Addr} {nm q : Str} {bs bm : List Value} {hdct : Bool} {sn : List Str} {sub : List Value} {ab : Bool} {col : Option Bool} {dd : Option Addr} {k0 k1 k2 k3 k5 : Option Value} {newId : String}
    (X : K.In h) (e : missIn K C C1 = true) (hC : h.get? C = some (excClassObj nm q C N bs bm hdct sn sub ab col dd k0 k1 k2 k3 k5 newId)) : (Value.ref C :: bm).contains (.ref C1) = false := by
  unfold missIn at e
  split at e
  · rename_i ho
    have h1 := X _ _ ho
    rw [hC] at h1
    cases h1
    simpa using e
  · cases e

section
variable {prog : Program} {w : World} {A₀ : Around} {E : Value → Shared → Prop} {s' : Shared} {base g g₀ G : Heap} {outer : List Env} {L a e t C C1 : Addr} {m : Str → Option Value} {name : Str} {scope : Scope} {cd : Value}
  {vs : List Value} {n : Str} {n1 : Option Str} {b₀ : Stmt} {suite b1 : List Stmt} {pos np pos1 np1 : Pos} {rest : List ExceptHandler} {Q : Flow → Shared → Prop} {news : List (Addr × Obj)} {KF : Frag}
  {p : Program} {loose : List Str} {mean : ExcName → Option Value} {mg mb : Str → Option Value} {x x1 : Str}
/-- an own exception that the second clause catches: the first names an own class that it is not of -/
theorem caught2 (R : RaisedS base G (envOf name scope L a cd :: outer) e (.ref C) t vs news s'.heap) (F : Fr g L G m) (K : Below A₀ base outer g) (hsm : G.UpToSlots s'.heap) (XB : KF.In base) (TB : Top p loose mean mg mb base)
    (D : KtsDicts (outer.filterMap (·.frame)) g) (T0 : KtsTurn (outer.filterMap (·.frame)) g₀ g)
    (ex1 : nsIn KF mainGlobals x1 = some (some (.ref C1))) (q1 : ktsIn KF C1 "BaseException" = true) (qm : missIn KF C C1 = true)
    (ex : nsIn KF mainGlobals x = some (some (.ref C))) (q : ktsIn KF C "BaseException" = true)
    (k : ∀ h' g' news₂ tk, KtsTurn (outer.filterMap (·.frame)) g₀ g' → Fr g' L h' (fun y => if y = n then some (.ref e) else m y) → News g' L h' news₂ → Got news₂ e t (.ref C) vs → News g' L h' news → Below A₀ base outer g' → KF.In g' → Top p loose mean mg mb g' → KtsDicts (outer.filterMap (·.frame)) g' →
      wpAny (model prog w) ((A₀.deeper (envOf name scope L a cd)).mark (some (.ref e))) (execs (b₀ :: suite) (envOf name scope L a cd))
        (fun f s₄ => wpAny (model prog w) (A₀.deeper (envOf name scope L a cd)) (do bindName (envOf name scope L a cd) n .none; unbindBehindTheSuite (envOf name scope L a cd) n pos) (fun _ s₅ => Q f s₅) E s₄)
        (AsSuiteRaised (model prog w) ((A₀.deeper (envOf name scope L a cd)).mark (some (.ref e))) (envOf name scope L a cd) n pos (notedBy (model prog w) ((A₀.deeper (envOf name scope L a cd)).mark (some (.ref e))) (envOf name scope L a cd) (cameBackBy (model prog w) (A₀.deeper (envOf name scope L a cd)) (envOf name scope L a cd) E)))
        { s' with heap := h', toks := tk })
    (hk : scope.kind = .function := by rfl) (hlo : (envOf name scope L a cd).kindOf n = some .local := by rfl) (hx : (envOf name scope L a cd).kindOf x = some .globalImplicit := by rfl) (hd : (x == ("__debug__" : Str)) = false := by decide)
    (hx1 : (envOf name scope L a cd).kindOf x1 = some .globalImplicit := by rfl) (hd1 : (x1 == ("__debug__" : Str)) = false := by decide) :
    wpAny (model prog w) (A₀.deeper (envOf name scope L a cd)) (noteFrame (.ref e) (envOf name scope L a cd))
      (fun _ s₂ => wpAny (model prog w) (A₀.deeper (envOf name scope L a cd)) (setFlight (.ref e) none) (fun _ s₃ =>
        wpAny (model prog w) (A₀.deeper (envOf name scope L a cd)) (handleBy (.ref e) (envOf name scope L a cd) (.ExceptHandler (some (.Name x1 np1)) n1 b1 pos1 :: .ExceptHandler (some (.Name x np)) (some n) (b₀ :: suite) pos :: rest)) Q E s₃) E s₂) E s' := by
  obtain ⟨⟨B, hB, hBG, hl, hfl, hnew⟩, htup⟩ := R
  have hL : B.get? L = none := by
    obtain ⟨_, ⟨L', _, hf, hn', _⟩, _⟩ := hfl.2.2.1
    obtain rfl : L = L' := Option.some.inj hf
    exact hn'
  refine wpAny_looks_onW (Around.frames_deeper K.stack) rfl hfl fun h₄ hheld₄ hsm₄ => ?_
  refine wpAny_landsW hheld₄ fun h₅ hheld hsm₅' => ?_
  have up₅ := hsm.trans (hsm₄.trans hsm₅')
  obtain ⟨g₅, T₅, F₅, K₅⟩ := kts_ground K F hBG hheld.1 up₅
  have X₅ : KF.In g₅ := XB.keeps K₅.stays
  have P₅ : TopRead p loose mg mb g₅ := topRead_of (TB.keeps K₅.stays)
  obtain ⟨ob, hob, hobc⟩ := hheld.there
  obtain ⟨_, _, _, _, bm, _, _, _, _, _, _, _, _, _, _, _, _, hC, hbase, _⟩ := kts_cls X₅ q
  obtain ⟨_, _, _, _, bm1, _, _, _, _, _, _, _, _, _, _, _, _, hC1, hbase1, _⟩ := kts_cls X₅ q1
  refine wpAny_handleBy_cons (codeAny_handlers_test (name_K F₅ X₅ P₅ ex1 ?_ hk hx1 hd1)) (by intro z; cases z)
  refine excMatches_other (F₅.keep _ _ hC) hob hobc (F₅.keep _ _ hC1) hbase1 (miss_of X₅ qm hC) ?_
  show wpAny _ _ (handleBy _ _ _) Q E _
  refine wpAny_handleBy_cons (codeAny_handlers_test (name_K F₅ X₅ P₅ ex ?_ hk hx hd)) (by intro z; cases z)
  refine wpAny_excMatches_sub_self (F₅.keep _ _ hC) hob hobc hbase (codeAny_handlers_suite_as ?_)
  refine lands_againW hheld fun h₆ hfl₆ hsm₆ => ?_
  have up₆ := up₅.trans hsm₆
  obtain ⟨g₆, T₆, F₆, K₆⟩ := kts_ground K F hBG hfl₆.1 up₆
  obtain ⟨oe, ws, hoe, hoec, hoed, hoe0⟩ := hfl₆.first
  obtain ⟨ot, nt, hot, hotc, hotd⟩ := (htup.of_slots (hsm₄.trans hsm₅')).of_slots hsm₆
  have ne₆ : g₆.get? e = none := T₆.none_ _ (kts_fresh F hBG hfl₆.2.1 fun o ho mm => by
    obtain ⟨_, o', ho', hd'⟩ := K.frames.mem mm
    rw [ho] at ho'
    cases ho'
    obtain ⟨sl, hs⟩ := up₆ _ _ (F.keep _ _ ho) hd'
    rw [hoe] at hs
    cases hs
    exact hd' _ hoed)
  have nt₆ : g₆.get? t = none := T₆.none_ _ (kts_fresh F hBG hnew fun o ho mm => by
    obtain ⟨o', es, n', ho', hd'⟩ := D _ mm
    rw [ho] at ho'
    cases ho'
    obtain ⟨sl, hs⟩ := up₆ _ _ (F.keep _ _ ho) (fun vs z => by rw [hd'] at z; cases z)
    rw [hot] at hs
    cases hs
    cases hd'.symm.trans hotd)
  have N₆ := News.more F₆ (News.more F₆ News.nil hot (fun es n z => by rw [hotd] at z; cases z) nt₆) hoe (fun es n z => by rw [hoed] at z; cases z) ne₆
  have Nl : News g₆ L h₆ news := fun r hr => ⟨hfl₆.1 _ _ (hl r hr).1, (fun z => by have := (hl r hr).1; rw [z, hL] at this; cases this), T₆.none_ _ (kts_none F.keep (hl r hr).2.1)⟩
  have hall : News g₆ L h₆ (_ ++ news) := fun r hr => (List.mem_append.mp hr).elim (N₆ r) (Nl r)
  refine stN F₆ hall (fun h₇ F₇ N₇ => ?_) hk hlo
  exact k h₇ g₆ _ _ (T0.trans T₆) F₇ (fun r hr => N₇ r (List.mem_append_left _ hr)) ⟨oe, ot, ws, nt, .head _, .tail _ (.head _), hoec, hoed, hoe0, hotc, hotd⟩ (fun r hr => N₇ r (List.mem_append_right _ hr)) K₆ (XB.keeps K₆.stays) (TB.keeps K₆.stays) (D.turn T₆)
end
theorem ite_t {c : Prop} [Decidable c] {a b : Prop} (h : c) (ha : a) : ite c a b := by rw [if_pos h]; exact ha
theorem ite_f {c : Prop} [Decidable c] {a b : Prop} (h : ¬ c) (hb : b) : ite c a b := by rw [if_neg h]; exact hb
theorem ite_fb {c : Bool} {a b : Prop} (h : c = false) (hb : b) : ite (c = true) a b := by rw [h]; exact hb
/-- as Spec, but a raise and a catch within may have turned the slots of the outer frames -/
def SpecX (w : World) (mean : ExcName → Option Value) (mg mb : Str → Option Value) (f : Addr) (d u : Nat) (args : List Value) (pre : Heap → Prop) (post : Heap → Heap → Value → Prop) : Prop :=
  ∀ (dp un : Nat) (gd : Option (List Code)) (outer : List Env) (base : Heap) (s : Shared) (R : Result → Shared → Prop),
    Below (topA dp un gd outer) base outer s.heap → Frag.In (Mine.hd.heap_39 w.params) s.heap → Top Mine.hd.view_39 (looseW Mine.hd.view_39 []) mean mg mb s.heap →
    Frag.In (Mine.hd.heap_39 w.params) base → Top Mine.hd.view_39 (looseW Mine.hd.view_39 []) mean mg mb base → KtsDicts (outer.filterMap (·.frame)) s.heap →
    dp + d < recursionLimit → un + u < cLine → pre s.heap →
    (∀ v h' tk' g', KtsTurn (outer.filterMap (·.frame)) s.heap g' → (∀ b o, g'.get? b = some o → h'.get? b = some o) → post s.heap h' v → R (.ok (.ret v)) { s with heap := h', toks := tk' }) →
    codeAny (model PySem.Challenge.pw_yf0007_01 w) (topA dp un gd outer) (.call (.ref f) ⟨args, []⟩) R s
end

-- ExcS
section
open Builtin Builtin.Str Builtin.BaseException Builtin.Exceptions
section
variable {prog : Program} {w : World} {A : Around} {E : Value → Shared → Prop} {s : Shared} {e t0 C : Addr} {oe : Obj} {vs : Array Value} {m : Str} {tk : Tok} {K : Frag}
theorem own_exc_entry {Q : Fin → Shared → Prop} (ho : s.heap.get? e = some oe) (hd : oe.data = .fields vs) (h0 : vs[0]? = some (.ref t0)) (ht : s.heap.TupAt t0 [.str m tk]) (hq : Q (.done (.ret (.str m tk))) s) :
    wpAny (model prog w) A (Builtin.«BaseException.__str__» ⟨[.ref e], []⟩) Q E s := by
  have hargs : ∀ {M : Model} {A' : Around} {E' : Value → Shared → Prop} {Q' : Value × List Value → Shared → Prop}, Q' (.ref t0, [.str m tk]) s → wpAny M A' (bexcArgs (.ref e)) Q' E' s := by
    intro M A' E' Q' hq'
    obtain ⟨ot, k, hto, _, htd⟩ := ht
    unfold bexcArgs
    refine wpAny_bind (wpAny_field ho hd h0 (wpAny_bind (wpAny_seqItems hto htd ?_)))
    exact wpAny_pure hq'
  unfold Builtin.«BaseException.__str__»
  repeat (first | with_reducible refine hargs ?_ | wp_step)
  exact hq
theorem own_exc_is (X : K.In s.heap) (ho : s.heap.get? e = some oe) (hc : oe.cls = .ref C) (hb : mroIn K C (.type "BaseException") = some true) (M : Model) : Looks M s.heap (isInstance (.ref e) (.type "BaseException")) true :=
  ((Looks.ld ho).andThen (by rw [hc]; exact Looks.now) : Looks M s.heap (typeOf (.ref e)) (.ref C)).andThen (looks_mroIn X hb)
theorem kind_bexc_str : builtinKind "BaseException.__str__" = some .slot := by decide +kernel
theorem split_bexc_str : splitId "BaseException.__str__" = some ("BaseException", "__str__") := by decide +kernel
theorem own_check {M : Model} {Q : Unit → Shared → Prop} (X : K.In s.heap) (ho : s.heap.get? e = some oe) (hc : oe.cls = .ref C) (hb : mroIn K C (.type "BaseException") = some true) (q : Q () s) :
    wpAny M A (checkBuiltinCall "BaseException.__str__" ⟨[.ref e], []⟩) Q E s := by
  have ha := PySem.F.args_bexc_str (.ref e)
  have hi := own_exc_is X ho hc hb M
  revert ha hi
  generalize hid : "BaseException.__str__" = i
  generalize hown : "BaseException" = o
  intro ha hi
  exact check_slot (n := "__str__") (by rw [← hid]; exact kind_bexc_str) (by rw [← hid, ← hown]; exact split_bexc_str) hi ha q
theorem own_exc_call {Q : Value → Shared → Prop} (X : K.In s.heap) (ho : s.heap.get? e = some oe) (hc : oe.cls = .ref C) (hd : oe.data = .fields vs) (h0 : vs[0]? = some (.ref t0)) (ht : s.heap.TupAt t0 [.str m tk])
    (hb : mroIn K C (.type "BaseException") = some true) (hq : Q (.str m tk) s) : wpAny (model prog w) A (call (.builtin "BaseException.__str__") [.ref e]) Q E s := by
  have hin := own_exc_entry (prog := prog) (w := w) (A := A.in1) (E := E) (Q := fun fin s' => ∃ v, fin = .done (.ret v) ∧ Q v s') ho hd h0 ht ⟨_, rfl, hq⟩
  refine wpAny_call (codeAny_call_builtin PySem.F.excStr_ValueError.str.plain PySem.F.entry_bexc_str (own_check X ho hc hb (wpAny_mono hin (fun fin s' h' => ?_) fun _ _ h' => h')))
  obtain ⟨v, rfl, hv⟩ := h'; exact hv
theorem own_exc_special {Q : Option Value → Shared → Prop} (X : K.In s.heap) (ho : s.heap.get? e = some oe) (hc : oe.cls = .ref C) (hd : oe.data = .fields vs) (h0 : vs[0]? = some (.ref t0)) (ht : s.heap.TupAt t0 [.str m tk])
    (hb : mroIn K C (.type "BaseException") = some true) (hf : findIn K (.ref C) "__str__" = some (some (.builtin "BaseException.__str__"))) (hq : Q (some (.str m tk)) s) : wpAny (model prog w) A (callSpecial? (.ref e) "__str__") Q E s := by
  have hl : Looks (model prog w) s.heap (specialOf (.ref e) "__str__") (some (.builtin "BaseException.__str__")) :=
    ((Looks.ld ho).andThen (by rw [hc]; exact Looks.now) : Looks (model prog w) s.heap (typeOf (.ref e)) (.ref C)).andThen (looks_findIn X hf)
  have hbind : ∀ self, bindSpecial (.builtin "BaseException.__str__") self = pure (.builtin "BaseException.__str__", [self]) := PySem.F.excStr_ValueError.str.bind
  simp only [callSpecial?]
  refine wpAny_bind (hl.here ?_)
  simp only [hbind]
  exact wpAny_holding (wpAny_bind (wpAny_pure (wpAny_bind (own_exc_call X ho hc hd h0 ht hb (wpAny_pure hq)))))
theorem own_exc_strOf {Q : Value → Shared → Prop} (hu : A.units < cLine) (X : K.In s.heap) (ho : s.heap.get? e = some oe) (hc : oe.cls = .ref C) (hd : oe.data = .fields vs) (h0 : vs[0]? = some (.ref t0)) (ht : s.heap.TupAt t0 [.str m tk])
    (hb : mroIn K C (.type "BaseException") = some true) (hf : findIn K (.ref C) "__str__" = some (some (.builtin "BaseException.__str__"))) (hq : Q (.str m tk) s) : wpAny (model prog w) A (Builtin.Str.strOf (.ref e)) Q E s := by
  unfold Builtin.Str.strOf
  repeat (first | with_reducible refine wpAny_cRoomFor hu ?_ | with_reducible refine own_exc_special X ho hc hd h0 ht hb hf ?_ | wp_step)
  exact hq
theorem str_of_own {Q : Value → Shared → Prop} (hu : A.units + 2 < cLine) (X : K.In s.heap) (ho : s.heap.get? e = some oe) (hc : oe.cls = .ref C) (hd : oe.data = .fields vs) (h0 : vs[0]? = some (.ref t0)) (ht : s.heap.TupAt t0 [.str m tk])
    (hb : mroIn K C (.type "BaseException") = some true) (hf : findIn K (.ref C) "__str__" = some (some (.builtin "BaseException.__str__"))) (h : Q (.str m tk) s) :
    wpAny (model prog w) A (call (.type "str") [.ref e]) Q E s :=
  callType_new F.called_str (by decide) (F.typeCall_str_1 _) (F.newCall_str_1 _) (fun obj => F.args_object_init_2 obj _) F.entry_str_new
    (meets_str_new (S := fun A' R s' => A'.units + 1 < cLine ∧ K.In s'.heap ∧ s'.heap.get? e = some oe ∧ s'.heap.TupAt t0 [.str m tk] ∧ R (.ok (.ret (.str m tk))) s')
      fun _ _ A' _ _ hq => own_exc_strOf (A := A'.in1) hq.1 hq.2.1 hq.2.2.1 hc hd h0 hq.2.2.2.1 hb hf hq.2.2.2.2)
    ⟨(show A.units + 1 + 1 < cLine from hu), X, ho, ht, typeIs_str _ _ _, h⟩
theorem str_of_got {Q : Value → Shared → Prop} {h₀ : Heap} {L : Addr} {mm : Str → Option Value} {news : List (Addr × Obj)} (F : Fr h₀ L s.heap mm) (X : K.In h₀) (N : News h₀ L s.heap news) (G : Got news e t0 (.ref C) [.str m tk])
    (hb : mroIn K C (.type "BaseException") = some true) (hf : findIn K (.ref C) "__str__" = some (some (.builtin "BaseException.__str__"))) (hu : A.units + 2 < cLine) (h : Q (.str m tk) s) :
    wpAny (model prog w) A (call (.type "str") [.ref e]) Q E s := by
  obtain ⟨oe, ot, ws, nt, h1, h2, h3, h4, h5, h6, h7⟩ := G
  exact str_of_own hu (X.keeps F.keep) (N _ h1).1 h3 h4 h5 ⟨ot, nt, (N _ h2).1, h6, h7⟩ hb hf h
end
theorem turn_none_back {fs : List Addr} {g g' : Heap} (T : KtsTurn fs g g') {b : Addr} (e : g'.get? b = none) : g.get? b = none := by
  cases q : g.get? b with
  | none => rfl
  | some o =>
    by_cases m : b ∈ fs
    · obtain ⟨sl, hs⟩ := T.frame b o q m
      rw [e] at hs; cases hs
    · rw [T.other b o q m] at e; cases e
end

-- Zed
section
/-- a def of the text, called from the law's own frame L1 (whose object may get other slots), over the ground h₀ of the law -/
def SpecZ (w : World) (mean : ExcName → Option Value) (mg mb : Str → Option Value) (f : Addr) (d u : Nat) (args : List Value) (post : Value → Prop) : Prop :=
  ∀ (dp un : Nat) (gd : Option (List Code)) (env1 : Env) (L1 : Addr) (o1 : Obj) (es : Array DictEntry) (n : Nat) (h₀ : Heap) (s : Shared) (R : Result → Shared → Prop),
    env1.frame = some L1 → env1.scope.kind = .function → Frag.In (Mine.hd.heap_39 w.params) h₀ → Top Mine.hd.view_39 (looseW Mine.hd.view_39 []) mean mg mb h₀ → (∀ b o, h₀.get? b = some o → s.heap.get? b = some o) →
    (h₀.get? L1 = none ∧ h₀.objs.size ≤ s.heap.objs.size) → s.heap.get? L1 = some o1 → o1.data = .dict es n → dp + d < recursionLimit → un + u < cLine →
    (∀ v h' tk' sl, (∀ b o, h₀.get? b = some o → h'.get? b = some o) → h'.get? L1 = some { o1 with slots := sl } → post v → R (.ok (.ret v)) { s with heap := h', toks := tk' }) →
    codeAny (model PySem.Challenge.pw_yf0007_01 w) (topA dp un gd [env1]) (.call (.ref f) ⟨args, []⟩) R s
theorem none_above {h : Heap} {L : Addr} (h1 : h.objs.size ≤ L) : h.get? L = none := by
  cases q : h.get? L with
  | none => rfl
  | some o => exact absurd (Heap.lt_size q) (Nat.not_lt.mpr h1)
section
variable {prog : Program} {w : World} {A : Around} {K : Frag} {s : Shared} {h₀ : Heap} {p : Program} {loose : List Str} {mean : ExcName → Option Value} {mg mb : Str → Option Value}
  {R : Result → Shared → Prop} {name qual : Str} {params : Arguments} {body : List Stmt} {scope : Scope} {dV kV doc pm cdv ct oc : Value} {an od : Option Addr} {osl : Array (Option Value)} {f L1 : Addr} {o1 : Obj} {args : Args} {binds : List (Str × Value)}
theorem enterZ (X : K.In h₀) (T : Top p loose mean mg mb h₀) (hk : ∀ b o, h₀.get? b = some o → s.heap.get? b = some o) (hL : h₀.get? L1 = none ∧ h₀.objs.size ≤ s.heap.objs.size) (ho1 : s.heap.get? L1 = some o1)
    (ho : K.lookup f = some ⟨oc, od, .func (fnOf name qual params body scope dV kV doc pm an cdv ct), osl⟩) (hcd : codeIn K cdv qual = true) (hroom : A.depth < recursionLimit)
    (hbind : BindsTo s (fnOf name qual params body scope dV kV doc pm an cdv ct) args binds) (hkind : (binds.all fun y => scope.names.lookup y.1 == some .local || scope.names.lookup y.1 == some .cell) = true)
    (hnd : ((cellsFrom 0 scope.names []).map (·.1)).Nodup)
    (h : ∀ L' h₁ tk cells, Fr h₀ L' h₁ (bindL (envOfC qual scope L' f cdv).kindOf binds fun _ => none) → News h₀ L' h₁ ((L1, o1) :: cells) → (∀ p ∈ cells, p.1 ≠ L1) →
      CellsAre (bindC (envOfC qual scope L' f cdv).kindOf binds fun _ => none) (cellsFrom (L' + 1) scope.names []) cells →
      wpAny (model prog w) (A.deeper (envOfC qual scope L' f cdv)) (execs body (envOfC qual scope L' f cdv))
        (fun fl s' => R (.ok (.ret (match fl with | .ret v => v | _ => .none))) s')
        (fun e s' => wpAny (model prog w) (A.deeper (envOfC qual scope L' f cdv)) (leaving (envOfC qual scope L' f cdv) e) (fun _ s'' => R (.error e) s'') (fun e' s'' => R (.error e') s'') s')
        { s with heap := h₁, toks := tk })
    (hco : scope.isCoroutine = false) (hgen : scope.isGenerator = false) (hkf : scope.kind = .function) : codeAny (model prog w) A (.call (.ref f) args) R s := by
  refine codeAny_call_function hroom (hk _ _ (X _ _ ho)) rfl hco hgen rfl (codeRec_of (X.keeps hk) hcd) (hbind _ _ _ _ ?_)
  refine wpAny_newFunctionEnv_cells hkf (kindsX hkind _) fun env' he s' x => ?_
  subst he
  refine ⟨(T.keeps hk).nolimit.keeps x.toInCall.keep, codeAny_func ?_⟩
  obtain ⟨h₁, tk, rfl, _⟩ := x.done
  have hk₁ := x.toInCall.keep
  obtain ⟨cells, NC, Y⟩ := Cl.news (h₀ := s.heap) (Nat.le_refl _) fun n c hm => ⟨x.cell n c (lookup_of_mem_nodup (cellsFrom_names scope.names 0 (s.heap.objs.size + 1) [] [] rfl ▸ hnd) hm), x.above n c hm⟩
  have hlt := Heap.lt_size ho1
  have fresh : ∀ b, s.heap.get? b = none → h₀.get? b = none := fun b e => by
    cases q : h₀.get? b with
    | none => rfl
    | some o => rw [hk _ _ q] at e; cases e
  refine h s.heap.objs.size h₁ tk cells ⟨x.toInCall.ns, fun b o e => hk₁ _ _ (hk _ _ e), hL.2⟩ ?_ ?_ Y
  · intro q hq
    rcases List.mem_cons.mp hq with rfl | hq
    · exact ⟨hk₁ _ _ ho1, Nat.ne_of_lt hlt, hL.1⟩
    · exact ⟨(NC q hq).1, (NC q hq).2.1, fresh _ (NC q hq).2.2⟩
  · intro q hq e
    have := (NC q hq).2.2
    rw [e, ho1] at this
    cases this
end
theorem off1_of {D : Addr} : ∀ {l : List (Addr × Obj)}, (∀ p ∈ l, p.1 ≠ D) → LCg.Off1 D l
  | [], _ => trivial
  | _ :: _, h => ⟨h _ List.mem_cons_self, off1_of fun p hp => h p (List.mem_cons_of_mem _ hp)⟩
theorem comp_one {h₀ : Heap} {L I C D X : Addr} {m : Str → Option Value} {s₁ : Shared} {oI oC oD oX : Obj} {S : List (Addr × Obj) → Prop} {rest : Value → List (Addr × Obj) → Prop} {y : Value} {h' : Heap} {tk : Nat} {news : List (Addr × Obj)}
    (F : Fr h₀ L h' m) (N : News h₀ L h' ((X, oX) :: (I, oI) :: (C, oC) :: (D, oD) :: news)) (nX : (@Ne Nat X I) ∧ (@Ne Nat X C) ∧ (@Ne Nat X D)) (off : LCg.Off3 I C D news) (hS : S ((X, oX) :: news)) (r : rest y ((X, oX) :: news)) :
    LCg.CompEnd h₀ L m s₁ I oI C oC D oD S rest y { s₁ with heap := h', toks := tk } := by
  refine LCg.CompEnd.intro F N ((X, oX) :: news) (fun p hp => ?_) ⟨nX, off⟩ hS r
  rcases List.mem_cons.mp hp with rfl | hp
  · exact .tail _ (.head _)
  rcases List.mem_cons.mp hp with rfl | hp
  · exact .tail _ (.tail _ (.head _))
  rcases List.mem_cons.mp hp with rfl | hp
  · exact .tail _ (.tail _ (.tail _ (.head _)))
  rcases List.mem_cons.mp hp with rfl | hp
  · exact .head _
  · exact .tail _ (.tail _ (.tail _ (.tail _ hp)))
section
variable {w : World} {A : Around} {s : Shared} {h₀ : Heap} {mean : ExcName → Option Value} {mg mb : Str → Option Value} {env env1 : Env}
  {f : Addr} {args : List Value} {L L1 : Addr} {o1 : Obj} {es : Array DictEntry} {n : Nat} {m : Str → Option Value} {news : List (Addr × Obj)} {g : Obj → List (Addr × Obj)} {d u : Nat} {pre : Heap → Prop} {post : Heap → Heap → Value → Prop} {Q E : Value → Shared → Prop}
theorem call_specX {dp un : Nat} {gd : Option (List Code)} (S : SpecX w mean mg mb f d u args pre post) (F : Fr h₀ L s.heap m) (X : Frag.In (Mine.hd.heap_39 w.params) h₀) (N : News h₀ L s.heap news) (T : Top Mine.hd.view_39 (looseW Mine.hd.view_39 []) mean mg mb h₀)
    (U : UpdF L1 o1 news g) (hd1 : o1.data = .dict es n)
    (hA : A = topA dp un gd [env, env1]) (hf : env.frame = some L) (hke : env.scope.kind = .function) (hf1 : env1.frame = some L1) (hke1 : env1.scope.kind = .function) (hd : dp + d < recursionLimit) (hu : un + u < cLine) (hp : pre s.heap)
    (h : ∀ v h' tk' sl, Fr h₀ L h' m → News h₀ L h' (g { o1 with slots := sl }) → (∀ b, s.heap.get? b = none → True) → post s.heap h' v → Q v { s with heap := h', toks := tk' }) :
    wpAny (model PySem.Challenge.pw_yf0007_01 w) A (call (.ref f) args) Q E s := by
  subst hA
  refine wpAny_call ?_
  obtain ⟨preL, postL, hl, hg, hpre1, hpost1⟩ := U.split
  have hm1 : (L1, o1) ∈ news := by rw [hl]; exact List.mem_append_right _ (.head _)
  have e1 := (N _ hm1).1
  have e1' := (N _ hm1).2.2
  have e1n := (N _ hm1).2.1
  obtain ⟨oL, esL, epL, hoL, hdL, hsL⟩ := F.ns
  have hL0 : h₀.get? L = none := kts_self F
  have fsm : ∀ b, b ∈ [env, env1].filterMap (·.frame) → b = L ∨ b = L1 := fun b hb => by
    simp only [List.filterMap_cons, hf, hf1, List.filterMap_nil, List.mem_cons, List.not_mem_nil, or_false] at hb
    exact hb
  have B : Below (topA dp un gd [env, env1]) h₀ [env, env1] s.heap :=
    ⟨rfl, F.keep, ⟨by rw [hke]; decide, ⟨L, oL, hf, hL0, hoL, fun vs q => by rw [hdL] at q; cases q⟩, by rw [hke1]; decide, ⟨L1, o1, hf1, e1', e1, fun vs q => by rw [hd1] at q; cases q⟩, trivial⟩⟩
  refine S dp un gd [env, env1] h₀ s _ B (X.keeps F.keep) (T.keeps F.keep) X T (fun b hb => ?_) hd hu hp fun v h' tk' g' KT hk hpost => ?_
  · rcases fsm b hb with rfl | rfl
    · exact ⟨oL, esL, epL, hoL, hdL⟩
    · exact ⟨o1, es, n, e1, hd1⟩
  have other : ∀ b o, s.heap.get? b = some o → b ≠ L → b ≠ L1 → h'.get? b = some o := fun b o e n1 n2 => hk _ _ (KT.other b o e fun hb => (fsm b hb).elim n1 n2)
  obtain ⟨sl, hsl⟩ := KT.up e1
  obtain ⟨slL, hslL⟩ := KT.up hoL
  refine h v h' tk' sl ⟨⟨_, esL, epL, hk _ _ hslL, hdL, hsL⟩, fun b o e => other _ _ (F.keep _ _ e) (fun q => by rw [q, hL0] at e; cases e) (fun q => by rw [q, e1'] at e; cases e), F.above⟩ ?_ (fun _ _ => trivial) hpost
  rw [hg]
  intro q hq
  rcases List.mem_append.mp hq with hq | hq
  · have hq' : q ∈ news := by rw [hl]; exact List.mem_append_left _ hq
    exact ⟨other _ _ (N q hq').1 (N q hq').2.1 (hpre1 q hq), (N q hq').2⟩
  · rcases List.mem_cons.mp hq with rfl | hq
    · exact ⟨hk _ _ hsl, e1n, e1'⟩
    · have hq' : q ∈ news := by rw [hl]; exact List.mem_append_right _ (.tail _ hq)
      exact ⟨other _ _ (N q hq').1 (N q hq').2.1 (hpost1 q hq), (N q hq').2⟩
/-- .. for a def that gives a list of two strs -/
theorem call_specXL {dp un : Nat} {gd : Option (List Code)} {x1 x2 : Str} (S : SpecX w mean mg mb f d u args (fun _ => True) (fun hh h' v => ∃ D zn t1 t2, v = .ref D ∧ h'.get? D = some (listOf [.str x1 t1, .str x2 t2].toArray zn) ∧ hh.get? D = none)) (F : Fr h₀ L s.heap m) (X : Frag.In (Mine.hd.heap_39 w.params) h₀) (N : News h₀ L s.heap news) (T : Top Mine.hd.view_39 (looseW Mine.hd.view_39 []) mean mg mb h₀)
    (U : UpdF L1 o1 news g) (hd1 : o1.data = .dict es n)
    (hA : A = topA dp un gd [env, env1]) (hf : env.frame = some L) (hke : env.scope.kind = .function) (hf1 : env1.frame = some L1) (hke1 : env1.scope.kind = .function) (hd : dp + d < recursionLimit) (hu : un + u < cLine)
    (h : ∀ D zn t1 t2 h' tk' sl, Fr h₀ L h' m → News h₀ L h' ((D, listOf [.str x1 t1, .str x2 t2].toArray zn) :: g { o1 with slots := sl }) → LCg.Off1 D news → Q (.ref D) { s with heap := h', toks := tk' }) :
    wpAny (model PySem.Challenge.pw_yf0007_01 w) A (call (.ref f) args) Q E s := by
  refine call_specX S F X N T U hd1 hA hf hke hf1 hke1 hd hu trivial fun v h' tk' sl F' N' _ hp => ?_
  obtain ⟨D, zn, t1, t2, rfl, hD, hn⟩ := hp
  refine h D zn t1 t2 h' tk' sl F' ?_ (off1_of fun q hq e => by have := (N q hq).1; rw [e, hn] at this; cases this)
  intro q hq
  rcases List.mem_cons.mp hq with rfl | hq
  · refine ⟨hD, fun e => ?_, ?_⟩
    · obtain ⟨oL, _, _, hoL, _⟩ := F.ns
      have e' : D = L := e
      rw [e', hoL] at hn; cases hn
    · cases qq : h₀.get? D with
      | none => rfl
      | some o => rw [F.keep _ _ qq] at hn; cases hn
  · exact N' q hq
end
end

-- LawIn
section
/-- law, called from the claim's caller, on a list of at most 63 ints, gives True and keeps all that stood -/
def LawOK : Prop := ∀ (w : World) (mean : ExcName → Option Value) (mg mb : Str → Option Value) (dp un : Nat) (gd : Option (List Code)) (p : Addr) (items : List Value) (ns : List Int) (s : Shared) (R : Result → Shared → Prop),
  IntsAre items ns → ns.length ≤ 63 → Below (topA dp un gd []) s.heap [] s.heap → Frag.In (Mine.hd.heap_39 w.params) s.heap → Top Mine.hd.view_39 (looseW Mine.hd.view_39 []) mean mg mb s.heap →
  dp + 14 < recursionLimit → un + 300 < cLine → s.heap.IsList p items.toArray →
  (∀ h' tk', (∀ b o, s.heap.get? b = some o → h'.get? b = some o) → R (.ok (.ret (.bool true))) { s with heap := h', toks := tk' }) →
  codeAny (model PySem.Challenge.pw_yf0007_01 w) (topA dp un gd []) (.call (.ref 226) ⟨[.ref p], []⟩) R s
set_option maxHeartbeats 8000000 in
theorem law_in (H : LawOK) : PySem.Challenge.rw_yf0007_01.Holds := hd (by
  k_fill
  intro w s₀ s₁ mg mb G Y fa o pm cd doc dV kV ho hd hcd hD hmg hg args vals as hpre hlay hrd hwl hlo
  have KX := kIn_of Y
  refine Ground.open G ?_
  intro T B D TE TW
  have e1 : mg (Str.ofString "law") = some (.ref 226) := mg_of KX T.g (by k_is)
  have e2 : fa = 226 := Value.ref.inj (Option.some.inj (hmg.symm.trans e1))
  subst e2
  clear Y ho hd hcd hD hmg B D TE TW e1
  wrow_args hpre hlay hrd hwl hlo
  all_goals (
    first | refine enter_call ?_ | refine enter_callW ?_
    w_top on
    try refine codeAny_mono ?_ (fun _ _ g => GoodW.toG g)
    have K0 := below_caller s₁.heap)
  rename IntsAre _ _ => hI
  rename Heap.IsList _ _ _ => hL
  refine H w _ mg mb _ _ _ _ _ _ s₁ _ hI (by omega) K0 KX T (by decide) (by decide) hL fun h' tk' hk => ?_
  refine ⟨.inl ⟨_, ofPy (.bool true), [], rfl, ?_, .bool _, ?_, fun _ => ⟨.nil, fun _ ha => nomatch ha⟩⟩, hk, rfl, hg⟩
  · exact raisesW_false (by wrow_none_raised)
  · refine postW_of (by wrow_shape) (by wtm_val) (by first | rfl | (str_meet; first | done | w_fin)))
end

-- P257
section
/-- what parse257 reads of the signs behind the first mark -/
def rd : List Nat → List Nat
  | [] => []
  | [c] => if c = 34 then [] else [c]
  | c :: c' :: r => if c = 34 then (if c' = 34 then 34 :: rd r else []) else c :: rd (c' :: r)
theorem rd_cons {c : Nat} (r : List Nat) (h : c ≠ 34) : rd (c :: r) = c :: rd r := by cases r <;> simp [rd, h]
theorem rd_pair (r : List Nat) : rd (34 :: 34 :: r) = 34 :: rd r := by simp [rd]
theorem rd_one : rd [34] = [] := by simp [rd]
theorem rd_stopc {c : Nat} (r : List Nat) (h : c ≠ 34) : rd (34 :: c :: r) = [] := by simp [rd, h]
theorem rd_end {l : List Nat} {i : Nat} (h : l.length ≤ i) : rd (l.drop i) = [] := by rw [List.drop_eq_nil_of_le h]; rfl
theorem rd_other {l : List Nat} {i : Nat} (h : i < l.length) (hc : l[i] ≠ 34) : rd (l.drop i) = l[i] :: rd (l.drop (i + 1)) := by
  rw [List.drop_eq_getElem_cons h, rd_cons _ hc]
theorem rd_two {l : List Nat} {i : Nat} (h : i + 1 < l.length) (hc : l[i] = 34) (hd : l[i + 1] = 34) : rd (l.drop i) = 34 :: rd (l.drop (i + 2)) := by
  rw [List.drop_eq_getElem_cons (by omega), List.drop_eq_getElem_cons h, hc, hd, rd_pair]
theorem rd_stop1 {l : List Nat} {i : Nat} (h : i < l.length) (hc : l[i] = 34) (hd : l.length ≤ i + 1) : rd (l.drop i) = [] := by
  rw [List.drop_eq_getElem_cons h, List.drop_eq_nil_of_le hd, hc, rd_one]
theorem rd_stop2 {l : List Nat} {i : Nat} (h : i + 1 < l.length) (hc : l[i] = 34) (hd : l[i + 1] ≠ 34) : rd (l.drop i) = [] := by
  rw [List.drop_eq_getElem_cons (by omega), List.drop_eq_getElem_cons h, hc, rd_stopc _ hd]
theorem len_list (x : Str) : x.cps.toList.length = x.length := by simp [Str.length]
theorem item_nat {x : Str} {i : Nat} (h : i < x.cps.toList.length) : Txt.item x (i : Int) = ⟨#[x.cps.toList[i]]⟩ := by
  have h' : i < x.cps.size := by simpa using h
  rw [item_meets ⟨by omega, by have := len_list x; omega⟩]
  simp [Array.getD, h']
def W1 (P : Prop) : Prop := P
def W2 (P : Prop) : Prop := P
/-- at the loop's head -/
def J257 (x : Str) (ta : Tok) (n : Nat) (m : Str → Option Value) (news : List (Addr × Obj)) : Prop :=
  news = [] ∧ ∃ (i : Nat) (d : Str) (ti td tn : Tok), m (Str.ofString "resp") = some (.str x ta) ∧ m (Str.ofString "i") = some (.int (i : Int) ti) ∧ m (Str.ofString "n") = some (.int (x.length : Int) tn) ∧ m (Str.ofString "dirname") = some (.str d td) ∧
    i ≤ x.length ∧ n = x.length - i ∧ d.length ≤ i ∧ d.cps.toList ++ rd (x.cps.toList.drop i) = rd (x.cps.toList.drop 5)
theorem while257 {prog : Program} {w : World} {A : Around} {E : Value → Shared → Prop} {Q : Flow → Shared → Prop} {s : Shared} {env : Env} {h₀ : Heap} {L : Addr} {test : Expr} {body : List Stmt} {pos : Pos} {m : Str → Option Value} {news : List (Addr × Obj)} (x : Str) (ta : Tok) {n₀ : Nat}
    (F : Fr h₀ L s.heap m) (N : News h₀ L s.heap news) (hJ : W1 (J257 x ta n₀ m news))
    (turn : W2 (∀ (n : Nat) (m₁ : Str → Option Value) (h₁ : Heap) (tk₁ : Nat) (i : Nat) (d : Str) (ti td tn : Tok), i ≤ x.length → n = x.length - i → d.length ≤ i → d.cps.toList ++ rd (x.cps.toList.drop i) = rd (x.cps.toList.drop 5) →
      Fr h₀ L h₁ (fun y => if y = Str.ofString "resp" then some (.str x ta) else if y = Str.ofString "i" then some (.int (i : Int) ti) else if y = Str.ofString "n" then some (.int (x.length : Int) tn) else if y = Str.ofString "dirname" then some (.str d td) else m₁ y) → News h₀ L h₁ [] →
      wpAny (model prog w) A (isTrue test env (eval test env)) (fun b s₂ =>
        if b = true then wpAny (model prog w) A (execs body env) (WhileStep2 h₀ L s (J257 x ta) Q n) E s₂ else Q .next s₂) E { s with heap := h₁, toks := tk₁ }))
    (hE : PassesOwn (model prog w) A env E := by passes_own) :
    wpAny (model prog w) A (exec (.While test body [] pos) env) Q E s := by
  refine While_inv2 (J257 x ta) F N hJ (fun n m₁ news₁ h₁ tk₁ F₁ N₁ J₁ => ?_) hE
  obtain ⟨rfl, i, d, ti, td, tn, e1, e2, e3, e4, hi, hn, hd, hr⟩ := J₁
  refine turn n m₁ h₁ tk₁ i d ti td tn hi hn hd hr ?_ N₁
  have e : (fun y => if y = Str.ofString "resp" then some (Value.str x ta) else if y = Str.ofString "i" then some (.int (i : Int) ti) else if y = Str.ofString "n" then some (.int (x.length : Int) tn) else if y = Str.ofString "dirname" then some (.str d td) else m₁ y) = m₁ := by
    funext y
    by_cases h1 : y = Str.ofString "resp"
    · rw [if_pos h1, h1, e1]
    rw [if_neg h1]
    by_cases h2 : y = Str.ofString "i"
    · rw [if_pos h2, h2, e2]
    rw [if_neg h2]
    by_cases h3 : y = Str.ofString "n"
    · rw [if_pos h3, h3, e3]
    rw [if_neg h3]
    by_cases h4 : y = Str.ofString "dirname"
    · rw [if_pos h4, h4, e4]
    rw [if_neg h4]
  rw [e]; exact F₁
theorem quote_item {x : Str} {i : Nat} (h : i < x.cps.toList.length) : (Txt.item x (i : Int) == Str.ofString "\"") = decide (x.cps.toList[i] = 34) := by
  rw [item_nat h]
  by_cases q : x.cps.toList[i] = 34
  · rw [q]; simp; decide
  · rw [decide_eq_false q]
    refine Bool.eq_false_iff.mpr fun z => q ?_
    have z' : (⟨#[x.cps.toList[i]]⟩ : Str) = Str.ofString "\"" := by simpa using z
    have z2 := congrArg (fun y : Str => y.cps.toList) z'
    have z3 : [x.cps.toList[i]] = [34] := z2
    exact List.head_eq_of_cons_eq z3
theorem brk1 {x : Str} {i : Nat} (h : (i : Int) < (x.length : Int)) (hq : (Txt.item x (i : Int) == Str.ofString "\"") = true) (hb : (x.length : Int) ≤ (i : Int) + 1) : rd (x.cps.toList.drop i) = [] := by
  have hl := len_list x
  have hi : i < x.cps.toList.length := by omega
  rw [quote_item hi] at hq
  exact rd_stop1 hi (of_decide_eq_true hq) (by omega)
theorem brk2 {x : Str} {i : Nat} (h : (i : Int) < (x.length : Int)) (hq : (Txt.item x (i : Int) == Str.ofString "\"") = true) (hb : ¬ (x.length : Int) ≤ (i : Int) + 1) (hn : (Txt.item x ((i : Int) + 1) != Str.ofString "\"") = true) : rd (x.cps.toList.drop i) = [] := by
  have hl := len_list x
  have hi : i < x.cps.toList.length := by omega
  have hi1 : i + 1 < x.cps.toList.length := by omega
  rw [quote_item hi] at hq
  have e : ((i : Int) + 1) = ((i + 1 : Nat) : Int) := by omega
  rw [e, bne, quote_item hi1] at hn
  exact rd_stop2 hi1 (of_decide_eq_true hq) (by simpa using hn)
theorem step2 {x d : Str} {i : Nat} {T : List Nat} (hr : d.cps.toList ++ rd (x.cps.toList.drop i) = T) (h : (i : Int) < (x.length : Int)) (hq : (Txt.item x (i : Int) == Str.ofString "\"") = true) (hb : ¬ (x.length : Int) ≤ (i : Int) + 1) (hn : (Txt.item x ((i : Int) + 1) != Str.ofString "\"") = false) :
    (d ++ Txt.item x (i : Int)).cps.toList ++ rd (x.cps.toList.drop (i + 2)) = T := by
  have hl := len_list x
  have hi : i < x.cps.toList.length := by omega
  have hi1 : i + 1 < x.cps.toList.length := by omega
  rw [quote_item hi] at hq
  have e : ((i : Int) + 1) = ((i + 1 : Nat) : Int) := by omega
  rw [e, bne, quote_item hi1] at hn
  have hq' := of_decide_eq_true hq
  rw [rd_two hi1 hq' (by simpa using hn)] at hr
  rw [item_nat hi, hq', ← hr]
  show (d.cps ++ #[34]).toList ++ _ = _
  simp
theorem step1 {x d : Str} {i : Nat} {T : List Nat} (hr : d.cps.toList ++ rd (x.cps.toList.drop i) = T) (h : (i : Int) < (x.length : Int)) (hq : (Txt.item x (i : Int) == Str.ofString "\"") = false) :
    (d ++ Txt.item x (i : Int)).cps.toList ++ rd (x.cps.toList.drop (i + 1)) = T := by
  have hl := len_list x
  have hi : i < x.cps.toList.length := by omega
  rw [quote_item hi] at hq
  rw [rd_other hi (of_decide_eq_false hq)] at hr
  rw [item_nat hi, ← hr]
  show (d.cps ++ #[_]).toList ++ _ = _
  simp
theorem end257 {x d : Str} {i : Nat} {T : List Nat} (hr : d.cps.toList ++ rd (x.cps.toList.drop i) = T) (h : rd (x.cps.toList.drop i) = []) : d.cps.toList = T := by rw [h, List.append_nil] at hr; exact hr
theorem end257' {x : Str} {i : Nat} (h : ¬ (i : Int) < (x.length : Int)) : rd (x.cps.toList.drop i) = [] := by
  have hl := len_list x
  exact rd_end (by omega)
theorem some_int {a b : Int} {t : Tok} (h : a = b) : some (Value.int a t) = some (Value.int b t) := by rw [h]
theorem app_len (d x : Str) (i : Int) : (d ++ Txt.item x i).length = d.length + 1 := by show (d.cps ++ #[_]).size = _; simp [Str.length]
theorem while_next {h₀ : Heap} {L : Addr} {s : Shared} {J : Nat → (Str → Option Value) → List (Addr × Obj) → Prop} {Q : Flow → Shared → Prop} {n n' tk : Nat} {h' : Heap} {m₂ : Str → Option Value} {news₂ : List (Addr × Obj)}
    (F : Fr h₀ L h' m₂) (N : News h₀ L h' news₂) (hn : n' < n) (hJ : J n' m₂ news₂) : WhileStep2 h₀ L s J Q n .next { s with heap := h', toks := tk } := ⟨h', tk, m₂, news₂, n', rfl, F, N, hn, hJ⟩
end

-- TL
section
theorem app_list (a b : Str) : (a ++ b).cps.toList = a.cps.toList ++ b.cps.toList := by show (a.cps ++ b.cps).toList = _; simp
theorem len_app (a b : Str) : (a ++ b).length = a.length + b.length := by show (a.cps ++ b.cps).size = _; simp [Str.length]
theorem ext_list {a b : Str} (h : a.cps.toList = b.cps.toList) : a = b := by
  obtain ⟨⟨a⟩⟩ := a; obtain ⟨⟨b⟩⟩ := b
  exact congrArg (fun l => (⟨⟨l⟩⟩ : Str)) h
theorem slice_to {x : Str} {j : Int} (h0 : 0 ≤ j) (h : j ≤ x.length) : (Txt.slice x none (some j)).cps.toList = x.cps.toList.take j.toNat := by
  rw [beq_iff_eq.mp (slice_closes_toL h0 h)]
  simp
theorem slice_mid {x : Str} {i j : Int} (h0 : 0 ≤ i) (h1 : i ≤ j) (h : j ≤ x.length) : (Txt.slice x (some i) (some j)).cps.toList = (x.cps.toList.drop i.toNat).take (j - i).toNat := by
  rw [beq_iff_eq.mp (slice_closesL h0 h1 h)]
theorem bne_list {a b : Str} (h : a.cps.toList ≠ b.cps.toList) : (a != b) = true := by
  rw [bne_iff_ne]; intro e; exact h (by rw [e])
theorem beq_list {a b : Str} (h : a.cps.toList = b.cps.toList) : (a != b) = false := by
  rw [ext_list h]; simp
theorem code_ne {x y : Str} (t : List Nat) (h : x.cps.toList.take 3 = t) (hl : 3 ≤ x.length) (hne : t ≠ y.cps.toList) : (Txt.slice x none (some 3) != y) = true :=
  bne_list (by rw [slice_to (by decide) (by omega)]; show x.cps.toList.take 3 ≠ _; rw [h]; exact hne)
theorem code_eq {x y : Str} (h : x.cps.toList.take 3 = y.cps.toList) (hl : 3 ≤ x.length) : (Txt.slice x none (some 3) != y) = false :=
  beq_list (by rw [slice_to (by decide) (by omega)]; exact h)
theorem mid_ne {x y : Str} (t : List Nat) (h : (x.cps.toList.drop 3).take 2 = t) (hl : 5 ≤ x.length) (hne : t ≠ y.cps.toList) : (Txt.slice x (some 3) (some 5) != y) = true :=
  bne_list (by rw [slice_mid (by decide) (by decide) (by omega)]; show (x.cps.toList.drop 3).take 2 ≠ _; rw [h]; exact hne)
theorem mid_eq {x y : Str} (h : (x.cps.toList.drop 3).take 2 = y.cps.toList) (hl : 5 ≤ x.length) : (Txt.slice x (some 3) (some 5) != y) = false :=
  beq_list (by rw [slice_mid (by decide) (by decide) (by omega)]; exact h)
example (c : Nat) : (Txt.slice (Str.ofString "157" ++ (Str.ofString " \"" ++ ⟨#[c]⟩)) none (some 3) != Str.ofString "257") = true := by
  refine code_ne [49, 53, 55] ?_ ?_ (by decide)
  · (simp only [app_list]); rfl
  · (simp only [len_app]); exact Nat.le_of_ble_eq_true rfl
example (c : Nat) (hc : 64 ≤ c) : (Txt.slice (Str.ofString "257 " ++ ⟨#[c]⟩ ++ ⟨#[c]⟩) (some 3) (some 5) != Str.ofString " \"") = true := by
  refine mid_ne [32, c] ?_ ?_ ?_
  · (simp only [app_list]); rfl
  · (simp only [len_app]); exact Nat.le_of_ble_eq_true rfl
  · intro e; have e2 : [32, c] = [32, 34] := e; simp at e2; omega
end

-- Fast
section
theorem len_add_le {a b : Str} {j k : Nat} (ha : a.length ≤ j) (hb : b.length ≤ k) : (a ++ b).length ≤ j + k := by rw [len_app]; omega
theorem len_slice_le {a : Str} {i j : Option Int} {k : Nat} (h : a.length ≤ k) : (Txt.slice a i j).length ≤ k := Nat.le_trans (Txt.slice_le a i j) h
theorem add_own {prog : Program} {w : World} {A : Around} {E : Value → Shared → Prop} {s : Shared} {x y : Str} {t u : Tok} {j k : Nat} {Q : Value → Shared → Prop} (hx : x.length ≤ j) (hy : y.length ≤ k) (hs : Nat.ble (j + k) sizeLine = true) (h : ∀ t' tk, Q (.str (x ++ y) t') { s with toks := tk }) :
    wpAny (model prog w) A (binaryOp .Add (.str x t) (.str y u)) Q E s :=
  add_str h (Nat.le_trans (Nat.add_le_add hx hy) (Nat.le_of_ble_eq_true hs))
theorem len_half {a b : Str} {k : Nat} (ha : a.length ≤ k / 2) (hb : b.length ≤ k / 2) : (a ++ b).length ≤ k := by rw [len_app]; omega
theorem fits14 {x : Str} {k : Nat} (h : x.length ≤ 14) (hk : Nat.ble 14 k = true) : x.length ≤ k := Nat.le_trans h (Nat.le_of_ble_eq_true hk)
theorem add_ownB {prog : Program} {w : World} {A : Around} {E : Value → Shared → Prop} {s : Shared} {x y : Str} {t u : Tok} {Q : Value → Shared → Prop} (hx : x.length ≤ 1048576) (hy : y.length ≤ 1048576) (h : ∀ t' tk, Q (.str (x ++ y) t') { s with toks := tk }) :
    wpAny (model prog w) A (binaryOp .Add (.str x t) (.str y u)) Q E s :=
  add_own hx hy rfl h
theorem newList_own {M : Model} {A : Around} {E : Value → Shared → Prop} {s : Shared} {h₀ : Heap} {L : Addr} {m : Str → Option Value} {news : List (Addr × Obj)} {vs : List Value} {Q : Value → Shared → Prop} (F : Fr h₀ L s.heap m) (N : News h₀ L s.heap news) (hs : Nat.ble vs.length sizeLine = true)
    (h : ∀ l h', Fr h₀ L h' m → News h₀ L h' ((l, listOf vs.toArray 0) :: news) → AllLt l news → Q (.ref l) { s with heap := h' }) : wpAny M A (newList vs) Q E s :=
  newList_K F N (fun l h' F' N' hlt => h l h' F' N' (allLt_of hlt)) (Nat.le_of_ble_eq_true hs)
theorem num_len {n : Int} (h0 : -(2^40) < n) (h1 : n < 2^40) : (Str.ofString (toString n)).length ≤ 14 := by
  by_cases h : 0 ≤ n
  · exact toString_length_le (k := 14) h (by decide) (by omega)
  · rw [len_text_neg (by omega)]
    have := toString_length_le (v := 0 - n) (k := 13) (by omega) (by decide) (by omega)
    omega
end

-- Comp
section
def AllNe (d : Addr) : List (Addr × Obj) → Prop := fun l => ∀ p ∈ l, p.1 ≠ d
theorem allNe_lt {d : Addr} : ∀ {l : List (Addr × Obj)}, AllLt d l → AllNe d l
  | [], _, _, h => nomatch h
  | q :: l, x, p, h => by
    rcases List.mem_cons.mp h with rfl | h
    · exact Nat.ne_of_lt x.1
    · exact allNe_lt x.2 p h
theorem allNe_new {h₀ h : Heap} {L d : Addr} {l : List (Addr × Obj)} (N : News h₀ L h l) (hd : h.get? d = none) : AllNe d l := fun p hp e => by
  have := (N p hp).1
  rw [e, hd] at this; cases this
theorem AllNe.tail {d : Addr} {q : Addr × Obj} {l : List (Addr × Obj)} (h : AllNe d (q :: l)) : AllNe d l := fun p hp => h p (.tail _ hp)
/-- a turn's element is reckoned: the value, and the objects that it stands on -/
def TEnd (h₀ : Heap) (L : Addr) (m : Str → Option Value) (s₁ : Shared) (led : List (Addr × Obj)) (T : Value → List (Addr × Obj) → Prop) (y : Value) (s₂ : Shared) : Prop :=
  ∃ h' tk' objs, s₂ = { s₁ with heap := h', toks := tk' } ∧ Fr h₀ L h' m ∧ News h₀ L h' (objs ++ led) ∧ (∀ p ∈ objs, AllNe p.1 led) ∧ T y objs
section
variable {h₀ h' : Heap} {L X : Addr} {m : Str → Option Value} {s₁ : Shared} {led all : List (Addr × Obj)} {T : Value → List (Addr × Obj) → Prop} {y : Value} {tk' : Nat} {oX : Obj}
theorem TEnd.val (F : Fr h₀ L h' m) (N : News h₀ L h' all) (sub : ∀ p ∈ led, p ∈ all) (t : T y []) : TEnd h₀ L m s₁ led T y { s₁ with heap := h', toks := tk' } :=
  ⟨h', tk', [], rfl, F, fun p hp => N p (sub p hp), fun _ h => absurd h List.not_mem_nil, t⟩
theorem TEnd.one (F : Fr h₀ L h' m) (N : News h₀ L h' all) (hX : (X, oX) ∈ all) (sub : ∀ p ∈ led, p ∈ all) (ne : AllNe X led) (t : T (.ref X) [(X, oX)]) : TEnd h₀ L m s₁ led T (.ref X) { s₁ with heap := h', toks := tk' } :=
  ⟨h', tk', [(X, oX)], rfl, F, fun p hp => (List.mem_cons.mp hp).elim (fun e => e ▸ N _ hX) fun hp => N p (sub p hp), fun p hp => by rw [List.mem_singleton.mp hp]; exact ne, t⟩
end
/-- the values of the turns from i on, and all that they stand on -/
inductive Rows (T : Nat → Value → List (Addr × Obj) → Prop) : Nat → List Value → List (Addr × Obj) → Prop
  | nil {i} : Rows T i [] []
  | cons {i y ys objs res} : T i y objs → Rows T (i + 1) ys res → Rows T i (y :: ys) (objs ++ res)
theorem Rows.snoc {T : Nat → Value → List (Addr × Obj) → Prop} {y : Value} {objs : List (Addr × Obj)} : ∀ {ys : List Value} {res : List (Addr × Obj)} {i : Nat}, Rows T i ys res → T (i + ys.length) y objs → Rows T i (ys ++ [y]) (res ++ objs)
  | _, _, _, .nil, h => by
    have := Rows.cons (T := T) h .nil
    simpa using this
  | _, _, i, .cons (ys := ys) (objs := o) (res := r) a b, h => by
    have := Rows.cons a (b.snoc (y := y) (objs := objs) (by rw [List.length_cons] at h; rw [show i + 1 + ys.length = i + (ys.length + 1) by omega]; exact h))
    simpa using this
section
variable {prog : Program} {w : World} {A : Around} {h₀ : Heap} {L : Addr} {m : Str → Option Value} {env : Env} {elt : Expr} {x : Str} {scope : Scope} {cl : List (Str × Addr)} {s : Shared} {S : List (Addr × Obj) → Prop} {P : Nat → Value → Prop} {Fin : List Value → List (Addr × Obj) → Prop} {T : Nat → Value → List (Addr × Obj) → Prop} {news0 : List (Addr × Obj)}
def TurnT (prog : Program) (w : World) (A : Around) (h₀ : Heap) (L : Addr) (m : Str → Option Value) (env : Env) (elt : Expr) (x : Str) (scope : Scope) (cl : List (Str × Addr)) (s : Shared) (news0 : List (Addr × Obj)) (T : Value → List (Addr × Obj) → Prop) (v : Value) : Prop :=
  ∀ (C : Addr) (oC : Obj) (m₂ : Str → Option Value) (h : Heap) (tk : Nat) (E' : Value → Shared → Prop) (extra : List (Addr × Obj)), LCg.NsObj oC m₂ → m₂ x = some v → Fr h₀ L h m → News h₀ L h ((C, oC) :: (news0 ++ extra)) →
    wpAny (model prog w) A (eval elt (compEnvC scope cl C env)) (TEnd h₀ L m { s with heap := h, toks := tk } ((C, oC) :: (news0 ++ extra)) T) E' { s with heap := h, toks := tk }
theorem own_rest {n : Nat} (hS : ∀ res, S (res ++ news0)) (turn : ∀ i v, i < n → P i v → TurnT prog w A h₀ L m env elt x scope cl s news0 (T i) v) (fin : ∀ ys res, Rows T 0 ys res → ys.length = n → Fin ys (res ++ news0)) :
    ∀ (j i : Nat) (ys : List Value) (res : List (Addr × Obj)), i + j = n → ys.length = i → Rows T 0 ys res → LCg.CompRest prog w A h₀ L m env elt x scope cl s S P Fin j i ys (res ++ news0) := by
  intro j
  induction j with
  | zero => intro i ys res hi hl hr; exact LCg.CompRest.zero (fin ys res hr (by omega))
  | succ j ih =>
    intro i ys res hi hl hr
    refine LCg.CompRest.succ ?_
    intro v I oI C oC D m₂ h tk E' hv hC hx F N off ne
    have off' := off.mem
    have nI := N (I, oI) (.head _)
    have nC := N (C, oC) (.tail _ (.head _))
    have nD := N (D, LCg.lst ys) (.tail _ (.tail _ (.head _)))
    have nR : ∀ p ∈ res ++ news0, h.get? p.1 = some p.2 ∧ p.1 ≠ L ∧ h₀.get? p.1 = none := fun p hp => N p (.tail _ (.tail _ (.tail _ hp)))
    refine wpAny_mono (turn i v (by omega) hv C oC m₂ h tk E' ((I, oI) :: (D, LCg.lst ys) :: res) hC hx F (fun p hp => ?_)) (fun y s₂ hy => ?_) fun _ _ e => e
    · rcases List.mem_cons.mp hp with rfl | hp
      · exact nC
      rcases List.mem_append.mp hp with hp | hp
      · exact nR p (List.mem_append_right _ hp)
      rcases List.mem_cons.mp hp with rfl | hp
      · exact nI
      rcases List.mem_cons.mp hp with rfl | hp
      · exact nD
      · exact nR p (List.mem_append_left _ hp)
    · obtain ⟨h', tk', objs, rfl, F', N', hne, hT⟩ := hy
      have mI : (I, oI) ∈ (C, oC) :: (news0 ++ (I, oI) :: (D, LCg.lst ys) :: res) := .tail _ (List.mem_append_right _ (.head _))
      have mD : (D, LCg.lst ys) ∈ (C, oC) :: (news0 ++ (I, oI) :: (D, LCg.lst ys) :: res) := .tail _ (List.mem_append_right _ (.tail _ (.head _)))
      have mC : (C, oC) ∈ (C, oC) :: (news0 ++ (I, oI) :: (D, LCg.lst ys) :: res) := .head _
      have mR : ∀ p ∈ res ++ news0, p ∈ (C, oC) :: (news0 ++ (I, oI) :: (D, LCg.lst ys) :: res) := fun p hp => (List.mem_append.mp hp).elim (fun hp => .tail _ (List.mem_append_right _ (.tail _ (.tail _ hp)))) fun hp => .tail _ (List.mem_append_left _ hp)
      refine ⟨h', tk', (res ++ objs) ++ news0, rfl, F', fun p hp => ?_, LCg.Off3.of fun p hp => ?_, hS _, ?_⟩
      · rcases List.mem_cons.mp hp with rfl | hp
        · exact N' _ (List.mem_append_right _ mI)
        rcases List.mem_cons.mp hp with rfl | hp
        · exact N' _ (List.mem_append_right _ mC)
        rcases List.mem_cons.mp hp with rfl | hp
        · exact N' _ (List.mem_append_right _ mD)
        rcases List.mem_append.mp hp with hp | hp
        · rcases List.mem_append.mp hp with hp | hp
          · exact N' _ (List.mem_append_right _ (mR p (List.mem_append_left _ hp)))
          · exact N' _ (List.mem_append_left _ hp)
        · exact N' _ (List.mem_append_right _ (mR p (List.mem_append_right _ hp)))
      · have old : ∀ p ∈ res ++ news0, p.1 ≠ I ∧ p.1 ≠ C ∧ p.1 ≠ D := off'
        rcases List.mem_append.mp hp with hp | hp
        · rcases List.mem_append.mp hp with hp | hp
          · exact old p (List.mem_append_left _ hp)
          · exact ⟨Ne.symm (hne p hp _ mI), Ne.symm (hne p hp _ mC), Ne.symm (hne p hp _ mD)⟩
        · exact old p (List.mem_append_right _ hp)
      · exact ih (i + 1) (ys ++ [y]) (res ++ objs) (by omega) (by rw [List.length_append, hl]; rfl) (hr.snoc (by rw [hl, Nat.zero_add]; exact hT))
theorem CompSrc.own {Q : Shared → List Value → List (Addr × Obj) → Prop} {ax : Addr} {its : Array Value} {k : Nat} {s₁ : Shared} (T : Nat → Value → List (Addr × Obj) → Prop) (hh : A.handled = none) (F : Fr h₀ L s₁.heap m) (N : News h₀ L s₁.heap news0) (hm : (ax, ({ cls := .type "list", data := .seq its k } : Obj)) ∈ news0) (hsz : Nat.ble its.size sizeLine = true)
    (turn : ∀ g i v, i < its.size → its[i]? = some v → TurnT prog w A h₀ L m env elt x scope cl { s₁ with heap := g } news0 (T i) v)
    (fin : ∀ g ys res, Rows T 0 ys res → ys.length = its.size → Q { s₁ with heap := g } ys (res ++ news0)) : LCg.CompSrc prog w A h₀ L m env elt x scope cl Q (.ref ax) s₁ :=
  LCg.CompSrc.ledger hh F N hm (Nat.le_of_ble_eq_true hsz) fun g => own_rest (T := T) (fun res => .inr ⟨_, List.mem_append_right _ hm, rfl, _, rfl⟩) (turn g) (fin g) its.size 0 [] [] (by omega) rfl .nil
theorem CompSrc.ownR {Q : Shared → List Value → List (Addr × Obj) → Prop} {r : Addr} {a b : Int} {t u v : Tok} {s₁ : Shared} (n : Nat) (T : Nat → Value → List (Addr × Obj) → Prop) (hh : A.handled = none) (F : Fr h₀ L s₁.heap m) (N : News h₀ L s₁.heap news0) (hr : IsRange s₁.heap r a b 1 t u v) (hsm : Builtin.Range.small a b 1 = true) (hn : Builtin.Range.rangeSize a b 1 = ((n : Nat) : Int)) (hsz : Nat.ble n sizeLine = true)
    (turn : ∀ g i v, i < n → (∃ t, v = .int (a + (i : Int)) t) → TurnT prog w A h₀ L m env elt x scope cl { s₁ with heap := g } news0 (T i) v)
    (fin : ∀ g ys res, Rows T 0 ys res → ys.length = n → Q { s₁ with heap := g } ys (res ++ news0)) : LCg.CompSrc prog w A h₀ L m env elt x scope cl Q (.ref r) s₁ :=
  LCg.CompSrc.range hh F N hr hsm hn (Nat.le_of_ble_eq_true hsz) fun g => own_rest (T := T) (fun _ => trivial) (turn g) (fin g) n 0 [] [] (by omega) rfl .nil
end
/-- the turns give these bools -/
def TB (bs : List Bool) (i : Nat) (y : Value) (objs : List (Addr × Obj)) : Prop := y = .bool (bs.getD i false) ∧ objs = []
theorem rows_bools_at {bs : List Bool} : ∀ {i : Nat} {ys : List Value} {res : List (Addr × Obj)}, Rows (TB bs) i ys res → i + ys.length ≤ bs.length → res = [] ∧ ys = ((bs.drop i).take ys.length).map Value.bool
  | _, _, _, .nil, _ => ⟨rfl, by simp⟩
  | i, _, _, .cons (y := y) (ys := ys) (objs := o) (res := r) h hr, hl => by
    rw [List.length_cons] at hl
    obtain ⟨rfl, e⟩ := rows_bools_at hr (by omega)
    obtain ⟨rfl, rfl⟩ := h
    refine ⟨rfl, ?_⟩
    have hlt : i < bs.length := by omega
    rw [List.length_cons, List.drop_eq_getElem_cons hlt, List.take_succ_cons, List.map_cons, ← e, List.getD_eq_getElem?_getD, List.getElem?_eq_getElem hlt]
    rfl
theorem rows_bools {bs : List Bool} {ys : List Value} {res : List (Addr × Obj)} (h : Rows (TB bs) 0 ys res) (hl : ys.length = bs.length) : res = [] ∧ ys = bs.map Value.bool := by
  obtain ⟨h1, h2⟩ := rows_bools_at h (by omega)
  refine ⟨h1, ?_⟩
  rw [h2, List.drop_zero, hl, List.take_length]
end

-- Tok
section
theorem statics_none (w : World) : nsIn (Mine.hd.heap_39 w.params) cStatics sharingNotToldKey = some none := by k_is
theorem none_booked {w : World} {p : Program} {loose : List Str} {mean : ExcName → Option Value} {mg mb : Str → Option Value} {h : Heap} (X : Frag.In (Mine.hd.heap_39 w.params) h) (T : Top p loose mean mg mb h) : NoneBooked h := by
  obtain ⟨mc, G, _⟩ := T.nodigits
  refine ⟨mc, G, ?_⟩
  obtain ⟨o, es, ep, hg, hd, _, hf⟩ := G
  have e := statics_none w
  rw [← hf]
  unfold nsIn at e
  split at e
  · rename_i ho
    rw [X _ _ ho] at hg
    cases hg
    cases hd
    split at e
    · cases e
    · rename_i he
      show Option.map _ (Array.find? _ _) = none
      rw [← Array.find?_toList, he]; rfl
  · cases e
section
variable {M : Model} {A : Around} {E : Value → Shared → Prop} {s : Shared} {Q : Value → Shared → Prop} {p q : Str} {t u : Tok}
theorem is_str (ht : 0 < t) (hu : 0 < u) (hne : t ≠ u) (hb : NoneBooked s.heap) (hQ : ∀ r : Bool, (r = true → p = q) → Q (.bool r) s) : wpAny M A (compareOp .Is (.str p t) (.str q u)) Q E s := by
  show wpAny M A (isSame (.str p t) (.str q u) >>= fun r => pure (.bool r)) Q E s
  refine wpAny_bind ?_
  have h0 : (t == 0 || u == 0) = false := by
    rw [Bool.or_eq_false_iff]
    exact ⟨beq_eq_false_iff_ne.mpr (Nat.ne_of_gt ht), beq_eq_false_iff_ne.mpr (Nat.ne_of_gt hu)⟩
  cases hpq : (p == q) with
  | false =>
    rw [isSame_str_other p q t u h0 (beq_eq_false_iff_ne.mpr hne) hpq]
    exact wpAny_pure (wpAny_pure (hQ false fun z => by cases z))
  | true =>
    exact wpAny_isSame_str h0 hb fun r => wpAny_pure (hQ r fun _ => by simpa using hpq)
end
section
variable {prog : Program} {w : World} {A : Around} {E : Value → Shared → Prop} {s : Shared} {env : Env} {h₀ : Heap}
/-- a loop over a text: each sign's token is above the token tb -/
theorem for_str {Q : Flow → Shared → Prop} {v : Str} {px pos : Pos} {iter : Expr} {body : List Stmt} {x : Str} {t tb : Tok} {m : Str → Option Value}
    (hh : A.handled = none) (hv : env.kindOf v = some .local)
    (hp : (env.scope.kind == .class || (env.scope.kind == .module && env.locals != env.globals)) = false)
    (F : Fr h₀ env.locals s.heap m) (htb : tb < s.toks)
    (hiter : ∀ Q', Q' (.str x t) s → wpAny (model prog w) A (eval iter env) Q' E s)
    (J : Nat → (Str → Option Value) → Prop) (h0 : J 0 m)
    (step : ∀ i c tk m₁ I oI h tk0, x.cps[i]? = some c → J i m₁ → tb < tk → tk < tk0 → Fr h₀ env.locals h (fun y => if y = v then some (.str ⟨#[c]⟩ tk) else m₁ y) → News h₀ env.locals h [(I, oI)] →
      wpAny (model prog w) A (execs body env) (fun f s₂ => f = .next ∧ ∃ h' tk' m₂, s₂ = { s with heap := h', toks := tk' } ∧ Fr h₀ env.locals h' m₂ ∧ News h₀ env.locals h' [(I, oI)] ∧ J (i + 1) m₂) E { s with heap := h, toks := tk0 })
    (hQ : ∀ h' tk m', Fr h₀ env.locals h' m' → J x.cps.size m' → Q .next { s with heap := h', toks := tk })
    (hs : ∀ y, foldedSetIterable iter env y = pure y := by intro _; rfl)
    (hE : PassesOwn (model prog w) A env E := by passes_own) :
    wpAny (model prog w) A (exec (.For (.Name v px) iter body [] pos) env) Q E s := by
  have hL0 : h₀.get? env.locals = none := kts_self F
  have hI0 : h₀.get? s.heap.objs.size = none := next_is_new F
  have hIL : s.heap.objs.size ≠ env.locals := Ne.symm (Nat.ne_of_lt F.ns.lt)
  refine wpAny_For (hiter _ (wpAny_pyIter_strU ?_)) hs
  have hst : (s.heap.push { cls := .type (strIterType x), data := .fields #[.str x t, .int 0 0] }).IsStrIter s.heap.objs.size (strIterType x) x t 0 := ⟨_, Heap.get?_push_size _ rfl, rfl, rfl⟩
  refine codeAny_forLoop (R := fun r s' => match r with | .ok f => Q f s' | .error e => cameBackBy (model prog w) A env E e s')
    (fun n s' => ∃ h' tk m' i, s' = { s with heap := h', toks := tk } ∧ tb < tk ∧ h'.IsStrIter s.heap.objs.size (strIterType x) x t i ∧ Fr h₀ env.locals h' m' ∧ J i m' ∧ i ≤ x.cps.size ∧ n = x.cps.size + 1 - i) ?_ (x.cps.size + 1)
    ⟨_, s.toks, m, 0, rfl, htb, hst, F.push _, h0, Nat.zero_le _, rfl⟩
  rintro n s' ⟨h', tk, m', i, rfl, htk, hit, F', hJ, hi, rfl⟩
  have key : ∀ (c : Nat) (hc : x.cps[i]? = some c) (h₁ : Heap), h₁.IsStrIter s.heap.objs.size (strIterType x) x t (i + 1) → Heap.SameBut s.heap.objs.size h' h₁ →
      wpAny (model prog w) A (assign (.Name v px) env (.str ⟨#[c]⟩ tk)) (fun _ s₂ => wpAny (model prog w) A (execs body env) (fun f s₃ => match f with
          | .next | .cont => ∃ m, m < x.cps.size + 1 - i ∧ ∃ h' tk m' i, s₃ = { s with heap := h', toks := tk } ∧ tb < tk ∧ h'.IsStrIter s.heap.objs.size (strIterType x) x t i ∧ Fr h₀ env.locals h' m' ∧ J i m' ∧ i ≤ x.cps.size ∧ m = x.cps.size + 1 - i
          | .brk => Q .next s₃
          | .ret v => Q (.ret v) s₃) (notedBy (model prog w) A env fun e s' => cameBackBy (model prog w) A env E e s') s₂) (notedBy (model prog w) A env fun e s' => cameBackBy (model prog w) A env E e s') { s with heap := h₁, toks := tk + 1 } := by
    intro c hc h₁ hit₁ hs₁
    have hlt : i < x.cps.size := (Array.getElem?_eq_some_iff.mp hc).1
    have F₁ : Fr h₀ env.locals h₁ m' := F'.change hs₁ hIL hI0
    refine wpAny_assign_Name (wpAny_storeName_local hv F₁.ns (fun h₂ hn₂ hs₂ => ?_) hp)
    have F₂ : Fr h₀ env.locals h₂ (fun y => if y = v then some (.str ⟨#[c]⟩ tk) else m' y) := ⟨hn₂, fun b o e => hs₂.extBut b o (fun q => by rw [q, hL0] at e; cases e) (F₁.keep b o e), F₁.above⟩
    have hit₂ := hit₁.extBut hs₂.extBut hIL
    obtain ⟨oI, hoI, hcI, hdI⟩ := hit₂
    have N₂ : News h₀ env.locals h₂ [(s.heap.objs.size, oI)] := fun p hp => by rw [List.mem_singleton.mp hp]; exact ⟨hoI, hIL, hI0⟩
    refine wpAny_with_toks (n := tk + 1 + 1) (Nat.le_refl _) (wpAny_mono (wpAny_passesOwn hE (step i c tk m' _ oI h₂ (tk + 1 + 1) hc hJ htk (Nat.lt_succ_of_lt (Nat.lt_succ_self _)) F₂ N₂)) (fun f s₃ h₃ hle => ?_) fun e s' he _ => he)
    obtain ⟨rfl, h₃, tk₃, m₃, rfl, F₃, N₃, J₃⟩ := h₃
    refine ⟨x.cps.size + 1 - (i + 1), meas hlt, h₃, tk₃, m₃, i + 1, rfl, Nat.lt_of_lt_of_le (Nat.lt_succ_of_lt (Nat.lt_succ_of_lt htk)) hle, ⟨oI, (N₃ _ (.head _)).1, hcI, hdI⟩, F₃, J₃, hlt, rfl⟩
  cases hc : x.cps[i]? with
  | none =>
    have hsz : i = x.cps.size := Nat.le_antisymm hi (by simpa using hc)
    have fin : ∀ h₁, Heap.ExtBut s.heap.objs.size h' h₁ → Q .next { s with heap := h₁, toks := tk } := fun h₁ he₁ => hQ h₁ tk m' ⟨F'.ns.extBut he₁ (Ne.symm hIL), fun b o e => he₁ b o (fun q => by rw [q, hI0] at e; cases e) (F'.keep b o e), F'.above⟩ (hsz ▸ hJ)
    cases ha : x.cps.all (· < 128)
    · exact wpAny_pyNext_wide_end hh (by simpa [strIterType, ha] using hit) hc fun h₁ he₁ => wpAny_execs_nil (fin h₁ he₁)
    · exact wpAny_pyNext_ascii_end hh (by simpa [strIterType, ha] using hit) hc fun h₁ he₁ => wpAny_execs_nil (fin h₁ he₁)
  | some c =>
    cases ha : x.cps.all (· < 128)
    · exact wpAny_pyNext_wide_item (by simpa [strIterType, ha] using hit) hc fun h₁ hit₁ hs₁ => key c hc h₁ (by simpa [strIterType, ha] using hit₁) hs₁
    · exact wpAny_pyNext_ascii_item (by simpa [strIterType, ha] using hit) hc fun h₁ hit₁ hs₁ => key c hc h₁ (by simpa [strIterType, ha] using hit₁) hs₁
end
end

-- Cnt
section
/-- as Spec, the state asked -/
def SpecT (w : World) (mean : ExcName → Option Value) (mg mb : Str → Option Value) (f : Addr) (d u : Nat) (args : List Value) (pre : Shared → Prop) (post : Heap → Heap → Value → Prop) : Prop :=
  ∀ (dp un : Nat) (gd : Option (List Code)) (outer : List Env) (base : Heap) (s : Shared) (R : Result → Shared → Prop),
    Below (topA dp un gd outer) base outer s.heap → Frag.In (Mine.hd.heap_39 w.params) s.heap → Top Mine.hd.view_39 (looseW Mine.hd.view_39 []) mean mg mb s.heap →
    dp + d < recursionLimit → un + u < cLine → pre s →
    (∀ v h' tk', (∀ b o, s.heap.get? b = some o → h'.get? b = some o) → post s.heap h' v → R (.ok (.ret v)) { s with heap := h', toks := tk' }) →
    codeAny (model PySem.Challenge.pw_yf0007_01 w) (topA dp un gd outer) (.call (.ref f) ⟨args, []⟩) R s
def cntL (l : List Nat) : Int := ((l.filter (fun a => a == 34)).length : Int)
theorem cntL_snoc (l : List Nat) (c : Nat) : cntL (l ++ [c]) = cntL l + (if c = 34 then 1 else 0) := by
  unfold cntL
  rw [List.filter_append, List.length_append]
  by_cases h : c = 34
  · subst h; simp
  · simp [h]
def CntEnd (h₀ : Heap) (L : Addr) (s : Shared) (I : Addr) (oI : Obj) (tb : Tok) (K : Int) (f : Flow) (s₂ : Shared) : Prop :=
  f = .next ∧ ∃ h' tk' m₂ t1, s₂ = { s with heap := h', toks := tk' } ∧ Fr h₀ L h' m₂ ∧ News h₀ L h' [(I, oI)] ∧ m₂ (Str.ofString "count") = some (.int K t1) ∧ m₂ (Str.ofString "b") = some (.str (Str.ofString "\"") tb)
theorem for_cnt {prog : Program} {w : World} {A : Around} {E : Value → Shared → Prop} {s : Shared} {env : Env} {h₀ : Heap} {Q : Flow → Shared → Prop} {px pos : Pos} {iter : Expr} {body : List Stmt} {x : Str} {t tb t₀ : Tok} {m : Str → Option Value}
    (hh : A.handled = none) (hv : env.kindOf (Str.ofString "i") = some .local)
    (hp : (env.scope.kind == .class || (env.scope.kind == .module && env.locals != env.globals)) = false)
    (F : Fr h₀ env.locals s.heap m) (hm1 : m (Str.ofString "count") = some (.int 0 t₀)) (hm2 : m (Str.ofString "b") = some (.str (Str.ofString "\"") tb)) (htb0 : 0 < tb) (htb : tb < s.toks)
    (hiter : ∀ Q', Q' (.str x t) s → wpAny (model prog w) A (eval iter env) Q' E s)
    (step : ∀ (k : Int) c tk t0 (m₁ : Str → Option Value) I oI h tk0, 0 < tb → tb < tk → tk < tk0 → Fr h₀ env.locals h (fun y => if y = Str.ofString "i" then some (.str ⟨#[c]⟩ tk) else if y = Str.ofString "count" then some (.int k t0) else if y = Str.ofString "b" then some (.str (Str.ofString "\"") tb) else m₁ y) → News h₀ env.locals h [(I, oI)] →
      wpAny (model prog w) A (execs body env) (CntEnd h₀ env.locals s I oI tb (k + if c = 34 then 1 else 0)) E { s with heap := h, toks := tk0 })
    (hQ : ∀ h' tk (m' : Str → Option Value) t1, Fr h₀ env.locals h' (fun y => if y = Str.ofString "count" then some (.int (cntL x.cps.toList) t1) else m' y) → Q .next { s with heap := h', toks := tk })
    (hs : ∀ y, foldedSetIterable iter env y = pure y := by intro _; rfl)
    (hE : PassesOwn (model prog w) A env E := by passes_own) :
    wpAny (model prog w) A (exec (.For (.Name (Str.ofString "i") px) iter body [] pos) env) Q E s := by
  refine for_str (tb := tb) hh hv hp F htb hiter (fun i m => ∃ t1, m (Str.ofString "count") = some (.int (cntL (x.cps.toList.take i)) t1) ∧ m (Str.ofString "b") = some (.str (Str.ofString "\"") tb)) ⟨t₀, by rw [List.take_zero]; exact hm1, hm2⟩ ?_ ?_ hs hE
  · rintro i c tk m₁ I oI h tk0 hc ⟨t0, e1, e2⟩ hb1 hb2 F' N'
    refine wpAny_mono (step (cntL (x.cps.toList.take i)) c tk t0 m₁ I oI h tk0 htb0 hb1 hb2 ?_ N') (fun f s₂ hq => ?_) fun _ _ e => e
    · have e : (fun y => if y = Str.ofString "i" then some (Value.str ⟨#[c]⟩ tk) else if y = Str.ofString "count" then some (.int (cntL (x.cps.toList.take i)) t0) else if y = Str.ofString "b" then some (.str (Str.ofString "\"") tb) else m₁ y) = (fun y => if y = Str.ofString "i" then some (Value.str ⟨#[c]⟩ tk) else m₁ y) := by
        funext y
        by_cases h0 : y = Str.ofString "i"
        · rw [if_pos h0, if_pos h0]
        rw [if_neg h0, if_neg h0]
        by_cases h1 : y = Str.ofString "count"
        · rw [if_pos h1, h1, e1]
        rw [if_neg h1]
        by_cases h2 : y = Str.ofString "b"
        · rw [if_pos h2, h2, e2]
        rw [if_neg h2]
      rw [e]; exact F'
    · obtain ⟨rfl, h', tk', m₂, t1, rfl, F₂, N₂, g1, g2⟩ := hq
      refine ⟨rfl, h', tk', m₂, rfl, F₂, N₂, t1, ?_, g2⟩
      have hlt : i < x.cps.toList.length := by have := (Array.getElem?_eq_some_iff.mp hc).1; simpa using this
      have hci : x.cps.toList[i]? = some c := by rw [← hc]; simp
      rw [List.take_add_one, hci, Option.toList_some, cntL_snoc]
      exact g1
  · rintro h' tk m' F' ⟨t1, e1, e2⟩
    refine hQ h' tk m' t1 ?_
    have e : (fun y => if y = Str.ofString "count" then some (Value.int (cntL x.cps.toList) t1) else m' y) = m' := by
      funext y
      by_cases h1 : y = Str.ofString "count"
      · rw [if_pos h1, h1, e1, List.take_of_length_le (by simp)]
      rw [if_neg h1]
    rw [e]; exact F'
theorem is_str2 {M : Model} {A : Around} {E : Value → Shared → Prop} {s : Shared} {Q : Value → Shared → Prop} {p q : Str} {t u : Tok} (hu : 0 < u) (htu : u < t) (hb : NoneBooked s.heap) (hQ : ∀ r : Bool, (r = true → p = q) → Q (.bool r) s) : wpAny M A (compareOp .Is (.str p t) (.str q u)) Q E s :=
  is_str (Nat.lt_trans hu htu) hu (Nat.ne_of_gt htu) hb hQ
theorem one_eq {c : Nat} (h : (⟨#[c]⟩ : Str) = Str.ofString "\"") : c = 34 := by
  have := congrArg (fun y : Str => y.cps.toList) h
  have z : [c] = [34] := this
  exact List.head_eq_of_cons_eq z
theorem cnt_t {k : Int} {c : Nat} {t : Tok} (h : c = 34) : some (Value.int (k + 1) t) = some (Value.int (k + if c = 34 then 1 else 0) t) := by rw [if_pos h]
theorem cnt_f {k : Int} {c : Nat} {t : Tok} (h : c ≠ 34) : some (Value.int k t) = some (Value.int (k + if c = 34 then 1 else 0) t) := by rw [if_neg h, Int.add_zero]
set_option maxHeartbeats 2000000 in
theorem sp_countS (w : World) (mean : ExcName → Option Value) (mg mb : Str → Option Value) (x : Str) (ta tb : Tok) :
    SpecT w mean mg mb 100 1 3 [.str x ta, .str (Str.ofString "\"") tb] (fun s => 0 < tb ∧ tb < s.toks) (fun _ _ v => ∃ t, v = .int (cntL x.cps.toList) t) := by
  k_with_none
  w_top off
  k_with "own execs cons" => (k_here; refine wpAny_execs_cons ?_)
  k_with "own compareOp Is str str" => (k_here; k_dflt (refine is_str2 (by assumption) (by assumption) (none_booked (Frag.In.keeps (by k_asm) (Fr.keep (by k_asm))) (Top.keeps (by k_asm) (Fr.keep (by k_asm)))) ?_); intro r' hr')
  k_with "own exec For Name Name cons nil" => (k_here; k_dflt (refine' for_cnt ?hh ?hv ?hp ?F ?m1 ?m2 ?b0 ?b1 ?it ?step ?fin; (case hh => exact rfl); (case hv => exact rfl); (case hp => exact rfl); (case F => k_asm); (case m1 => exact rfl); (case m2 => exact rfl); (case b0 => assumption); (case b1 => (refine Nat.lt_of_lt_of_le (by assumption) ?_; (try dsimp only); (repeat' first | exact Nat.le_refl _ | refine Nat.le_add_right_of_le ?_))); (case it => (intro Q' hq; refine' nameX_L ?F2 ?v2 ?q2 ?a2 ?b2; (case a2 => exact rfl); (case b2 => exact rfl); (case F2 => k_asm); (case v2 => exact rfl); (case q2 => exact hq))); intros))
  unfold SpecT
  intro dp un gd outer base s R B X T hd hu hpre hret
  obtain ⟨hb0, hb1⟩ := hpre
  k_dflt (refine' enter ?k1 ?k2 ?k3 ?k6 ?k7 ?k8 ?k9 ?kB ?_ ?c2 ?c3 ?c4 ?c5; (case k1 => exact B); (case k2 => exact X); (case k3 => exact T); (case k6 => k_is); (case k7 => k_is); (case k8 => ktr_room); (case k9 => exact BindsTo.of_eq rfl); (case c5 => decide); (case kB => exact locs rfl); (case c2 => exact rfl); (case c3 => exact rfl); (case c4 => exact rfl); k_whole)
  clear B X T
  intro g' L' h' hg B' X' T' F' N'
  w_binds F'
  (try dsimp only)
  (try k_fold)
  k_steps
  all_goals first
    | (refine' ⟨rfl, _, _, _, _, rfl, ?f, ?n, ?c, ?b⟩
       case f => assumption
       case n => assumption
       case c => first
         | (refine cnt_t (one_eq ?_); first | ((rename _ = true → _ = _ => q); exact q (by assumption)) | exact eq_of_beq (by assumption))
         | (refine cnt_f ?_; intro e; subst e; exact absurd (by assumption : (_ == _) = false) (by decide +kernel))
       case b => exact rfl)
    | (subst hg; (try dsimp only); refine hret _ _ _ (Fr.keep (by assumption)) ⟨_, rfl⟩)
end

-- ListIp
section
abbrev lobj (items : Array Value) (n : Nat) : Obj := { cls := .type "list", dict := none, data := .seq items n, slots := #[] }
theorem seq_imul : isSeqSlot (some (.builtin "list.__imul__")) = true := by decide +kernel
theorem seq_iadd : isSeqSlot (some (.builtin "list.__iadd__")) = true := by decide +kernel
section
variable {prog : Program} {w : World} {A : Around} {E : Value → Shared → Prop} {s : Shared} {Q : Value → Shared → Prop} {l b : Addr} {items items2 : Array Value} {n n2 : Nat} {x : Int} {u : Tok}
theorem fillsI_list {nm : String} {add : Bool} {id : String} (hf : typeLookup (.type "list") (dunderI nm) = pure (some (.builtin id))) (hs : isSeqSlot (some (.builtin id)) = true) : fillsInplaceSlot (.type "list") nm add = pure false := by
  unfold fillsInplaceSlot
  show (typeLookup (.type "list") (dunderI nm) >>= fun fi => pure (fi.isSome && !isSeqSlot fi)) = pure false
  rw [hf]
  show (pure ((some (Value.builtin id)).isSome && !isSeqSlot (some (Value.builtin id))) : Sem Bool) = pure false
  rw [hs]; rfl
theorem imul_list (hl : s.heap.get? l = some (lobj items n)) (hc : wpAny (model prog w) A (call (.builtin "list.__imul__") [.ref l, .int x u]) Q E s) : wpAny (model prog w) A (inplaceOp .Mult (.ref l) (.int x u)) Q E s := by
  have ha : s.TypeIs (.ref l) "list" := ⟨_, hl, rfl⟩
  have hlk : typeLookup (.type "list") (dunderI "mul") = pure (some (.builtin "list.__imul__")) := PySem.F.slot_list_imul.lookup
  unfold inplaceOp
  refine wpAny_holding ?_
  refine wpAny_bind (wpAny_typeOf ha (wpAny_bind (wpAny_of_eq (fillsI_list hlk seq_imul) ?_)))
  show wpAny _ A (if false = true then _ else _) Q E s
  rw [if_neg Bool.false_ne_true]
  refine wpAny_bind (wpAny_binaryOp1_right_declines (nm := "mul") (T := "list") (U := "int") (by decide) ha (typeIs_int s x u) noFill_list_mul F.fills_int_mul F.slot_int_rmul ?_)
  refine call_meets F.slot_int_rmul (typeIs_int s x u) F.entry_int_rmul (F.args_int_rmul_2 _ _) (int___rmul___int_list x u l items n) ⟨hl, rfl, ?_⟩
  show wpAny _ _ (seqSlot? (.type "list") (dunderI "mul") >>= _) _ _ _
  refine wpAny_bind (wpAny_of_eq (PySem.seqSlot_of hlk seq_imul) ?_)
  unfold sequenceRepeat
  refine wpAny_bind (wpAny_specialOf (typeIs_int _ x u) F.slot_int_index.lookup ?_)
  exact wpAny_bind (wpAny_rule hc)
theorem iadd_list (hl : s.heap.get? l = some (lobj items n)) (hb : s.heap.get? b = some (lobj items2 n2)) (hc : wpAny (model prog w) A (call (.builtin "list.__iadd__") [.ref l, .ref b]) Q E s) : wpAny (model prog w) A (inplaceOp .Add (.ref l) (.ref b)) Q E s := by
  have ha : s.TypeIs (.ref l) "list" := ⟨_, hl, rfl⟩
  have hb' : s.TypeIs (.ref b) "list" := ⟨_, hb, rfl⟩
  have hlk : typeLookup (.type "list") (dunderI "add") = pure (some (.builtin "list.__iadd__")) := PySem.F.slot_list_iadd.lookup
  unfold inplaceOp
  refine wpAny_holding ?_
  refine wpAny_bind (wpAny_typeOf ha (wpAny_bind (wpAny_of_eq (fillsI_list hlk seq_iadd) ?_)))
  show wpAny _ A (if false = true then _ else _) Q E s
  rw [if_neg Bool.false_ne_true]
  refine wpAny_bind (wpAny_binaryOp1_none (nm := "add") ha hb' noFill_list_add ?_)
  refine wpAny_bind (wpAny_of_eq (PySem.seqSlot_of hlk seq_iadd) ?_)
  exact wpAny_bind (wpAny_rule hc)
theorem upd_seq {f : Array Value → Array Value} (hl : s.heap.get? l = some (lobj items n)) : ∃ k, (s.heap.update l (Obj.mapSeq f)).get? l = some (lobj (f items) k) :=
  ⟨(if (f items).size = items.size then n else n + 1), by rw [Heap.get?_update_self _ hl rfl]; simp [Obj.mapSeq]⟩
theorem fold_rep (y : Value) : ∀ (k : Nat) (acc : Array Value), List.foldl (fun x1 x2 => x1 ++ x2) acc (List.replicate k #[y]) = acc ++ (List.replicate k y).toArray
  | 0, acc => by simp
  | k + 1, acc => by
    rw [List.replicate_succ, List.foldl_cons, fold_rep y k, List.replicate_succ]
    apply Array.ext'
    simp
/-- one item n times, in place -/
theorem imul_one {y : Value} (hl : s.heap.get? l = some (lobj #[y] n)) (h0 : 0 ≤ x) (h1 : x < 2 ^ 20)
    (h : ∀ h' k, Heap.SameBut l s.heap h' → h'.get? l = some (lobj (List.replicate x.toNat y).toArray k) → Q (.ref l) { s with heap := h' }) : wpAny (model prog w) A (inplaceOp .Mult (.ref l) (.int x u)) Q E s := by
  refine imul_list hl ?_
  have hfit : ¬(!Builtin.List.listFitsIndex x) = true := by simp [Builtin.List.listFitsIndex]; omega
  have e0 : ((#[y] : Array Value).size == 0) = false := rfl
  by_cases hx1 : x = 1
  · subst hx1
    refine call_meets F.slot_list_imul ⟨_, hl, rfl⟩ F.entry_list_imul (F.args_list_imul_2 _ _) (AutoSeq1.list___imul___list_int_1 l #[y] n 1 u hfit (by rw [e0]; rfl)) ⟨hl, ?_⟩
    exact h _ n (Heap.SameBut.refl _ _) hl
  have hc1 : ¬((#[y] : Array Value).size == 0 || x == 1) = true := by rw [e0]; simpa using hx1
  by_cases hx0 : x < 1
  · refine call_meets F.slot_list_imul ⟨_, hl, rfl⟩ F.entry_list_imul (F.args_list_imul_2 _ _) (AutoSeq1.list___imul___list_int_2 l #[y] n x u hfit hc1 hx0 (by show 1 ≤ sizeLine; decide)) ⟨hl, ?_⟩
    obtain ⟨k, hk⟩ := upd_seq (f := fun _ => #[]) hl
    refine h _ k (Heap.SameBut.update ..) ?_
    rw [hk, show x.toNat = 0 by omega]; rfl
  · have hxs : x.toNat < 2 ^ 20 := by omega
    refine call_meets F.slot_list_imul ⟨_, hl, rfl⟩ F.entry_list_imul (F.args_list_imul_2 _ _) (AutoSeq1.list___imul___list_int_5 l #[y] n x u hfit hc1 hx0 ?_ ?_ (by show 1 ≤ sizeLine; decide)) ⟨hl, ?_⟩
    · show ¬ (1 * x.toNat + 3) / 4 * 4 > (2 ^ 63 - 1) / 8
      omega
    · show ¬ Builtin.List.listTooLong (1 * x.toNat) = true
      simp [Builtin.List.listTooLong, sizeLine]; omega
    obtain ⟨k, hk⟩ := upd_seq (f := fun xs => List.foldl (fun x1 x2 => x1 ++ x2) #[] (List.replicate x.toNat xs)) hl
    refine h _ k (Heap.SameBut.update ..) ?_
    rw [hk, fold_rep]; simp
/-- a list made longer by another, in place -/
theorem iadd_lists (hl : s.heap.get? l = some (lobj items n)) (hb : s.heap.get? b = some (lobj items2 n2)) (hs : items.size + items2.size ≤ 1000)
    (h : ∀ h' k, Heap.SameBut l s.heap h' → h'.get? l = some (lobj (items ++ items2) k) → Q (.ref l) { s with heap := h' }) : wpAny (model prog w) A (inplaceOp .Add (.ref l) (.ref b)) Q E s := by
  refine iadd_list hl hb ?_
  have hz : (1000 : Nat) ≤ sizeLine := by decide
  refine call_meets F.slot_list_iadd ⟨_, hl, rfl⟩ F.entry_list_iadd (F.args_list_iadd_2 _ _) (AutoSeq1.list___iadd___list_list_0 l items n b items2 n2 ?_ (by omega) (by omega)) ⟨hl, hb, ?_⟩
  · have : Builtin.List.listTooLong (items.size + items2.size) = false := by simp [Builtin.List.listTooLong, sizeLine]; omega
    rw [this]; simp
  · obtain ⟨k, hk⟩ := upd_seq (f := fun x => x ++ items2) hl
    exact h _ k (Heap.SameBut.update ..) hk
end
end

-- Ip
section
/-- a def that changes the one object M of its caller's -/
def SpecM (w : World) (mean : ExcName → Option Value) (mg mb : Str → Option Value) (f : Addr) (d u : Nat) (args : List Value) (M : Addr) (pre : Heap → Prop) (post : Heap → Value → Prop) : Prop :=
  ∀ (dp un : Nat) (gd : Option (List Code)) (outer : List Env) (s : Shared) (R : Result → Shared → Prop),
    Frag.In (Mine.hd.heap_39 w.params) s.heap → Top Mine.hd.view_39 (looseW Mine.hd.view_39 []) mean mg mb s.heap →
    dp + d < recursionLimit → un + u < cLine → pre s.heap →
    (∀ v h' tk', (∀ b o, b ≠ M → s.heap.get? b = some o → h'.get? b = some o) → post h' v → R (.ok (.ret v)) { s with heap := h', toks := tk' }) →
    codeAny (model PySem.Challenge.pw_yf0007_01 w) (topA dp un gd outer) (.call (.ref f) ⟨args, []⟩) R s
section
variable {prog : Program} {w : World} {A : Around} {K : Frag} {s : Shared} {p : Program} {loose : List Str} {mean : ExcName → Option Value} {mg mb : Str → Option Value}
  {R : Result → Shared → Prop} {name qual : Str} {params : Arguments} {body : List Stmt} {scope : Scope} {dV kV doc pm cdv ct oc : Value} {an od : Option Addr} {osl : Array (Option Value)} {f : Addr} {args : Args} {binds : List (Str × Value)}
theorem enterRaw (X : K.In s.heap) (T : Top p loose mean mg mb s.heap)
    (ho : K.lookup f = some ⟨oc, od, .func (fnOf name qual params body scope dV kV doc pm an cdv ct), osl⟩) (hcd : codeIn K cdv qual = true) (hroom : A.depth < recursionLimit)
    (hbind : BindsTo s (fnOf name qual params body scope dV kV doc pm an cdv ct) args binds) (hloc : ∀ y ∈ binds, scope.names.lookup y.1 = some .local)
    (h : ∀ L' h₁, h₁.Ns L' (fun y => binds.reverse.lookup y) → s.heap.get? L' = none → (∀ b o, s.heap.get? b = some o → h₁.get? b = some o) →
      wpAny (model prog w) (A.deeper (envOf qual scope L' f cdv)) (execs body (envOf qual scope L' f cdv))
        (fun fl s' => R (.ok (.ret (match fl with | .ret v => v | _ => .none))) s')
        (fun e s' => wpAny (model prog w) (A.deeper (envOf qual scope L' f cdv)) (leaving (envOf qual scope L' f cdv) e) (fun _ s'' => R (.error e) s'') (fun e' s'' => R (.error e') s'') s')
        { s with heap := h₁, toks := s.toks + binds.length })
    (hco : scope.isCoroutine = false) (hgen : scope.isGenerator = false) (hk : scope.kind = .function)
    (hcell : ∀ x ∈ scope.names, x.2 ≠ .cell) : codeAny (model prog w) A (.call (.ref f) args) R s := by
  refine codeAny_call_def (fd := fnOf name qual params body scope dV kV doc pm an cdv ct) (body := body) (binds := binds) hroom (X _ _ ho) rfl T.nolimit (codeRec_of X hcd) rfl hbind hcell hloc (fun h₁ hns hk₁ => ?_) hco hgen hk
  exact h s.heap.objs.size h₁ hns (none_above (Nat.le_refl _)) hk₁
end
section
variable {prog : Program} {w : World} {A : Around} {E : Value → Shared → Prop} {s : Shared} {env : Env} {Q : Flow → Shared → Prop} {x y : Str} {px py pz p1 p2 : Pos} {op : Operator} {M : Addr} {v : Value} {m : Str → Option Value}
/-- «x op= y; return x» over locals -/
theorem aug_ret (hk : env.scope.kind = .function) (hx : env.kindOf x = some .local) (hy : env.kindOf y = some .local) (hdx : (x == ("__debug__" : Str)) = false) (hdy : (y == ("__debug__" : Str)) = false)
    (hp : (env.scope.kind == .class || (env.scope.kind == .module && env.locals != env.globals)) = false)
    (hn : s.heap.Ns env.locals m) (h1 : m x = some (.ref M)) (h2 : m y = some v) (hML : M ≠ env.locals)
    {P : Obj → Prop} (hop : ∀ Q' : Value → Shared → Prop, (∀ h' o, Heap.SameBut M s.heap h' → h'.get? M = some o → P o → Q' (.ref M) { s with heap := h' }) → wpAny (model prog w) A (inplaceOp op (.ref M) v) Q' E s)
    (fin : ∀ h'' o tk, (∀ b ob, b ≠ M → b ≠ env.locals → s.heap.get? b = some ob → h''.get? b = some ob) → h''.get? M = some o → P o → Q (.ret (.ref M)) { s with heap := h'', toks := tk }) :
    wpAny (model prog w) A (execs [.AugAssign (.Name x px) op (.Name y py) p1, .Return (some (.Name x pz)) p2] env) Q E s := by
  refine wpAny_execs_cons (wpAny_AugAssign_Name (wpAny_loadName_local hk hx hn h1 (wpAny_Name (wpAny_loadName_local hk hy hn h2 (hop _ fun h' o hs ho hP => ?_)) hdy)))
  have hn' : h'.Ns env.locals m := hn.sameBut hs (Ne.symm hML)
  refine wpAny_storeName_local hx hn' (fun h'' hn'' hs' => ?_) hp
  refine wpAny_execs_cons (wpAny_Return_some (wpAny_Name (wpAny_loadName_local hk hx hn'' (by rw [if_pos rfl]) ?_) hdx))
  exact fin h'' o _ (fun b ob b1 b2 e => hs'.extBut b ob b2 (hs.extBut b ob b1 e)) (hs'.extBut M o hML ho) hP
end
theorem sp_imulL (w : World) (mean : ExcName → Option Value) (mg mb : Str → Option Value) (M : Addr) (y : Value) (x : Int) (u : Tok) (h0 : 0 ≤ x) (h1 : x < 2 ^ 20) :
    SpecM w mean mg mb 128 1 3 [.ref M, .int x u] M (fun h => ∃ n, h.get? M = some (lobj #[y] n)) (fun h' v => v = .ref M ∧ ∃ k, h'.get? M = some (lobj (List.replicate x.toNat y).toArray k)) := by
  unfold SpecM
  intro dp un gd outer s R X T hd hu hpre hret
  obtain ⟨n, hM⟩ := hpre
  k_dflt (refine' enterRaw ?k2 ?k3 ?k6 ?k7 ?k8 ?k9 ?kB ?_ ?c2 ?c3 ?c4 ?c5; (case k2 => assumption); (case k3 => assumption); (case k6 => k_is); (case k7 => k_is); (case k8 => ktr_room); (case k9 => exact BindsTo.of_eq rfl); (case c5 => decide); (case kB => exact locs rfl); (case c2 => exact rfl); (case c3 => exact rfl); (case c4 => exact rfl); k_whole)
  intro L' h₁ hns hL hk
  refine aug_ret (P := fun o => ∃ k, o = lobj (List.replicate x.toNat y).toArray k) rfl rfl rfl (by decide) (by decide) rfl hns rfl rfl (fun e => by rw [e] at hM; exact absurd (hM.symm.trans hL) (fun q => by cases q)) (fun Q' hq => imul_one (hk _ _ hM) h0 h1 fun h' k hs ho => hq h' _ hs ho ⟨k, rfl⟩) ?_
  rintro h'' o tk hkeep ho ⟨k, rfl⟩
  refine hret _ _ _ (fun b ob hb e => hkeep b ob hb (fun q => ?_) (hk _ _ e)) ⟨rfl, k, ho⟩
  have q' : b = L' := q
  rw [q', hL] at e; cases e
theorem sp_iaddL (w : World) (mean : ExcName → Option Value) (mg mb : Str → Option Value) (M N : Addr) (xs ys : Array Value) (hs : xs.size + ys.size ≤ 1000) :
    SpecM w mean mg mb 107 1 3 [.ref M, .ref N] M (fun h => (∃ n, h.get? M = some (lobj xs n)) ∧ ∃ n, h.get? N = some (lobj ys n)) (fun h' v => v = .ref M ∧ ∃ k, h'.get? M = some (lobj (xs ++ ys) k)) := by
  unfold SpecM
  intro dp un gd outer s R X T hd hu hpre hret
  obtain ⟨⟨n, hM⟩, n2, hN⟩ := hpre
  k_dflt (refine' enterRaw ?k2 ?k3 ?k6 ?k7 ?k8 ?k9 ?kB ?_ ?c2 ?c3 ?c4 ?c5; (case k2 => assumption); (case k3 => assumption); (case k6 => k_is); (case k7 => k_is); (case k8 => ktr_room); (case k9 => exact BindsTo.of_eq rfl); (case c5 => decide); (case kB => exact locs rfl); (case c2 => exact rfl); (case c3 => exact rfl); (case c4 => exact rfl); k_whole)
  intro L' h₁ hns hL hk
  refine aug_ret (P := fun o => ∃ k, o = lobj (xs ++ ys) k) rfl rfl rfl (by decide) (by decide) rfl hns rfl rfl (fun e => by rw [e] at hM; exact absurd (hM.symm.trans hL) (fun q => by cases q)) (fun Q' hq => iadd_lists (hk _ _ hM) (hk _ _ hN) hs fun h' k hs ho => hq h' _ hs ho ⟨k, rfl⟩) ?_
  rintro h'' o tk hkeep ho ⟨k, rfl⟩
  refine hret _ _ _ (fun b ob hb e => hkeep b ob hb (fun q => ?_) (hk _ _ e)) ⟨rfl, k, ho⟩
  have q' : b = L' := q
  rw [q', hL] at e; cases e
end

-- X_p257
section
theorem item_own7 {prog : Program} {w : World} {A : Around} {E : Value → Shared → Prop} {s : Shared} {value slice : Expr} {x y : Str} {t u : Tok} {i : Int} {Q : Value → Shared → Prop} (e : Txt.item x i = y) (h0 : 0 ≤ i) (h1 : i < x.length) (hx : x.length ≤ 400) (h : Q (.str y s.toks) { s with toks := s.toks + 1 })
    (hs : subscripted slice false (.str x t) (.int i u) = operate [.str x t, .int i u] (getItem (.str x t) (.int i u)) := by with_unfolding_all rfl)
    (ht : ∀ r, letTemporaryGo value (.str x t) r = pure () := by intro _; with_unfolding_all rfl) :
    wpAny (model prog w) A (subscriptTail value slice (.str x t) (.int i u)) Q E s := by
  subst e
  exact item_str (fitsSsize_of (N := 9223372036854775808) (by omega) (by omega) (Int.le_refl _)) (by omega) (by omega) (fun _ => h) hs ht
set_option maxHeartbeats 1600000 in
theorem sp_p257 (w : World) (mean : ExcName → Option Value) (mg mb : Str → Option Value) (x : Str) (ta : Tok) (hx : x.length ≤ 400) (h5 : 5 ≤ x.length) (h1 : (Txt.slice x none (some 3) != Str.ofString "257") = false) (h2 : (Txt.slice x (some 3) (some 5) != Str.ofString " \"") = false) :
    Spec w mean mg mb 72 3 20 [.str x ta] (fun _ => True) (fun _ _ v => ∃ y t, v = .str y t ∧ y.cps.toList = rd (x.cps.toList.drop 5)) := by
  k_with_none
  w_top off
  k_with "own ite" => (k_here; first | refine ite_t (by assumption) ?_ | refine ite_f (by assumption) ?_ | refine ite_fb (by assumption) ?_)
  k_with "own subscriptTail Name Name str int" => (k_here; (refine item_own7 rfl ?h0 ?h1 ?h2 ?_; (case h0 => omega); (case h1 => omega); (case h2 => assumption)))
  k_with "own binaryOp Add str str" => (k_here; (refine PyProof.Rows.add_str ?_ ?hsz; (case hsz => ((show Str.length _ + 1 ≤ 16777216); omega)); intro t' k'))
  unfold Spec
  intro dp un gd outer base s R B X T hd hu hpre hret
  k_dflt (refine' enter ?k1 ?k2 ?k3 ?k6 ?k7 ?k8 ?k9 ?kB ?_ ?c2 ?c3 ?c4 ?c5; (case k1 => exact B); (case k2 => exact X); (case k3 => exact T); (case k6 => k_is); (case k7 => k_is); (case k8 => ktr_room); (case k9 => exact BindsTo.of_eq rfl); (case c5 => decide); (case kB => exact locs rfl); (case c2 => exact rfl); (case c3 => exact rfl); (case c4 => exact rfl); k_whole)
  clear B X T
  intro g' L' h' hg B' X' T' F' N'
  w_binds F'
  (try dsimp only)
  (try dsimp only at hpre)
  (try rw [hg] at hpre)
  (try k_fold)
  k_with "exec While Compare cons nil" => (k_here; (rename Fr _ _ _ _ => F9); (rename News _ _ _ _ => N9); refine while257 (n₀ := x.length - 5) x ta F9 N9 ?_ ?_)
  k_steps
  · show J257 _ _ _ _ _
    exact ⟨rfl, 5, Str.ofString "", _, _, _, rfl, rfl, rfl, rfl, h5, rfl, by decide, rfl⟩
  show ∀ (n : Nat) (m₁ : Str → Option Value) (h₁ : Heap) (tk₁ : Nat) (i : Nat) (d : Str) (ti td tn : Tok), _
  intro n m₁ h₁ tk₁ i d ti td tn hi hn hdl hr F₂ N₂
  (try dsimp only)
  k_steps
  rotate_left 2
  · refine while_next (n' := x.length - (i + 2)) (by assumption) (by assumption) (by omega) ⟨rfl, i + 2, d ++ Txt.item x (i : Int), _, _, _, rfl, some_int ?_, rfl, rfl, ?_, rfl, ?_, step2 hr ?_ ?_ ?_ ?_⟩
    · omega
    · omega
    · rw [app_len]; omega
    · assumption
    · assumption
    · assumption
    · assumption
  · refine while_next (n' := x.length - (i + 1)) (by assumption) (by assumption) (by omega) ⟨rfl, i + 1, d ++ Txt.item x (i : Int), _, _, _, rfl, some_int ?_, rfl, rfl, ?_, rfl, ?_, step1 hr ?_ ?_⟩
    · omega
    · omega
    · rw [app_len]; omega
    · assumption
    · assumption
  all_goals ((try dsimp only); (try dsimp only [WhileStep2]); k_steps)
  all_goals (subst hg; (try dsimp only); refine hret _ _ _ (Fr.keep (by assumption)) ?_)
  all_goals (first | exact ⟨d, _, rfl, end257 hr (brk1 (by assumption) (by assumption) (by assumption))⟩ | exact ⟨d, _, rfl, end257 hr (brk2 (by assumption) (by assumption) (by assumption) (by assumption))⟩ | exact ⟨d, _, rfl, end257 hr (end257' (by assumption))⟩)
end

-- Math5
section
open PySem PySem.W PyProof.Rows PySem.StrLaws PySem.Builtin PySem.Builtin.Str
theorem worth_chk : ∀ e : Nat, e < 64 → 0 + (if (decide ((e : Int) / 1 % 2 = 0) == false) = true then 1 * 2 ^ (0 : Int).toNat else 0) + (if (decide ((e : Int) / 2 % 2 = 0) == false) = true then 1 * 2 ^ (1 : Int).toNat else 0) + (if (decide ((e : Int) / 4 % 2 = 0) == false) = true then 1 * 2 ^ (2 : Int).toNat else 0) +
    (if (decide ((e : Int) / 8 % 2 = 0) == false) = true then 1 * 2 ^ (3 : Int).toNat else 0) + (if (decide ((e : Int) / 16 % 2 = 0) == false) = true then 1 * 2 ^ (4 : Int).toNat else 0) + (if (decide ((e : Int) / 32 % 2 = 0) == false) = true then 1 * 2 ^ (5 : Int).toNat else (0 : Int)) = (e : Int) := by decide +kernel
theorem worth_law {e : Int} (h0 : 0 ≤ e) (h1 : e < 64) : 0 + (if (decide (e / 1 % 2 = 0) == false) = true then 1 * 2 ^ (0 : Int).toNat else 0) + (if (decide (e / 2 % 2 = 0) == false) = true then 1 * 2 ^ (1 : Int).toNat else 0) + (if (decide (e / 4 % 2 = 0) == false) = true then 1 * 2 ^ (2 : Int).toNat else 0) +
    (if (decide (e / 8 % 2 = 0) == false) = true then 1 * 2 ^ (3 : Int).toNat else 0) + (if (decide (e / 16 % 2 = 0) == false) = true then 1 * 2 ^ (4 : Int).toNat else 0) + (if (decide (e / 32 % 2 = 0) == false) = true then 1 * 2 ^ (5 : Int).toNat else (0 : Int)) = e := by
  obtain ⟨e, rfl⟩ := Int.eq_ofNat_of_zero_le h0
  exact worth_chk e (Int.ofNat_lt.mp h1)
/-- what stands of the marks -/
theorem rd_marks {c : Nat} (hc : c ≠ 34) {tl : List Nat} (ht : rd (c :: tl) = [c]) : ∀ n : Nat, rd (List.replicate n 34 ++ c :: tl) = List.replicate (n / 2) 34 ++ (if n % 2 = 0 then [c] else [])
  | 0 => by simpa using ht
  | 1 => by
    show rd (34 :: c :: tl) = _
    rw [rd_stopc _ hc]; rfl
  | n + 2 => by
    show rd (34 :: 34 :: (List.replicate n 34 ++ c :: tl)) = _
    rw [rd_pair, rd_marks hc ht n, Nat.add_div_right n (by decide : 0 < 2), Nat.add_mod_right]
    rfl
theorem tail0 {c : Nat} (hc : c ≠ 34) : rd (c :: []) = [c] := by rw [rd_cons _ hc]; rfl
theorem tail1 {c : Nat} (hc : c ≠ 34) : rd (c :: [34]) = [c] := by rw [rd_cons _ hc, rd_one]
theorem tail2 {c : Nat} (hc : c ≠ 34) : rd (c :: [34, 32, 111, 107]) = [c] := by rw [rd_cons _ hc, rd_stopc _ (by decide)]
theorem tail3 {c : Nat} (hc : c ≠ 34) : rd (c :: [34, 120, 34]) = [c] := by rw [rd_cons _ hc, rd_stopc _ (by decide)]
/-- contains -/
theorem sub_list {x y : Str} {i : Nat} : subAt x y i = true ↔ (x.cps.toList.drop i).take y.cps.toList.length = y.cps.toList := by
  unfold subAt
  rw [beq_iff_eq]
  constructor
  · intro h
    have := congrArg Array.toList h
    simpa [Str.length, List.take_drop, Nat.add_comm] using this
  · intro h
    apply Array.ext'
    simpa [Str.length, List.take_drop, Nat.add_comm] using h
theorem found_list (x y : Str) : (!(occurrences x y 0 x.length 1).isEmpty) = true ↔ ∃ pre post, x.cps.toList = pre ++ y.cps.toList ++ post := by
  rw [found_iff]
  have hl : x.length = x.cps.toList.length := by simp [Str.length]
  have hly : y.length = y.cps.toList.length := by simp [Str.length]
  constructor
  · rintro ⟨i, hi, hs⟩
    rw [sub_list] at hs
    refine ⟨x.cps.toList.take i, x.cps.toList.drop (i + y.cps.toList.length), ?_⟩
    rw [List.append_assoc]
    conv => lhs; rw [← List.take_append_drop i x.cps.toList, ← List.take_append_drop y.cps.toList.length (x.cps.toList.drop i), hs, List.drop_drop]
  · rintro ⟨pre, post, h⟩
    refine ⟨pre.length, ?_, ?_⟩
    · rw [hl, hly, h]; simp only [List.length_append]; omega
    · rw [sub_list, h, List.append_assoc, List.drop_left, List.take_left]

/-- what is told: k quotation marks, the mark behind them or not -/
def toldL (k : Nat) (ev : Bool) (c : Nat) : List Nat := List.replicate k 34 ++ (if ev then [c] else [])
theorem rep_no {c k : Nat} (hc : c ≠ 34) : c ∉ List.replicate k 34 := fun h => hc (List.eq_of_mem_replicate h)
theorem found1 {x : Str} {k c : Nat} {ev : Bool} (hc : c ≠ 34) (hx : x.cps.toList = toldL k ev c) : (!(occurrences x ⟨#[c]⟩ 0 x.length 1).isEmpty) = ev := by
  rw [Bool.eq_iff_iff, found_list, hx]
  unfold toldL
  constructor
  · rintro ⟨pre, post, h⟩
    cases ev with
    | true => rfl
    | false =>
      have : c ∈ List.replicate k 34 ++ (if false = true then [c] else []) := by rw [h]; simp
      simp only [Bool.false_eq_true, if_false, List.append_nil] at this
      exact absurd this (rep_no hc)
  · intro h
    rw [h]
    exact ⟨List.replicate k 34, [], by simp⟩
theorem found2 {x : Str} {k c : Nat} {ev : Bool} (hc : c ≠ 34) (hx : x.cps.toList = toldL k ev c) : (!(occurrences x ⟨#[34]⟩ 0 x.length 1).isEmpty) = decide (1 ≤ k) := by
  rw [Bool.eq_iff_iff, found_list, hx, decide_eq_true_eq]
  unfold toldL
  constructor
  · rintro ⟨pre, post, h⟩
    cases k with
    | succ k => omega
    | zero =>
      have : 34 ∈ List.replicate 0 34 ++ (if ev = true then [c] else []) := by rw [h]; simp
      cases ev <;> simp at this
      exact absurd this.symm hc
  · intro h
    obtain ⟨k', rfl⟩ : ∃ k', k = k' + 1 := ⟨k - 1, by omega⟩
    exact ⟨[], List.replicate k' 34 ++ (if ev then [c] else []), by simp [List.replicate_succ]⟩
theorem found3 {x : Str} {k c : Nat} {ev : Bool} (hc : c ≠ 34) (hx : x.cps.toList = toldL k ev c) : (!(occurrences x ⟨#[34, c]⟩ 0 x.length 1).isEmpty) = (ev && decide (1 ≤ k)) := by
  rw [Bool.eq_iff_iff, found_list, hx, Bool.and_eq_true, decide_eq_true_eq]
  unfold toldL
  constructor
  · rintro ⟨pre, post, h⟩
    have hm : c ∈ List.replicate k 34 ++ (if ev = true then [c] else []) := by rw [h]; simp
    cases ev with
    | false =>
      simp only [Bool.false_eq_true, if_false, List.append_nil] at hm
      exact absurd hm (rep_no hc)
    | true =>
      refine ⟨rfl, ?_⟩
      cases k with
      | succ k => omega
      | zero =>
        have hl := congrArg List.length h
        simp at hl
        omega
  · rintro ⟨rfl, hk⟩
    obtain ⟨k', rfl⟩ : ∃ k', k = k' + 1 := ⟨k - 1, by omega⟩
    exact ⟨List.replicate k' 34, [], by simp [List.replicate_succ']⟩
theorem found4 {x : Str} {k c : Nat} {ev : Bool} (hc : c ≠ 34) (hx : x.cps.toList = toldL k ev c) : (!(occurrences x ⟨#[c, 34]⟩ 0 x.length 1).isEmpty) = false := by
  rw [Bool.eq_false_iff]
  intro hh
  rw [Ne, ] at *
  obtain ⟨pre, post, h⟩ := (found_list _ _).mp hh
  rw [hx] at h
  unfold toldL at h
  have hr : ∀ (k : Nat) (pre post : List Nat), List.replicate k 34 ++ (if ev = true then [c] else []) = pre ++ [c, 34] ++ post → False := by
    intro k
    induction k with
    | zero =>
      intro pre post h
      have hl := congrArg List.length h
      cases ev <;> simp at hl <;> omega
    | succ k ih =>
      intro pre post h
      cases pre with
      | nil =>
        rw [List.replicate_succ] at h
        simp at h
        exact hc h.1.symm
      | cons a pre =>
        rw [List.replicate_succ] at h
        simp only [List.cons_append, List.cons.injEq] at h
        exact ih pre post (by rw [h.2])
  exact hr k pre post h
theorem marks_count {k c : Nat} {ev : Bool} (hc : c ≠ 34) : (toldL k ev c).filter (fun a => a == 34) = List.replicate k 34 := by
  unfold toldL
  rw [List.filter_append, List.filter_replicate_of_pos (by decide)]
  cases ev <;> simp [hc]
end

-- R0
section
def RIt (h₀ : Heap) (L : Addr) (m : Str → Option Value) (news : List (Addr × Obj)) (n : Nat) (s : Shared) (xv : Value) (s₁ : Shared) : Prop :=
  ∃ r t u v h tk, xv = .ref r ∧ s₁ = { s with heap := h, toks := tk } ∧ IsRange h r 0 n 1 t u v ∧ Fr h₀ L h m ∧ News h₀ L h news
def RStep (h₀ : Heap) (L : Addr) (s : Shared) (I : Addr) (oI : Obj) (J : (Str → Option Value) → List (Addr × Obj) → Prop) (f : Flow) (s₂ : Shared) : Prop :=
  f = .next ∧ ∃ h' tk' m₂ news₂, s₂ = { s with heap := h', toks := tk' } ∧ Fr h₀ L h' m₂ ∧ News h₀ L h' ((I, oI) :: news₂) ∧ AllNe I news₂ ∧ J m₂ news₂
section
variable {prog : Program} {w : World} {A : Around} {E : Value → Shared → Prop} {s : Shared} {env : Env} {h₀ : Heap}
/-- a loop over a short range whose turns make objects -/
theorem for_rangeJ {Q : Flow → Shared → Prop} {v : Str} {px pos : Pos} {iter : Expr} {body : List Stmt} {m : Str → Option Value} {news : List (Addr × Obj)} (n : Nat) (J : Nat → (Str → Option Value) → List (Addr × Obj) → Prop)
    (hh : A.handled = none) (hv : env.kindOf v = some .local)
    (hp : (env.scope.kind == .class || (env.scope.kind == .module && env.locals != env.globals)) = false)
    (_F : Fr h₀ env.locals s.heap m) (_N : News h₀ env.locals s.heap news) (h0 : J 0 m news) (hsm : Builtin.Range.small 0 n 1 = true) (hrs : Builtin.Range.rangeSize 0 n 1 = (n : Int))
    (hiter : wpAny (model prog w) A (eval iter env) (RIt h₀ env.locals m news n s) E s)
    (step : ∀ i t m₁ news₁ I oI h tk0, i < n → 0 < tk0 → J i m₁ news₁ → AllNe I news₁ → Fr h₀ env.locals h (fun y => if y = v then some (.int (i : Int) t) else m₁ y) → News h₀ env.locals h ((I, oI) :: news₁) →
      wpAny (model prog w) A (execs body env) (RStep h₀ env.locals s I oI (J (i + 1))) E { s with heap := h, toks := tk0 })
    (hQ : ∀ h' tk m' news', Fr h₀ env.locals h' m' → News h₀ env.locals h' news' → J n m' news' → Q .next { s with heap := h', toks := tk })
    (hs : ∀ y, foldedSetIterable iter env y = pure y := by intro _; rfl)
    (hE : PassesOwn (model prog w) A env E := by passes_own) :
    wpAny (model prog w) A (exec (.For (.Name v px) iter body [] pos) env) Q E s := by
  refine wpAny_For (wpAny_mono hiter (fun xv s₁ h₁ => ?_) fun _ _ e => e) hs
  obtain ⟨r, t, u, v', h, tk, rfl, rfl, hr, F, N⟩ := h₁
  have hL0 : h₀.get? env.locals = none := kts_self F
  have hI0 : h₀.get? h.objs.size = none := next_is_new F
  have hIL : h.objs.size ≠ env.locals := Ne.symm (Nat.ne_of_lt F.ns.lt)
  refine wpAny_pyIter_range hr hsm ?_
  have W := Walks.range (prog := prog) (w := w) hh h.objs.size 0 1 n
  have hst : IsRangeIter (h.push { cls := .type "range_iterator", data := .fields #[rawInt 0, rawInt (Builtin.Range.rangeSize 0 n 1), rawInt 1] }) h.objs.size (0 + (0 : Nat) * 1) ((n : Int) - (0 : Nat)) 1 := by
    have e : (0 : Int) + ((0 : Nat) : Int) * 1 = 0 := rfl
    have e2 : (n : Int) - ((0 : Nat) : Int) = Builtin.Range.rangeSize 0 n 1 := by rw [hrs]; simp
    rw [e, e2]
    exact Heap.get?_push_size _ rfl
  refine codeAny_forLoop (R := fun r s' => match r with | .ok f => Q f s' | .error e => cameBackBy (model prog w) A env E e s')
    (fun k s' => ∃ h' tk m' news' i, s' = { s with heap := h', toks := tk } ∧ IsRangeIter h' h.objs.size (0 + (i : Nat) * 1) ((n : Int) - (i : Nat)) 1 ∧ Fr h₀ env.locals h' m' ∧ News h₀ env.locals h' news' ∧ AllNe h.objs.size news' ∧ J i m' news' ∧ i ≤ n ∧ k = n + 1 - i) ?_ (n + 1)
    ⟨_, tk, m, news, 0, rfl, hst, F.push _, fun p hp => ⟨Heap.get?_push_of_some _ (N p hp).1, (N p hp).2⟩, fun p hp => Nat.ne_of_lt (Heap.lt_size (N p hp).1), h0, Nat.zero_le _, rfl⟩
  rintro k s' ⟨h', tk', m', news', i, rfl, hit, F', N', ne', hJ, hi, rfl⟩
  by_cases hlt : i < n
  · refine W.item i _ _ _ hlt hit fun x h₁ tk₁ hx hst₁ hk => ?_
    obtain ⟨t₁, rfl⟩ := hx
    rw [show (0 : Int) + (i : Int) * 1 = (i : Int) by omega]
    have F₁ : Fr h₀ env.locals h₁ m' := LCg.fr_but F' hk (Ne.symm hIL) hI0
    have N₁ : News h₀ env.locals h₁ news' := LCg.news_but N' hk ne'
    refine wpAny_assign_Name (wpAny_storeName_local hv F₁.ns (fun h₂ hn₂ hs₂ => ?_) hp)
    have F₂ : Fr h₀ env.locals h₂ (fun y => if y = v then some (.int (i : Int) t₁) else m' y) := ⟨hn₂, fun b o e => hs₂.extBut b o (fun q => by rw [q, hL0] at e; cases e) (F₁.keep b o e), F₁.above⟩
    have N₂ : News h₀ env.locals h₂ news' := fun p hp => ⟨hs₂.extBut _ _ (N₁ p hp).2.1 (N₁ p hp).1, (N₁ p hp).2⟩
    obtain ⟨oI, hst₂, hI⟩ : ∃ oI, h₂.get? h.objs.size = some oI ∧ ∀ g : Heap, g.get? h.objs.size = some oI → IsRangeIter g h.objs.size (0 + ((i + 1 : Nat) : Int) * 1) ((n : Int) - ((i + 1 : Nat) : Int)) 1 := ⟨_, hs₂.extBut _ _ hIL hst₁, fun g e => e⟩
    refine wpAny_mono (wpAny_passesOwn hE (step i t₁ m' news' h.objs.size oI h₂ _ hlt (Nat.succ_pos _) hJ ne' F₂ (fun p hp => ?_))) (fun f s₃ h₃ => ?_) fun _ _ e => e
    · rcases List.mem_cons.mp hp with rfl | hp
      · exact ⟨hst₂, hIL, hI0⟩
      · exact N₂ p hp
    · obtain ⟨rfl, h₃, tk₃, m₃, news₃, rfl, F₃, N₃, ne₃, J₃⟩ := h₃
      exact ⟨n + 1 - (i + 1), meas hlt, h₃, tk₃, m₃, news₃, i + 1, rfl, hI _ (N₃ _ (.head _)).1, F₃, fun p hp => N₃ p (.tail _ hp), ne₃, J₃, hlt, rfl⟩
  · obtain rfl : i = n := Nat.le_antisymm hi (Nat.not_lt.mp hlt)
    refine W.done _ _ _ hit fun h₁ tk₁ hk => wpAny_execs_nil ?_
    exact hQ h₁ tk₁ m' news' (LCg.fr_but F' hk (Ne.symm hIL) hI0) (LCg.news_but N' hk ne') hJ
theorem execs_toks {M : Model} {A : Around} {E : Value → Shared → Prop} {s : Shared} {Q : Flow → Shared → Prop} {env : Env} {st : Stmt} {rest : List Stmt} (hn : 1 ≤ s.toks)
    (h : wpAny M A (exec st env) (fun f s₁ => 1 ≤ s₁.toks → (match f with | .next => wpAny M A (execs rest env) Q E s₁ | f => Q f s₁)) E s) : wpAny M A (execs (st :: rest) env) Q E s :=
  wpAny_execs_cons (wpAny_with_toks hn (wpAny_mono h (fun _ _ q => q) fun _ _ e _ => e))
end
end

-- Math6
section
open PySem PySem.W PyProof.Rows PySem.StrLaws PySem.Builtin PySem.Builtin.Str
theorem sub_one' {a n : Nat} (h : a < n) : n - a = n - (a + 1) + 1 := (Nat.succ_pred_eq_of_pos (Nat.sub_pos_of_lt h)).symm
theorem occ_go (s sub : Str) (hi limit : Nat) (h1 : sub.length = 1) : ∀ (L : List Nat) (st : Array Nat × Nat), (∀ i ∈ L, st.2 ≤ i) → L.Pairwise (· < ·) →
    (forIn L st (occBody s sub hi limit)).run.fst.toList = st.1.toList ++ (L.filter (fun i => decide (i + sub.length ≤ hi) && subAt s sub i)).take (limit - st.1.size)
  | [], st, _, _ => by simp
  | a :: L, st, hf, hp => by
    rw [List.forIn_cons]
    have ha : st.2 ≤ a := hf a (List.mem_cons_self ..)
    have hp' := List.pairwise_cons.mp hp
    unfold occBody
    by_cases hc : a + sub.length ≤ hi ∧ subAt s sub a = true
    · by_cases hs : st.1.size < limit
      · rw [if_pos ⟨⟨⟨hs, ha⟩, hc.1⟩, hc.2⟩]
        show (forIn L (st.1.push a, a + sub.length) (occBody s sub hi limit)).run.fst.toList = _
        rw [occ_go s sub hi limit h1 L (st.1.push a, a + sub.length) (fun i hi' => by have := hp'.1 i hi'; rw [h1]; omega) hp'.2]
        rw [List.filter_cons_of_pos (by simp [hc.1, hc.2])]
        simp only [Array.toList_push, Array.size_push]
        rw [show limit - st.1.size = (limit - (st.1.size + 1)) + 1 from sub_one' hs, List.take_succ_cons]
        simp
      · rw [if_neg (fun q => hs q.1.1.1)]
        show (forIn L (st.1, st.2) (occBody s sub hi limit)).run.fst.toList = _
        rw [occ_go s sub hi limit h1 L (st.1, st.2) (fun i hi' => hf i (List.mem_cons_of_mem _ hi')) hp'.2]
        rw [Nat.sub_eq_zero_of_le (Nat.le_of_not_lt hs)]
        simp
    · rw [if_neg (fun q => hc ⟨q.1.2, q.2⟩)]
      show (forIn L (st.1, st.2) (occBody s sub hi limit)).run.fst.toList = _
      rw [occ_go s sub hi limit h1 L (st.1, st.2) (fun i hi' => hf i (List.mem_cons_of_mem _ hi')) hp'.2]
      rw [List.filter_cons_of_neg (by simpa [Classical.not_and_iff_not_or_not, Decidable.imp_iff_not_or] using hc)]
/-- the places of a sign, counted from k on -/
def posF (c : Nat) : Nat → List Nat → List Nat
  | _, [] => []
  | k, a :: r => if a = c then k :: posF c (k + 1) r else posF c (k + 1) r
theorem sub_one (s : Str) (c i : Nat) : (decide (i + (⟨#[c]⟩ : Str).length ≤ s.length) && subAt s ⟨#[c]⟩ i) = decide (s.cps.toList[i]? = some c) := by
  have hl : s.length = s.cps.toList.length := by simp [Str.length]
  have h1 : (⟨#[c]⟩ : Str).length = 1 := rfl
  rw [Bool.eq_iff_iff, Bool.and_eq_true, decide_eq_true_eq, decide_eq_true_eq, h1]
  unfold subAt
  rw [beq_iff_eq, h1]
  constructor
  · rintro ⟨h, e⟩
    have := congrArg (fun a : Array Nat => a[0]?) e
    rw [Array.getElem?_extract] at this
    simp at this
    have h2 : i < s.cps.toList.length := by omega
    rw [List.getElem?_eq_getElem h2]
    have h3 : i < s.cps.size := by simpa using h2
    simp [h3] at this
    simp [this]
  · intro e
    obtain ⟨h2, e2⟩ := List.getElem?_eq_some_iff.mp e
    refine ⟨by omega, ?_⟩
    apply Array.ext'
    simp only [Array.toList_extract, List.extract_eq_drop_take']
    rw [List.drop_take, show i + 1 - i = 1 by omega, List.drop_eq_getElem_cons h2, e2]
    rfl
theorem filter_pos (c : Nat) : ∀ (l : List Nat) (lo : Nat) (p : Nat → Bool), (∀ i, i < l.length → p (lo + i) = decide (l[i]? = some c)) → (List.range' lo l.length).filter p = posF c lo l
  | [], lo, p, _ => by simp [posF]
  | a :: r, lo, p, h => by
    rw [List.length_cons, List.range'_succ, posF]
    have h0 := h 0 (by simp)
    have hr := filter_pos c r (lo + 1) p (fun i hi => by have := h (i + 1) (by simpa using hi); rw [show lo + (i + 1) = lo + 1 + i by omega] at this; rw [this]; rfl)
    simp only [Nat.add_zero, List.getElem?_cons_zero, Option.some.injEq] at h0
    by_cases ha : a = c
    · rw [if_pos ha, List.filter_cons_of_pos (by rw [h0]; simpa using ha), hr]
    · rw [if_neg ha, List.filter_cons_of_neg (by rw [h0]; simpa using ha), hr]
theorem occ_pos (s : Str) (c lo limit : Nat) (hlo : lo ≤ s.length) : occurrences s ⟨#[c]⟩ lo s.length limit = (posF c lo (s.cps.toList.drop lo)).take limit := by
  have hl : s.length = s.cps.toList.length := by simp [Str.length]
  rw [occ_eq, occ_go s ⟨#[c]⟩ s.length limit rfl _ (#[], lo) (fun i hi => (List.mem_range'_1.mp hi).1) (List.pairwise_lt_range' ..)]
  simp only [List.nil_append, Array.size_empty, Nat.sub_zero, sub_one]
  have e : s.length + 1 - lo = (s.cps.toList.drop lo).length + 1 := by rw [List.length_drop, ← hl]; exact Nat.succ_sub hlo
  rw [e, ← List.range'_append_1 (s := lo) (m := (s.cps.toList.drop lo).length) (n := 1), List.filter_append]
  rw [filter_pos c (s.cps.toList.drop lo) lo _ (fun i hi => by rw [List.getElem?_drop])]
  have : (List.range' (lo + (s.cps.toList.drop lo).length) 1).filter (fun i => decide (s.cps.toList[i]? = some c)) = [] := by
    rw [List.length_drop]
    have : s.cps.toList[lo + (s.cps.toList.length - lo)]? = none := List.getElem?_eq_none (Nat.le_of_eq (Nat.add_sub_cancel' (hl ▸ hlo)).symm)
    rw [List.range'_succ, List.filter_cons_of_neg (by rw [this]; simp)]; rfl
  rw [this, List.append_nil]
end

-- Math7
section
open PySem PySem.W PyProof.Rows PySem.StrLaws PySem.Builtin PySem.Builtin.Str
theorem len_toList (x : Str) : x.length = x.cps.toList.length := by simp [Str.length]
theorem posF_none {c : Nat} : ∀ {l : List Nat} (k : Nat), c ∉ l → posF c k l = []
  | [], _, _ => rfl
  | a :: l, k, h => by
    rw [posF, if_neg (fun e => h (by rw [e]; exact .head _))]
    exact posF_none (k + 1) fun q => h (.tail _ q)
theorem posF_app {c : Nat} : ∀ {pre : List Nat} (k : Nat) (post : List Nat), c ∉ pre → posF c k (pre ++ c :: post) = (k + pre.length) :: posF c (k + pre.length + 1) post
  | [], k, post, _ => by rw [List.nil_append, posF, if_pos rfl]; rfl
  | a :: pre, k, post, h => by
    rw [List.cons_append, posF, if_neg (fun e => h (by rw [e]; exact .head _)), posF_app (k + 1) post fun q => h (.tail _ q)]
    simp only [List.length_cons]
    rw [show k + 1 + pre.length = k + (pre.length + 1) by omega]
theorem find_none {x : Str} {c : Nat} (h : c ∉ x.cps.toList) : Txt.find x ⟨#[c]⟩ = -1 := by
  unfold Txt.find
  rw [occ_pos x c 0 1 (Nat.zero_le _), List.drop_zero, posF_none 0 h]
  rfl
theorem find_at {x : Str} {c : Nat} {pre post : List Nat} (e : x.cps.toList = pre ++ c :: post) (h : c ∉ pre) : Txt.find x ⟨#[c]⟩ = (pre.length : Int) := by
  unfold Txt.find
  rw [occ_pos x c 0 1 (Nat.zero_le _), List.drop_zero, e, posF_app 0 post h, Nat.zero_add]
  rfl
theorem from_nat {n k : Nat} : fromIndex n (k : Int) = k := by unfold fromIndex; rw [if_neg (Int.not_lt.mpr (Int.natCast_nonneg k))]; exact congrArg Int.toNat (Int.max_eq_right (Int.natCast_nonneg k))
theorem find3_none {x : Str} {c k : Nat} {pre post : List Nat} (e : x.cps.toList = pre ++ post) (hk : pre.length = k) (h : c ∉ post) : Txt.find3 x ⟨#[c]⟩ (k : Int) = -1 := by
  unfold Txt.find3
  rw [from_nat, occ_pos x c k 1 (by rw [len_toList, e, List.length_append]; omega), e, ← hk, List.drop_left, posF_none _ h]
  rfl
theorem find3_at {x : Str} {c k : Nat} {pre mid post : List Nat} (e : x.cps.toList = pre ++ (mid ++ c :: post)) (hk : pre.length = k) (h : c ∉ mid) : Txt.find3 x ⟨#[c]⟩ (k : Int) = ((k + mid.length : Nat) : Int) := by
  unfold Txt.find3
  rw [from_nat, occ_pos x c k 1 (by rw [len_toList, e, List.length_append]; omega), e, ← hk, List.drop_left, posF_app _ post h]
  rfl
theorem item_at {x : Str} {c k : Nat} {pre post : List Nat} (e : x.cps.toList = pre ++ c :: post) (hk : pre.length = k) : Txt.item x (k : Int) = ⟨#[c]⟩ := by
  have h : k < x.cps.toList.length := by rw [e, List.length_append, List.length_cons]; omega
  rw [item_nat h]
  have : x.cps.toList[k] = c := by
    have := List.getElem?_eq_getElem h
    rw [show x.cps.toList[k]? = some c by rw [e, List.getElem?_append_right (by omega), hk, Nat.sub_self]; rfl] at this
    exact (Option.some.inj this).symm
  rw [this]
theorem slice_at {x : Str} {i j : Nat} {pre mid post : List Nat} (e : x.cps.toList = pre ++ (mid ++ post)) (hi : pre.length = i) (hj : i + mid.length = j) : (Txt.slice x (some (i : Int)) (some (j : Int))).cps.toList = mid := by
  rw [slice_mid (by omega) (by omega) (by rw [len_toList, e, List.length_append, List.length_append]; omega), e]
  rw [Int.toNat_natCast, show ((j : Int) - (i : Int)).toNat = mid.length from (Int.toNat_sub j i).trans (by rw [← hj, Nat.add_sub_cancel_left]), ← hi, List.drop_left, List.take_left]
/-- what a text parts into at a sign -/
def splitA (c : Nat) : List Nat → List Nat → List (List Nat)
  | acc, [] => [acc]
  | acc, b :: r => if b = c then acc :: splitA c [] r else splitA c (acc ++ [b]) r
theorem splitA_app {c : Nat} : ∀ {d : List Nat} (acc r : List Nat), c ∉ d → splitA c acc (d ++ r) = splitA c (acc ++ d) r
  | [], acc, r, _ => by simp
  | a :: d, acc, r, h => by
    rw [List.cons_append, splitA, if_neg (fun e => h (by rw [e]; exact .head _)), splitA_app (acc ++ [a]) r fun q => h (.tail _ q)]
    simp
theorem splitA_sign {c : Nat} (acc r : List Nat) : splitA c acc (c :: r) = acc :: splitA c [] r := by rw [splitA, if_pos rfl]
theorem parts_from (x : Str) (c : Nat) : ∀ (suf : List Nat) (a k : Nat), a ≤ k → k ≤ x.cps.toList.length → x.cps.toList.drop k = suf →
    (partsFrom x 1 a (posF c k suf)).map (fun y => y.cps.toList) = splitA c ((x.cps.toList.drop a).take (k - a)) suf
  | [], a, k, ha, hk, hd => by
    have hl : x.cps.toList.length ≤ k := List.drop_eq_nil_iff.mp hd
    rw [posF, partsFrom, splitA, List.map_cons, List.map_nil, strSub_toList, len_toList, Nat.le_antisymm hl hk]
  | b :: r, a, k, ha, hk, hd => by
    have hlt : k < x.cps.toList.length := by
      refine Nat.lt_of_not_le fun h => ?_
      rw [List.drop_eq_nil_of_le h] at hd
      cases hd
    have hr : x.cps.toList.drop (k + 1) = r := by rw [← List.drop_drop, hd]; rfl
    have hb : x.cps.toList[k] = b := by
      rw [List.drop_eq_getElem_cons hlt] at hd
      exact (List.cons.inj hd).1
    rw [posF, splitA]
    by_cases h : b = c
    · rw [if_pos h, if_pos h, partsFrom, List.map_cons, strSub_toList, parts_from x c r (k + 1) (k + 1) (Nat.le_refl _) hlt hr, Nat.sub_self, List.take_zero]
    · rw [if_neg h, if_neg h, parts_from x c r a (k + 1) (Nat.le_succ_of_le ha) hlt hr]
      congr 1
      rw [show k + 1 - a = (k - a) + 1 from Nat.succ_sub ha, List.take_add_one, List.getElem?_drop, Nat.add_sub_cancel' ha, List.getElem?_eq_getElem hlt, hb]
      rfl
theorem split_at {x : Str} {c : Nat} (h : c ∈ x.cps.toList) : (Txt.split x ⟨#[c]⟩).map (fun y => y.cps.toList) = splitA c [] x.cps.toList := by
  have hp : 1 ≤ x.length := by rw [len_toList]; exact List.length_pos_of_mem h
  have ho : occurrences x ⟨#[c]⟩ 0 x.length (x.length + 1) = posF c 0 x.cps.toList := by
    rw [occ_pos x c 0 _ (Nat.zero_le _), List.drop_zero]
    refine List.take_of_length_le ?_
    have : ∀ (l : List Nat) (k : Nat), (posF c k l).length ≤ l.length := fun l => by
      induction l with
      | nil => intro k; exact Nat.le_refl _
      | cons a l ih =>
        intro k
        rw [posF]
        have := ih (k + 1)
        split
        · simp only [List.length_cons]; omega
        · simp only [List.length_cons]; omega
    have := this x.cps.toList 0
    rw [len_toList]; omega
  have hk : PySem.Builtin.Str.strKind x < PySem.Builtin.Str.strKind ⟨#[c]⟩ → False := fun hlt => by
    have key : ∀ (n : Nat), x.cps.all (· < n) = true → c < n := fun n ha => by
      rw [← Array.all_toList, List.all_eq_true] at ha
      simpa using ha c h
    unfold PySem.Builtin.Str.strKind at hlt
    by_cases h1 : x.cps.all (· < 256) = true
    · have : (⟨#[c]⟩ : Str).cps.all (· < 256) = true := by simpa using key 256 h1
      rw [if_pos h1, if_pos this] at hlt; omega
    · rw [if_neg h1] at hlt
      by_cases h2 : x.cps.all (· < 65536) = true
      · have : (⟨#[c]⟩ : Str).cps.all (· < 65536) = true := by simpa using key 65536 h2
        rw [if_pos h2, if_pos this] at hlt
        split at hlt <;> omega
      · rw [if_neg h2] at hlt
        split at hlt
        · omega
        · split at hlt <;> omega
  have hne : (occurrences x ⟨#[c]⟩ 0 x.length (x.length + 1)).isEmpty = false := by
    rw [ho]
    obtain ⟨pre, post, e, hpre⟩ := List.append_of_mem h |>.elim fun s => fun ⟨t, e⟩ => (show ∃ pre post, x.cps.toList = pre ++ c :: post ∧ c ∉ pre from by
      clear e
      generalize x.cps.toList = l at h
      induction l with
      | nil => cases h
      | cons a l ih =>
        by_cases q : a = c
        · exact ⟨[], l, by rw [q]; rfl, List.not_mem_nil⟩
        · rcases List.mem_cons.mp h with h | h
          · exact absurd h.symm q
          · obtain ⟨p, r, e, hp⟩ := ih h
            exact ⟨a :: p, r, by rw [e]; rfl, fun m => by
              rcases List.mem_cons.mp m with m | m
              · exact q m.symm
              · exact hp m⟩)
    rw [e, posF_app 0 post hpre]
    rfl
  unfold Txt.split
  rw [if_neg, if_neg, partsBetween_eq, ho]
  · have := parts_from x c x.cps.toList 0 0 (Nat.le_refl _) (Nat.zero_le _) rfl
    rw [Nat.sub_zero, List.take_zero] at this
    exact this
  · rw [hne]; decide
  · rw [Bool.or_eq_true, decide_eq_true_eq, decide_eq_true_eq]
    rintro (q | q)
    · have : (⟨#[c]⟩ : Str).length = 1 := rfl
      omega
    · exact hk q
/-- an int's text, read -/
theorem num_back {n : Int} (h0 : -(10 ^ 10) < n) (h1 : n < 10 ^ 10) : PySem.intText? (Str.ofString (toString n)) = some n := by
  by_cases h : 0 ≤ n
  · exact KIN.num_reads h h1
  · have hneg : n < 0 := by omega
    have hp := KIN.num_reads (n := 0 - n) (by omega) (by omega)
    have hx : (Str.ofString (toString n)).cps.toList = 45 :: (Str.ofString (toString (0 - n))).cps.toList := by
      rw [toString_neg hneg, PyProof.Rows.signs_ofString, PyProof.Rows.signs_ofString, String.toList_append]
      rfl
    have hl := KT.len_num (n := 0 - n) (by omega) (by omega)
    obtain ⟨m, hm⟩ := Int.eq_ofNat_of_zero_le (show 0 ≤ 0 - n by omega)
    have hd : NumText.AllDigits (Str.ofString (toString (0 - n))).cps.toList := by
      rw [hm]
      intro c hc
      rw [KIN.signs_num] at hc
      obtain ⟨ch, hch, e⟩ := List.mem_map.mp hc
      have r := PyProof.Rows.digit_range (Nat.isDigit_of_mem_toDigits (by decide) (by decide) hch)
      rw [← e]
      exact r
    have hne : (Str.ofString (toString (0 - n))).cps.toList ≠ [] := by
      intro e
      have : (Str.ofString (toString (0 - n))) = Str.ofString "" := ext_list (by rw [e]; rfl)
      rw [this] at hp
      have q : PySem.intText? (Str.ofString "") = none := by decide +kernel
      rw [q] at hp; cases hp
    have e1 := intText_digits hd hne (Nat.le_trans hl (by decide))
    rw [hp] at e1
    have e2 := intText_neg hx hd hne (by rw [len_text_neg hneg]; omega)
    rw [e2, ← Option.some.inj e1]
    congr 1
    omega
end

-- R1
section
abbrev q1 : Str := Str.ofString "\""
def marksS (k : Nat) : Str := ⟨(List.replicate k 34).toArray⟩
theorem marks_list (k : Nat) : (marksS k).cps.toList = List.replicate k 34 := rfl
theorem marks_len {k : Nat} (h : k ≤ 126) : (marksS k).length ≤ 126 := by
  show (List.replicate k 34).toArray.size ≤ 126
  simpa using h
theorem join_q (k : Nat) : (Str.join (Str.ofString "") (List.replicate k q1)).cps.toList = List.replicate k 34 := by
  match k with
  | 0 => rfl
  | 1 => rfl
  | k + 2 =>
    have ih := join_q (k + 1)
    rw [List.replicate_succ] at ih
    rw [List.replicate_succ, List.replicate_succ]
    show (q1 ++ Str.ofString "" ++ Str.join (Str.ofString "") (q1 :: List.replicate k q1)).cps.toList = _
    rw [app_list, app_list, ih]
    rfl
theorem join_marks {prog : Program} {w : World} {A : Around} {E : Value → Shared → Prop} {s : Shared} {Q : Value → Shared → Prop} {h₀ : Heap} {L Mk : Addr} {news : List (Addr × Obj)} {k z : Nat} {t tq : Tok} (N : News h₀ L s.heap news) (hm : (Mk, lobj (List.replicate k (.str q1 tq)).toArray z) ∈ news) (hk : k ≤ 126)
    (h : ∀ t' kk, Q (.str (marksS k) t') { s with toks := kk }) : wpAny (model prog w) A (call (.builtin "str.join") [.str (Str.ofString "") t, .ref Mk]) Q E s := by
  have hl : s.heap.IsList Mk (strValues (List.replicate k (q1, tq))).toArray := by
    refine ⟨_, (N _ hm).1, rfl, z, ?_⟩
    show Data.seq _ z = Data.seq _ z
    congr 2
    simp [strValues]
  have hj : Txt.join (Str.ofString "") (List.replicate k q1) = marksS k := ext_list (by
    show (Builtin.Str.glued _ _).cps.toList = _
    rw [StrLaws.glued_eq_join, join_q]; rfl)
  refine SC.join hl (texts := List.replicate k q1) (by simp) ?_ fun t' kk => ?_
  · unfold JoinOk
    rw [StrLaws.joinTotal]
    have e0 : (Str.ofString "").length = 0 := rfl
    have e1 : q1.length = 1 := rfl
    simp [e0, e1, Builtin.Str.tooLong, sizeLine]
    omega
  · rw [hj]; exact h t' kk
theorem fits126 {x : Str} {k : Nat} (h : x.length ≤ 126) (hk : Nat.ble 126 k = true) : x.length ≤ k := Nat.le_trans h (Nat.le_of_ble_eq_true hk)
theorem spec_weak {w : World} {mean : ExcName → Option Value} {mg mb : Str → Option Value} {f : Addr} {d u : Nat} {args : List Value} {pre : Heap → Prop} {post post' : Heap → Heap → Value → Prop} (S : Spec w mean mg mb f d u args pre post) (h : ∀ a b v, post a b v → post' a b v) : Spec w mean mg mb f d u args pre post' := by
  unfold Spec at *
  intro dp un gd outer base s R B X T hd hu hp hr
  exact S dp un gd outer base s R B X T hd hu hp fun v h' tk' hk hq => hr v h' tk' hk (h _ _ _ hq)
theorem tell_list (k c : Nat) (tl : Str) : (Str.ofString "257 \"" ++ marksS k ++ ⟨#[c]⟩ ++ tl).cps.toList = [50, 53, 55, 32, 34] ++ (List.replicate k 34 ++ c :: tl.cps.toList) := by
  simp only [app_list, marks_list, List.append_assoc]; rfl
theorem sp_tell (w : World) (mean : ExcName → Option Value) (mg mb : Str → Option Value) (k c : Nat) (tl : Str) (ta : Tok) (hk : k ≤ 126) (hc : c ≠ 34) (htl : rd (c :: tl.cps.toList) = [c]) (hl : tl.length ≤ 14) :
    Spec w mean mg mb 72 3 20 [.str (Str.ofString "257 \"" ++ marksS k ++ ⟨#[c]⟩ ++ tl) ta] (fun _ => True) (fun _ _ v => ∃ y t, v = .str y t ∧ y.cps.toList = toldL (k / 2) (decide (k % 2 = 0)) c) := by
  have e := tell_list k c tl
  have hlen : (Str.ofString "257 \"" ++ marksS k ++ ⟨#[c]⟩ ++ tl).length = 5 + (k + (1 + tl.length)) := by
    rw [len_toList, e]; simp [len_toList]; omega
  refine spec_weak (sp_p257 w mean mg mb _ ta (by omega) (by omega) (code_eq (by rw [e]; rfl) (by omega)) (mid_eq (by rw [e]; rfl) (by omega))) fun _ _ v hv => ?_
  obtain ⟨y, t, rfl, hy⟩ := hv
  refine ⟨y, t, rfl, ?_⟩
  rw [hy, e]
  show rd (List.replicate k 34 ++ c :: tl.cps.toList) = _
  rw [rd_marks hc htl]
  unfold toldL
  by_cases h : k % 2 = 0 <;> simp [h]
end

-- LawB
section
theorem kc_cons {cm : Str → Option Value} {n : Str} {c : Addr} {cs : List (Str × Addr)} {cells : List (Addr × Obj)} (x : CellsAre cm ((n, c) :: cs) cells) : ∃ o rest, cells = (c, o) :: rest ∧ o.data = .cell (cm n) ∧ CellsAre cm cs rest := by
  cases x with | cons h r => exact ⟨_, _, rfl, h, r⟩
theorem kc_nil {cm : Str → Option Value} {cells : List (Addr × Obj)} (x : CellsAre cm [] cells) : cells = [] := by
  cases x; rfl
/-- twelve cells, opened -/
inductive C12 (cm : Str → Option Value) (n1 n2 n3 n4 n5 n6 n7 n8 n9 n10 n11 n12 : Str) (c1 c2 c3 c4 c5 c6 c7 c8 c9 c10 c11 c12 : Addr) (cells : List (Addr × Obj)) : Prop
  | mk (o1 o2 o3 o4 o5 o6 o7 o8 o9 o10 o11 o12 : Obj) (e : cells = [(c1, o1), (c2, o2), (c3, o3), (c4, o4), (c5, o5), (c6, o6), (c7, o7), (c8, o8), (c9, o9), (c10, o10), (c11, o11), (c12, o12)]) (d1 : o1.data = .cell (cm n1)) (d2 : o2.data = .cell (cm n2)) (d3 : o3.data = .cell (cm n3)) (d4 : o4.data = .cell (cm n4)) (d5 : o5.data = .cell (cm n5)) (d6 : o6.data = .cell (cm n6)) (d7 : o7.data = .cell (cm n7)) (d8 : o8.data = .cell (cm n8)) (d9 : o9.data = .cell (cm n9)) (d10 : o10.data = .cell (cm n10)) (d11 : o11.data = .cell (cm n11)) (d12 : o12.data = .cell (cm n12)) : C12 cm n1 n2 n3 n4 n5 n6 n7 n8 n9 n10 n11 n12 c1 c2 c3 c4 c5 c6 c7 c8 c9 c10 c11 c12 cells
theorem kc_twelve {cm : Str → Option Value} {n1 n2 n3 n4 n5 n6 n7 n8 n9 n10 n11 n12 : Str} {c1 c2 c3 c4 c5 c6 c7 c8 c9 c10 c11 c12 : Addr} {cells : List (Addr × Obj)} (x : CellsAre cm [(n1, c1), (n2, c2), (n3, c3), (n4, c4), (n5, c5), (n6, c6), (n7, c7), (n8, c8), (n9, c9), (n10, c10), (n11, c11), (n12, c12)] cells) : C12 cm n1 n2 n3 n4 n5 n6 n7 n8 n9 n10 n11 n12 c1 c2 c3 c4 c5 c6 c7 c8 c9 c10 c11 c12 cells := by
  obtain ⟨o1, r1, e1, d1, x⟩ := kc_cons x
  obtain ⟨o2, r2, e2, d2, x⟩ := kc_cons x
  obtain ⟨o3, r3, e3, d3, x⟩ := kc_cons x
  obtain ⟨o4, r4, e4, d4, x⟩ := kc_cons x
  obtain ⟨o5, r5, e5, d5, x⟩ := kc_cons x
  obtain ⟨o6, r6, e6, d6, x⟩ := kc_cons x
  obtain ⟨o7, r7, e7, d7, x⟩ := kc_cons x
  obtain ⟨o8, r8, e8, d8, x⟩ := kc_cons x
  obtain ⟨o9, r9, e9, d9, x⟩ := kc_cons x
  obtain ⟨o10, r10, e10, d10, x⟩ := kc_cons x
  obtain ⟨o11, r11, e11, d11, x⟩ := kc_cons x
  obtain ⟨o12, r12, e12, d12, x⟩ := kc_cons x
  have e13 := kc_nil x
  exact .mk o1 o2 o3 o4 o5 o6 o7 o8 o9 o10 o11 o12 (by rw [e1, e2, e3, e4, e5, e6, e7, e8, e9, e10, e11, e12, e13]) d1 d2 d3 d4 d5 d6 d7 d8 d9 d10 d11 d12
/-- the walk stops here -/
def Halt (p : Prop) : Prop := p
section
variable {M : Model} {A : Around} {E : Value → Shared → Prop} {s : Shared} {Q : Flow → Shared → Prop} {env : Env} {st : Stmt} {rest : List Stmt}
theorem execs_halt (h : wpAny M A (exec st env) (fun f s₁ => match f with | .next => Halt (wpAny M A (execs rest env) Q E s₁) | f => Q f s₁) E s) : wpAny M A (execs (st :: rest) env) Q E s :=
  wpAny_execs_cons (wpAny_mono h (fun f _ q => by cases f <;> exact q) fun _ _ e => e)
end
/-- an entry of a ledger, to be put anew, its addresses all different -/
def NdU (d : Addr) (o : Obj) (l : List (Addr × Obj)) (g : Obj → List (Addr × Obj)) : Prop := (l.map Prod.fst).Nodup → UpdF d o l g ∧ d ∈ l.map Prod.fst
theorem NdU.head {d : Addr} {o : Obj} {r : List (Addr × Obj)} : NdU d o ((d, o) :: r) (fun o' => (d, o') :: r) := fun h =>
  ⟨UpdF.head fun p hp e => (List.nodup_cons.mp h).1 (by have := List.mem_map_of_mem (f := Prod.fst) hp; rw [e] at this; exact this), .head _⟩
theorem NdU.tail {d : Addr} {o : Obj} {q : Addr × Obj} {r : List (Addr × Obj)} {g : Obj → List (Addr × Obj)} (U : NdU d o r g) : NdU d o (q :: r) (fun o' => q :: g o') := fun h => by
  have z := List.nodup_cons.mp h
  obtain ⟨u, m⟩ := U z.2
  exact ⟨.tail (fun e => z.1 (e ▸ m)) u, .tail _ m⟩
theorem nodup_lt {l : Addr} {news : List (Addr × Obj)} (h : AllLt l news) (nd : (news.map Prod.fst).Nodup) : (l :: news.map Prod.fst).Nodup :=
  List.nodup_cons.mpr ⟨fun hm => by obtain ⟨p, hp, e⟩ := List.mem_map.mp hm; exact allNe_lt h p hp e, nd⟩
theorem nodup_ne {l : Addr} {news : List (Addr × Obj)} (h : AllNe l news) (nd : (news.map Prod.fst).Nodup) : (l :: news.map Prod.fst).Nodup :=
  List.nodup_cons.mpr ⟨fun hm => by obtain ⟨p, hp, e⟩ := List.mem_map.mp hm; exact h p hp e, nd⟩
theorem nodup_cells (L : Nat) : [L + 1 + 1 + 1 + 1 + 1 + 1 + 1 + 1 + 1 + 1 + 1 + 1, L + 1 + 1 + 1 + 1 + 1 + 1 + 1 + 1 + 1 + 1 + 1, L + 1 + 1 + 1 + 1 + 1 + 1 + 1 + 1 + 1 + 1, L + 1 + 1 + 1 + 1 + 1 + 1 + 1 + 1 + 1, L + 1 + 1 + 1 + 1 + 1 + 1 + 1 + 1, L + 1 + 1 + 1 + 1 + 1 + 1 + 1, L + 1 + 1 + 1 + 1 + 1 + 1, L + 1 + 1 + 1 + 1 + 1, L + 1 + 1 + 1 + 1, L + 1 + 1 + 1, L + 1 + 1, L + 1].Nodup := by
  have h : (List.range' (L + 1) 12).reverse.Nodup := List.pairwise_reverse.mpr (List.Pairwise.imp (fun h => Ne.symm h) (List.nodup_range' (s := L + 1) (n := 12) (step := 1)))
  exact h
section
variable {w : World} {A A₀ : Around} {s : Shared} {base h₀ : Heap} {outer : List Env} {mean : ExcName → Option Value} {mg mb : Str → Option Value} {env : Env}
  {f : Addr} {args : List Value} {L : Addr} {m : Str → Option Value} {news : List (Addr × Obj)} {d u : Nat} {pre : Heap → Prop} {post : Heap → Heap → Value → Prop} {Q E : Value → Shared → Prop}
theorem news_new {h h' : Heap} {D : Addr} {o : Obj} (F : Fr h₀ L h m) (hn : h.get? D = none) (N' : News h₀ L h' news) (hD : h'.get? D = some o) : News h₀ L h' ((D, o) :: news) := fun q hq => by
  rcases List.mem_cons.mp hq with rfl | hq
  · refine ⟨hD, fun e => ?_, ?_⟩
    · obtain ⟨oL, _, _, hoL, _⟩ := F.ns
      have e' : D = L := e
      rw [e', hoL] at hn; cases hn
    · cases qq : h₀.get? D with
      | none => rfl
      | some o => rw [F.keep _ _ qq] at hn; cases hn
  · exact N' q hq
/-- a def that gives a new object -/
def NewP (P : Obj → Prop) : Heap → Heap → Value → Prop := fun h h' v => ∃ D o, v = .ref D ∧ h'.get? D = some o ∧ h.get? D = none ∧ P o
theorem call_specN {dp un : Nat} {gd : Option (List Code)} {P : Obj → Prop} (S : Spec w mean mg mb f d u args pre (NewP P)) (B : Below A₀ base outer h₀) (F : Fr h₀ L s.heap m) (X : Frag.In (Mine.hd.heap_39 w.params) h₀) (N : News h₀ L s.heap news) (T : Top Mine.hd.view_39 (looseW Mine.hd.view_39 []) mean mg mb h₀)
    (hA : A = topA dp un gd (env :: outer)) (hf : env.frame = some L) (hke : env.scope.kind = .function) (hd : dp + d < recursionLimit) (hu : un + u < cLine) (hp : pre s.heap)
    (h : ∀ D o h' tk', Fr h₀ L h' m → News h₀ L h' ((D, o) :: news) → AllNe D news → P o → Q (.ref D) { s with heap := h', toks := tk' }) :
    wpAny (model PySem.Challenge.pw_yf0007_01 w) A (call (.ref f) args) Q E s :=
  call_spec S B F X N T hA hf hke hd hu hp fun v h' tk' F' N' _ hq => by
    obtain ⟨D, o, rfl, hD, hn, hP⟩ := hq
    exact h D o h' tk' F' (news_new F hn N' hD) (allNe_new N hn) hP
end
end

-- LawC
section
structure FnD where
  qual : Str
  body : List Stmt
  scope : Scope
  cdv : Value
def FnD.of {K : Frag} {f : Addr} {name qual : Str} {params : Arguments} {body : List Stmt} {scope : Scope} {dV kV doc pm cdv ct oc : Value} {an od : Option Addr} {osl : Array (Option Value)} (_ : K.lookup f = some ⟨oc, od, .func (fnOf name qual params body scope dV kV doc pm an cdv ct), osl⟩) : FnD := ⟨qual, body, scope, cdv⟩
set_option maxHeartbeats 4000000 in
/-- what law's def says -/
noncomputable def lawD (P : Params) : FnD := by
  refine' FnD.of (K := Mine.hd.heap_39 P) (f := 226) ?ho
  case ho => k_is
noncomputable def lawB (P : Params) (k : Nat) : List Stmt := (lawD P).body.drop k
noncomputable def lawEnv (P : Params) (L : Addr) : Env := envOfC (lawD P).qual (lawD P).scope L 226 (lawD P).cdv
/-- law goes on from its k-th statement -/
def Go (w : World) (dp un : Nat) (gd : Option (List Code)) (L : Addr) (k : Nat) (Q : Flow → Shared → Prop) (E : Value → Shared → Prop) (s : Shared) : Prop :=
  wpAny (model PySem.Challenge.pw_yf0007_01 w) ((topA dp un gd []).deeper (lawEnv w.params L)) (execs (lawB w.params k) (lawEnv w.params L)) Q E s
structure LCtx (w : World) (mean : ExcName → Option Value) (mg mb : Str → Option Value) (dp un : Nat) (gd : Option (List Code)) (base g : Heap) : Prop where
  hd : dp + 14 < recursionLimit
  hu : un + 300 < cLine
  B : Below (topA dp un gd []) base [] g
  X : Frag.In (Mine.hd.heap_39 w.params) g
  T : Top Mine.hd.view_39 (looseW Mine.hd.view_39 []) mean mg mb g
section
variable {w : World} {dp un : Nat} {gd : Option (List Code)} {L : Addr} {k : Nat} {Q : Flow → Shared → Prop} {E : Value → Shared → Prop} {s : Shared} {q : Str} {sc : Scope} {cd : Value} {st : Stmt}
theorem law_go (hq : (lawD w.params).qual = q) (hs : (lawD w.params).scope = sc) (hc : (lawD w.params).cdv = cd) (hb : lawB w.params k = st :: lawB w.params (k + 1))
    (h : wpAny (model PySem.Challenge.pw_yf0007_01 w) ((topA dp un gd []).deeper (envOfC q sc L 226 cd)) (exec st (envOfC q sc L 226 cd)) (fun f s₁ => match f with | .next => Go w dp un gd L (k + 1) Q E s₁ | f => Q f s₁) E s) : Go w dp un gd L k Q E s := by
  unfold Go
  have e : lawEnv w.params L = envOfC q sc L 226 cd := by unfold lawEnv; rw [hq, hs, hc]
  rw [hb]
  unfold Go at h
  rw [e] at h ⊢
  exact wpAny_execs_cons (wpAny_mono h (fun f _ q => by cases f <;> exact q) fun _ _ e => e)
end
/-- an entry that is no cell -/
def noCell (o : Obj) : Bool := match o.data with | .cell _ => false | _ => true
/-- a cell among a ledger's entries, to be put anew -/
def NcU (d : Addr) (o : Obj) (l : List (Addr × Obj)) (g : Obj → List (Addr × Obj)) : Prop := (∀ {h₀ h : Heap} {L : Addr} {v : Option Value}, o.data = .cell v → News h₀ L h l → UpdF d o l g) ∧ (d, o) ∈ l
theorem NcU.skip {d x : Addr} {o ox : Obj} {r : List (Addr × Obj)} {g : Obj → List (Addr × Obj)} (hx : noCell ox = true) (U : NcU d o r g) : NcU d o ((x, ox) :: r) (fun o' => (x, ox) :: g o') :=
  ⟨fun hd N => .tail (fun e => by
    have h1 := (N (x, ox) (.head _)).1
    have h2 := (N (d, o) (.tail _ U.2)).1
    have e' : x = d := e
    rw [e', h2] at h1
    cases h1
    simp [noCell, hd] at hx) (U.1 hd fun p hp => N p (.tail _ hp)), .tail _ U.2⟩
theorem NdU.mem {d : Addr} {o : Obj} {l : List (Addr × Obj)} {g : Obj → List (Addr × Obj)} (U : UpdF d o l g) : (d, o) ∈ l := by
  obtain ⟨a, b, h, _⟩ := U.split
  rw [h]; exact List.mem_append_right _ (.head _)
theorem NcU.cells {d : Addr} {o : Obj} {l : List (Addr × Obj)} {g : Obj → List (Addr × Obj)} (h : (l.map Prod.fst).Nodup) (U : NdU d o l g) : NcU d o l g := ⟨fun _ _ => (U h).1, NdU.mem (U h).1⟩
theorem NcU.use {d : Addr} {o : Obj} {l : List (Addr × Obj)} {g : Obj → List (Addr × Obj)} {h₀ h : Heap} {L : Addr} {v : Option Value} (U : NcU d o l g) (hd : o.data = .cell v) (N : News h₀ L h l) : UpdF d o l g := U.1 hd N
theorem storeN {M : Model} {A : Around} {E : Value → Shared → Prop} {s : Shared} {h₀ : Heap} {L a c : Addr} {m : Str → Option Value} {news : List (Addr × Obj)} {g : Obj → List (Addr × Obj)} {o : Obj} {v₀ : Option Value} {v ccd : Value} {x cn : Str} {cs : Scope} {cl : List (Str × Addr)} {Q : Unit → Shared → Prop}
    (F : Fr h₀ L s.heap m) (N : News h₀ L s.heap news) (hc : cl.lookup x = some c) (U : NcU c o news g) (hd : o.data = .cell v₀)
    (h : ∀ h' o', Fr h₀ L h' m → News h₀ L h' (g o') → o'.data = .cell (some v) → Q () { s with heap := h' })
    (hk : cs.kind = .function := by rfl) (hx : (envX cn cs L a ccd cl).kindOf x = some .cell := by rfl) : wpAny M A (storeName (envX cn cs L a ccd cl) x v) Q E s := storeX_C F N hc (U.use hd N) hd h hk hx
theorem News.part {h₀ h : Heap} {L : Addr} {l l' : List (Addr × Obj)} (N : News h₀ L h l) (s : ∀ p ∈ l', p ∈ l) : News h₀ L h l' := fun p hp => N p (s p hp)
/-- rows, opened -/
theorem Rows.one {T : Nat → Value → List (Addr × Obj) → Prop} {i n : Nat} {ys : List Value} {res : List (Addr × Obj)} (h : Rows T i ys res) (hl : ys.length = n + 1) : ∃ y o ys' res', ys = y :: ys' ∧ res = o ++ res' ∧ T i y o ∧ Rows T (i + 1) ys' res' ∧ ys'.length = n := by
  cases h with
  | nil => simp at hl
  | cons a b => exact ⟨_, _, _, _, rfl, rfl, a, b, by simpa using hl⟩
theorem Rows.none {T : Nat → Value → List (Addr × Obj) → Prop} {i : Nat} {ys : List Value} {res : List (Addr × Obj)} (h : Rows T i ys res) (hl : ys.length = 0) : ys = [] ∧ res = [] := by
  cases h with
  | nil => exact ⟨rfl, rfl⟩
  | cons a b => simp at hl
inductive R3 (T : Nat → Value → List (Addr × Obj) → Prop) (ys : List Value) (res : List (Addr × Obj)) : Prop
  | mk (y0 y1 y2 : Value) (o0 o1 o2 : List (Addr × Obj)) (e : ys = [y0, y1, y2]) (e' : res = o0 ++ (o1 ++ o2)) (t0 : T 0 y0 o0) (t1 : T 1 y1 o1) (t2 : T 2 y2 o2) : R3 T ys res
theorem rows3 {T : Nat → Value → List (Addr × Obj) → Prop} {ys : List Value} {res : List (Addr × Obj)} (h : Rows T 0 ys res) (hl : ys.length = 3) : R3 T ys res := by
  obtain ⟨y0, o0, ys0, r0, e0, f0, t0, h, hl⟩ := h.one hl
  obtain ⟨y1, o1, ys1, r1, e1, f1, t1, h, hl⟩ := h.one hl
  obtain ⟨y2, o2, ys2, r2, e2, f2, t2, h, hl⟩ := h.one hl
  have z := h.none hl
  exact .mk y0 y1 y2 o0 o1 o2 (by rw [e0, e1, e2, z.1]) (by rw [f0, f1, f2, z.2, List.append_nil]) t0 t1 t2
inductive R4 (T : Nat → Value → List (Addr × Obj) → Prop) (ys : List Value) (res : List (Addr × Obj)) : Prop
  | mk (y0 y1 y2 y3 : Value) (o0 o1 o2 o3 : List (Addr × Obj)) (e : ys = [y0, y1, y2, y3]) (e' : res = o0 ++ (o1 ++ (o2 ++ o3))) (t0 : T 0 y0 o0) (t1 : T 1 y1 o1) (t2 : T 2 y2 o2) (t3 : T 3 y3 o3) : R4 T ys res
theorem rows4 {T : Nat → Value → List (Addr × Obj) → Prop} {ys : List Value} {res : List (Addr × Obj)} (h : Rows T 0 ys res) (hl : ys.length = 4) : R4 T ys res := by
  obtain ⟨y0, o0, ys0, r0, e0, f0, t0, h, hl⟩ := h.one hl
  obtain ⟨y1, o1, ys1, r1, e1, f1, t1, h, hl⟩ := h.one hl
  obtain ⟨y2, o2, ys2, r2, e2, f2, t2, h, hl⟩ := h.one hl
  obtain ⟨y3, o3, ys3, r3, e3, f3, t3, h, hl⟩ := h.one hl
  have z := h.none hl
  exact .mk y0 y1 y2 y3 o0 o1 o2 o3 (by rw [e0, e1, e2, e3, z.1]) (by rw [f0, f1, f2, f3, z.2, List.append_nil]) t0 t1 t2 t3
inductive R7 (T : Nat → Value → List (Addr × Obj) → Prop) (ys : List Value) (res : List (Addr × Obj)) : Prop
  | mk (y0 y1 y2 y3 y4 y5 y6 : Value) (o0 o1 o2 o3 o4 o5 o6 : List (Addr × Obj)) (e : ys = [y0, y1, y2, y3, y4, y5, y6]) (e' : res = o0 ++ (o1 ++ (o2 ++ (o3 ++ (o4 ++ (o5 ++ o6)))))) (t0 : T 0 y0 o0) (t1 : T 1 y1 o1) (t2 : T 2 y2 o2) (t3 : T 3 y3 o3) (t4 : T 4 y4 o4) (t5 : T 5 y5 o5) (t6 : T 6 y6 o6) : R7 T ys res
theorem rows7 {T : Nat → Value → List (Addr × Obj) → Prop} {ys : List Value} {res : List (Addr × Obj)} (h : Rows T 0 ys res) (hl : ys.length = 7) : R7 T ys res := by
  obtain ⟨y0, o0, ys0, r0, e0, f0, t0, h, hl⟩ := h.one hl
  obtain ⟨y1, o1, ys1, r1, e1, f1, t1, h, hl⟩ := h.one hl
  obtain ⟨y2, o2, ys2, r2, e2, f2, t2, h, hl⟩ := h.one hl
  obtain ⟨y3, o3, ys3, r3, e3, f3, t3, h, hl⟩ := h.one hl
  obtain ⟨y4, o4, ys4, r4, e4, f4, t4, h, hl⟩ := h.one hl
  obtain ⟨y5, o5, ys5, r5, e5, f5, t5, h, hl⟩ := h.one hl
  obtain ⟨y6, o6, ys6, r6, e6, f6, t6, h, hl⟩ := h.one hl
  have z := h.none hl
  exact .mk y0 y1 y2 y3 y4 y5 y6 o0 o1 o2 o3 o4 o5 o6 (by rw [e0, e1, e2, e3, e4, e5, e6, z.1]) (by rw [f0, f1, f2, f3, f4, f5, f6, z.2, List.append_nil]) t0 t1 t2 t3 t4 t5 t6
/-- a def called from law's own frame that may turn that frame's object -/
def heapBut (h : Heap) (L : Addr) : Heap := { h with objs := h.objs.setIfInBounds L { cls := .none, data := .freed } }
theorem but_self (h : Heap) (L : Addr) : (heapBut h L).get? L = none := by
  by_cases hL : L < h.objs.size
  · simp [heapBut, Heap.get?, hL]
  · simp [heapBut, Heap.get?, hL]
theorem but_other (h : Heap) {L b : Addr} (e : b ≠ L) : (heapBut h L).get? b = h.get? b := by
  have e' : ¬ L = b := fun q => e q.symm
  simp [heapBut, Heap.get?, e']
theorem but_size (h : Heap) (L : Addr) : (heapBut h L).objs.size = h.objs.size := by simp [heapBut]
section
variable {w : World} {A : Around} {s : Shared} {h₀ : Heap} {mean : ExcName → Option Value} {mg mb : Str → Option Value} {env : Env}
  {f : Addr} {args : List Value} {L : Addr} {m : Str → Option Value} {news : List (Addr × Obj)} {d u : Nat} {post : Value → Prop} {Q E : Value → Shared → Prop}
theorem call_specZ {dp un : Nat} {gd : Option (List Code)} (S : SpecZ w mean mg mb f d u args post) (F : Fr h₀ L s.heap m) (X : Frag.In (Mine.hd.heap_39 w.params) h₀) (N : News h₀ L s.heap news) (T : Top Mine.hd.view_39 (looseW Mine.hd.view_39 []) mean mg mb h₀)
    (hA : A = topA dp un gd [env]) (hf : env.frame = some L) (hke : env.scope.kind = .function) (hd : dp + d < recursionLimit) (hu : un + u < cLine)
    (h : ∀ v h' tk', Fr h₀ L h' m → News h₀ L h' news → post v → Q v { s with heap := h', toks := tk' }) :
    wpAny (model PySem.Challenge.pw_yf0007_01 w) A (call (.ref f) args) Q E s := by
  subst hA
  refine wpAny_call ?_
  obtain ⟨oL, es, ep, hoL, hdL, hsL⟩ := F.ns
  have hL0 : h₀.get? L = none := kts_self F
  have up : ∀ b o, h₀.get? b = some o → (heapBut s.heap L).get? b = some o := fun b o e => by
    rw [but_other _ (fun q => by rw [q, hL0] at e; cases e)]; exact F.keep _ _ e
  have dn : ∀ b o, (heapBut s.heap L).get? b = some o → s.heap.get? b = some o := fun b o e => by
    rw [but_other _ (fun q => by rw [q, but_self] at e; cases e)] at e; exact e
  refine S dp un gd env L oL es ep (heapBut s.heap L) s _ hf hke (X.keeps up) (T.keeps up) dn ⟨but_self _ _, Nat.le_of_eq (but_size _ _)⟩ hoL hdL hd hu fun v h' tk' sl hk hL' hp => ?_
  have old : ∀ b o, b ≠ L → s.heap.get? b = some o → h'.get? b = some o := fun b o n e => hk _ _ (by rw [but_other _ n]; exact e)
  exact h v h' tk' ⟨⟨_, es, ep, hL', hdL, hsL⟩, fun b o e => hk _ _ (up _ _ e), F.above⟩ (fun p hp => ⟨old _ _ (N p hp).2.1 (N p hp).1, (N p hp).2⟩) hp
end
theorem fr_top {h₀ h : Heap} {L : Addr} {m : Str → Option Value} {x : Str} {v : Value} (F : Fr h₀ L h m) (e : m x = some v) : Fr h₀ L h (fun y => if y = x then some v else m y) := by
  have q : (fun y => if y = x then some v else m y) = m := by
    funext y
    by_cases h : y = x
    · rw [h, if_pos rfl, e]
    · rw [if_neg h]
  rw [q]; exact F
def tupO (n : Int) (t u : Tok) : Obj := { cls := .type "tuple", data := .seq #[.str (Str.ofString "h" ++ Str.ofString (toString n)) t, .int n u] }
def rowD (n : Int) (e : Nat) : List Bool := [decide (n % 4 = 1), decide ((e : Int) / 1 % 2 = 0), decide ((e : Int) / 2 % 2 = 0), decide ((e : Int) / 4 % 2 = 0), decide ((e : Int) / 8 % 2 = 0), decide ((e : Int) / 16 % 2 = 0), decide ((e : Int) / 32 % 2 = 0)]
theorem news_cons {h₀ h : Heap} {L : Addr} {p : Addr × Obj} {r : List (Addr × Obj)} (x : h.get? p.1 = some p.2 ∧ p.1 ≠ L ∧ h₀.get? p.1 = none) (N : News h₀ L h r) : News h₀ L h (p :: r) := fun q hq => by
  rcases List.mem_cons.mp hq with rfl | hq
  · exact x
  · exact N q hq
theorem item4 {i : Nat} {v : Value} {a b c d lo hi : Int} {ta tb tc td : Tok} (h : (#[Value.int a ta, Value.int b tb, Value.int c tc, Value.int d td] : Array Value)[i]? = some v) (h1 : lo < a ∧ a < hi) (h2 : lo < b ∧ b < hi) (h3 : lo < c ∧ c < hi) (h4 : lo < d ∧ d < hi) :
    ∃ p t, v = .int p t ∧ [a, b, c, d].getD i 0 = p ∧ lo < p ∧ p < hi := by
  match i, h with
  | 0, h => cases h; exact ⟨_, _, rfl, rfl, h1⟩
  | 1, h => cases h; exact ⟨_, _, rfl, rfl, h2⟩
  | 2, h => cases h; exact ⟨_, _, rfl, rfl, h3⟩
  | 3, h => cases h; exact ⟨_, _, rfl, rfl, h4⟩
  | n + 4, h => simp at h
/-- the turns give a reply's two parts -/
def TTold (ps : List Int) (i : Nat) (y : Value) (objs : List (Addr × Obj)) : Prop := ∃ X t u, y = .ref X ∧ objs = [(X, tupO (ps.getD i 0) t u)]
theorem halt_in {P : Prop} (h : Halt P) : P := h
end

-- BoolL
section
/-- a list of bools, as its items lie -/
abbrev bl (l : List Bool) : Array Value := (l.map Value.bool).toArray
def bd (l : List Bool) : PyData := .list (l.map PyData.bool)
theorem reads_bools {h : Heap} : ∀ l : List Bool, ReadsAll h (l.map Value.bool) (l.map PyData.bool) []
  | [] => ReadsAll.nil
  | b :: l => by
    have := ReadsAll.cons (h := h) (Reads.bool b) (reads_bools l)
    exact this
theorem reads_bl {h : Heap} {a : Addr} {l : List Bool} (hl : h.IsList a (bl l)) : Reads h (.ref a) (bd l) [a] := by
  obtain ⟨o, ho, hc, n, hd⟩ := hl
  exact reads_list_at ho hc hd (by simpa using reads_bools l)
theorem lay_bools (l : List Bool) : PyData.canLayAll0 (l.map PyData.bool) = true := by
  induction l with
  | nil => simp [PyData.canLayAll0]
  | cons b l ih => simp only [List.map_cons, PyData.canLayAll0, ih, Bool.and_true]; simp [PyData.canLay0]
theorem depth_bools (l : List Bool) : PyData.depthAll (l.map PyData.bool) ≤ 2 := by
  induction l with
  | nil => simp [PyData.depthAll]
  | cons b l ih =>
    simp only [List.map_cons, PyData.depthAll, PyData.depth]
    omega
theorem shaped_bools (l : List Bool) : SeqAt.shaped (bd l) = true := by
  unfold SeqAt.shaped bd
  simp only [PyData.canLay0, PyData.depth, lay_bools l, Bool.true_and]
  have := depth_bools l
  exact decide_eq_true (by omega)
theorem eqv_bools : ∀ a b : List Bool, PyData.eqvAll (a.map PyData.bool) (b.map PyData.bool) = decide (a = b)
  | [], [] => by simp [PyData.eqvAll]
  | [], b :: bs => by simp [PyData.eqvAll]
  | a :: as, [] => by simp [PyData.eqvAll]
  | a :: as, b :: bs => by
    simp only [List.map_cons, PyData.eqvAll, eqv_bools as bs, PyData.eqv]
    rw [Bool.eq_iff_iff]
    simp
section
variable {prog : Program} {w : World} {A : Around} {E : Value → Shared → Prop} {s : Shared} {Q : Value → Shared → Prop} {p k : Addr} {a b : List Bool} {h₀ : Heap} {L : Addr} {m : Str → Option Value}
theorem isList_keeps {h h' : Heap} {x : Addr} {vs : Array Value} (hl : h.IsList x vs) (hk : ∀ b o, h.get? b = some o → h'.get? b = some o) : h'.IsList x vs := by
  obtain ⟨o, ho, r⟩ := hl
  exact ⟨o, hk _ _ ho, r⟩
theorem eq_bl (h1 : s.heap.IsList p (bl a)) (h2 : s.heap.IsList k (bl b)) (hu : A.units + 64 < cLine) (h : Q (.bool (decide (a = b))) s) : wpAny (model prog w) A (compareOp .Eq (.ref p) (.ref k)) Q E s := by
  refine eq_dataH (reads_bl h1) (reads_bl h2) (shaped_bools a) (shaped_bools b) hu ?_
  have : PyData.eqv (bd a) (bd b) = decide (a = b) := by
    unfold bd
    rw [← eqv_bools]
    simp [PyData.eqv]
  rw [this]; exact h
theorem eq_blB (F : Fr h₀ L s.heap m) (h1 : h₀.IsList p (bl a)) (h2 : h₀.IsList k (bl b)) (hu : A.units + 64 < cLine) (h : Q (.bool (decide (a = b))) s) : wpAny (model prog w) A (compareOp .Eq (.ref p) (.ref k)) Q E s :=
  eq_bl (isList_keeps h1 F.keep) (isList_keeps h2 F.keep) hu h
theorem is_blB (F : Fr h₀ L s.heap m) (h1 : h₀.IsList p (bl a)) (h2 : h₀.IsList k (bl b)) (ne : p ≠ k) (h : Q (.bool false) s) : wpAny (model prog w) A (compareOp .Is (.ref p) (.ref k)) Q E s := by
  obtain ⟨o, ho, hc, _⟩ := isList_keeps h1 F.keep
  obtain ⟨o', ho', _⟩ := isList_keeps h2 F.keep
  exact wpAny_is_ref_other ne ho ho' (by rw [hc]; decide) h
end
end

-- Need
section
section
variable {h₀ : Heap} {L I C D : Addr} {m : Str → Option Value} {s₁ : Shared} {oI oC oD : Obj} {S : List (Addr × Obj) → Prop} {h' : Heap} {tk : Nat} {all news : List (Addr × Obj)} {l r : List Int} {a : Int} {t : Tok}
theorem comp_el (F : Fr h₀ L h' m) (N : News h₀ L h' all) (sub : ∀ p ∈ (I, oI) :: (C, oC) :: (D, oD) :: news, p ∈ all) (off : LCg.Off3 I C D news) (hS : S news) (e : r = l ++ [a]) :
    LCg.CompEnd h₀ L m s₁ I oI C oC D oD S (fun y news' => KCiEl news l r y news') (.int a t) { s₁ with heap := h', toks := tk } :=
  LCg.CompEnd.intro F N news sub off hS ⟨rfl, a, t, rfl, e⟩
theorem comp_no (F : Fr h₀ L h' m) (N : News h₀ L h' all) (sub : ∀ p ∈ (I, oI) :: (C, oC) :: (D, oD) :: news, p ∈ all) (off : LCg.Off3 I C D news) (hS : S news) (e : r = l) {v : Value} :
    LCg.CompEnd h₀ L m s₁ I oI C oC D oD S (fun _ news' => KCiNo news l r news') v { s₁ with heap := h', toks := tk } :=
  LCg.CompEnd.intro F N news sub off hS ⟨rfl, e⟩
end
def needL (n b : Int) : List Int := List.foldl (fun l' k' => if ([1, 255].any fun x => x == n * b ^ k'.toNat % 256) = true then l' ++ [k'] else if ([1, 255].any fun x => x == n * b ^ k'.toNat % 256) = false then l' else l') [] (rangeKs 0 (64 - 0 : Int).toNat)
theorem item_need {prog : Program} {w : World} {A : Around} {E : Value → Shared → Prop} {s : Shared} {h₀ : Heap} {L D : Addr} {news : List (Addr × Obj)} {ys : List Value} {ns rest : List Int} {e : Int} {u : Tok} {value slice : Expr} {Q : Value → Shared → Prop}
    (N : News h₀ L s.heap news) (hm : (D, LCg.lst ys) ∈ news) (hi : IntsAre ys ns) (he : ns = e :: rest) (h : ∀ t, Q (.int e t) s)
    (hs : subscripted slice false (.ref D) (.int 0 u) = operate [.ref D, .int 0 u] (getItem (.ref D) (.int 0 u)) := by with_unfolding_all rfl) (hg : ∀ r, letTemporaryGo value (.ref D) r = pure () := by intro _; with_unfolding_all rfl) :
    wpAny (model prog w) A (subscriptTail value slice (.ref D) (.int 0 u)) Q E s := by
  subst he
  have hl : s.heap.IsList D ys.toArray := ⟨_, (N _ hm).1, rfl, _, rfl⟩
  cases hi with
  | cons _ t r => exact item_list hl (by decide) (by decide) (by simp) (h t) hs hg
end

-- Math1
section
open PySem PySem.W PyProof.Rows
/-- the answers, turn by turn -/
def runA : Nat → Nat → Nat → Nat → List Bool
  | _, 0, _, _ => []
  | q, f + 1, x, p => Nat.beq (x % q) 1 :: runA (q * 2) f (bif Nat.beq (x % q) 1 then x else x * p % 256) (p * p % 256)
/-- the first e at which x times b to the e leaves 1 or 255 -/
def firstE : Nat → Nat → Nat → Nat → Nat
  | 0, e, _, _ => e
  | f + 1, e, x, b => bif Nat.beq x 1 || Nat.beq x 255 then e else firstE f (e + 1) (x * b % 256) b
def ansB (n b : Nat) : List Bool := Nat.beq (n % 4) 1 :: runA 8 6 (bif Nat.beq (n % 4) 1 then n else 256 - n) b
def dueB (n e : Nat) : List Bool := [Nat.beq (n % 4) 1, Nat.beq (e % 2) 0, Nat.beq (e / 2 % 2) 0, Nat.beq (e / 4 % 2) 0, Nat.beq (e / 8 % 2) 0, Nat.beq (e / 16 % 2) 0, Nat.beq (e / 32 % 2) 0]
def sameB : List Bool → List Bool → Bool
  | [], [] => true
  | a :: r, b :: t => (bif a then b else !b) && sameB r t
  | _, _ => false
def chkE (n b e : Nat) : Bool := Nat.blt e 64 && sameB (ansB n b) (dueB n e)
def chk (b n : Nat) : Bool := chkE (2 * n + 1) (8 * b + 5) (firstE 64 0 (2 * n + 1) (8 * b + 5))
def allN : Nat → (Nat → Bool) → Bool
  | 0, _ => true
  | k + 1, p => p k && allN k p
theorem chk_0 : (allN 8 fun b => allN 128 fun n => chk b n) = true := by decide +kernel
theorem chk_1 : (allN 8 fun b => allN 128 fun n => chk (8 + b) n) = true := by decide +kernel
theorem chk_2 : (allN 8 fun b => allN 128 fun n => chk (16 + b) n) = true := by decide +kernel
theorem chk_3 : (allN 8 fun b => allN 128 fun n => chk (24 + b) n) = true := by decide +kernel
end

-- Math2
section
open PySem PySem.W PyProof.Rows
theorem allN_of {p : Nat → Bool} : ∀ {k : Nat}, allN k p = true → ∀ i, i < k → p i = true
  | 0, _, i, h => absurd h (Nat.not_lt_zero i)
  | k + 1, h, i, hi => by
    simp only [allN, Bool.and_eq_true] at h
    exact (Nat.lt_or_eq_of_le (Nat.le_of_lt_succ hi)).elim (allN_of h.2 i) fun e => e ▸ h.1
theorem lt4 {i : Nat} (h : i < 4) : i = 0 ∨ i = 1 ∨ i = 2 ∨ i = 3 := by revert i; decide
theorem chk_all {b n : Nat} (hb : b < 32) (hn : n < 128) : chk b n = true := by
  have hr : b % 8 < 8 := Nat.mod_lt _ (by decide)
  rw [← Nat.div_add_mod b 8]
  rcases lt4 (Nat.div_lt_of_lt_mul (show b < 8 * 4 from hb)) with e | e | e | e <;> rw [e]
  · have := allN_of (allN_of chk_0 _ hr) n hn
    rwa [Nat.mul_zero, Nat.zero_add]
  · exact allN_of (allN_of chk_1 _ hr) n hn
  · exact allN_of (allN_of chk_2 _ hr) n hn
  · exact allN_of (allN_of chk_3 _ hr) n hn
/-- n times b to the e, by 256 -/
def xN (n b : Nat) : Nat → Nat
  | 0 => n
  | e + 1 => xN n b e * b % 256
theorem xN_pow (n b : Int) (e : Nat) : n * b ^ e % 256 = ((xN (n % 256).toNat (b % 256).toNat e : Nat) : Int) := by
  have h1 : (((n % 256).toNat : Nat) : Int) = n % 256 := Int.toNat_of_nonneg (Int.emod_nonneg _ (by decide))
  have h2 : (((b % 256).toNat : Nat) : Int) = b % 256 := Int.toNat_of_nonneg (Int.emod_nonneg _ (by decide))
  induction e with
  | zero => rw [Int.pow_zero, Int.mul_one, xN, h1]
  | succ e ih =>
    rw [Int.pow_succ, ← Int.mul_assoc, Int.mul_emod, ih, xN, Int.natCast_emod, Int.natCast_mul, h2]
    rfl
def hit (x : Nat) : Bool := Nat.beq x 1 || Nat.beq x 255
theorem need_hit (n b : Int) (e : Nat) : ([1, 255].any fun x => x == n * b ^ e % 256) = hit (xN (n % 256).toNat (b % 256).toNat e) := by
  rw [xN_pow]
  generalize xN (n % 256).toNat (b % 256).toNat e = x
  rw [Bool.eq_iff_iff]
  simp only [hit, List.any_cons, List.any_nil, Bool.or_false, Bool.or_eq_true, beq_iff_eq, Nat.beq_eq]
  constructor
  · rintro (h | h)
    · exact .inl (by omega)
    · exact .inr (by omega)
  · rintro (h | h)
    · exact .inl (by omega)
    · exact .inr (by omega)
theorem firstE_spec (n b : Nat) : ∀ (f e : Nat), firstE f e (xN n b e) b < e + f → hit (xN n b (firstE f e (xN n b e) b)) = true ∧ e ≤ firstE f e (xN n b e) b ∧ ∀ j, e ≤ j → j < firstE f e (xN n b e) b → hit (xN n b j) = false
  | 0, e, h => by simp only [firstE] at h; omega
  | f + 1, e, h => by
    have hd : firstE (f + 1) e (xN n b e) b = bif hit (xN n b e) then e else firstE f (e + 1) (xN n b (e + 1)) b := rfl
    rw [hd] at h ⊢
    cases hh : hit (xN n b e) with
    | true => simp only [hh, cond_true] at h ⊢; exact ⟨trivial, Nat.le_refl _, fun j h1 h2 => by omega⟩
    | false =>
      simp only [hh, cond_false] at h ⊢
      obtain ⟨h1, h2, h3⟩ := firstE_spec n b f (e + 1) (by omega)
      refine ⟨h1, by omega, fun j hj hj2 => ?_⟩
      by_cases q : j = e
      · rw [q]; exact hh
      · exact h3 j (by omega) hj2
theorem fold_filter {p : Int → Bool} : ∀ (L acc : List Int), List.foldl (fun l k => if p k = true then l ++ [k] else if p k = false then l else l) acc L = acc ++ L.filter p
  | [], acc => by simp
  | a :: L, acc => by
    rw [List.foldl_cons, fold_filter L]
    cases h : p a <;> simp [h]
theorem filter_first {q : Nat → Bool} {e : Nat} (he : q e = true) : ∀ (f s : Nat), s ≤ e → e < s + f → (∀ j, s ≤ j → j < e → q j = false) → ∃ rest, (List.range' s f).filter q = e :: rest
  | 0, s, h1, h2, _ => by omega
  | f + 1, s, h1, h2, h3 => by
    rw [List.range'_succ]
    by_cases hs : s = e
    · subst hs
      exact ⟨_, by rw [List.filter_cons_of_pos he]⟩
    · rw [List.filter_cons_of_neg (by rw [h3 s (Nat.le_refl _) (by omega)]; decide)]
      exact filter_first he f (s + 1) (by omega) (by omega) fun j a b => h3 j (by omega) b
theorem needL_first {n b : Int} {e : Nat} (he : e < 64) (h1 : hit (xN (n % 256).toNat (b % 256).toNat e) = true) (h2 : ∀ j, j < e → hit (xN (n % 256).toNat (b % 256).toNat j) = false) : ∃ rest, needL n b = (e : Int) :: rest := by
  unfold needL
  rw [fold_filter (p := fun k' => [1, 255].any fun x => x == n * b ^ k'.toNat % 256)]
  obtain ⟨rest, hr⟩ := filter_first (q := fun j => hit (xN (n % 256).toNat (b % 256).toNat j)) h1 64 0 (by omega) (by omega) fun j _ h => h2 j h
  refine ⟨rest.map (fun j : Nat => (j : Int)), ?_⟩
  have hk : rangeKs 0 (64 - 0 : Int).toNat = (List.range' 0 64).map (fun j : Nat => (j : Int)) := by decide
  rw [hk, List.nil_append, List.filter_map]
  have hf : ((fun k' : Int => [1, 255].any fun x => x == n * b ^ k'.toNat % 256) ∘ fun j : Nat => (j : Int)) = fun j => hit (xN (n % 256).toNat (b % 256).toNat j) := by
    funext j
    show ([1, 255].any fun x => x == n * b ^ ((j : Int)).toNat % 256) = _
    rw [Int.toNat_natCast, need_hit]
  rw [hf, hr, List.map_cons]
end

-- R0A
section
def RItA (h₀ : Heap) (L : Addr) (m : Str → Option Value) (news : List (Addr × Obj)) (a b : Int) (s : Shared) (xv : Value) (s₁ : Shared) : Prop :=
  ∃ r t u v h tk, xv = .ref r ∧ s₁ = { s with heap := h, toks := tk } ∧ IsRange h r a b 1 t u v ∧ Fr h₀ L h m ∧ News h₀ L h news
section
variable {prog : Program} {w : World} {A : Around} {E : Value → Shared → Prop} {s : Shared} {env : Env} {h₀ : Heap}
/-- a loop over a short range whose turns make objects -/
theorem for_rangeA {Q : Flow → Shared → Prop} {v : Str} {px pos : Pos} {iter : Expr} {body : List Stmt} {m : Str → Option Value} {news : List (Addr × Obj)} (a b : Int) (n : Nat) (J : Nat → (Str → Option Value) → List (Addr × Obj) → Prop)
    (hh : A.handled = none) (hv : env.kindOf v = some .local)
    (hp : (env.scope.kind == .class || (env.scope.kind == .module && env.locals != env.globals)) = false)
    (_F : Fr h₀ env.locals s.heap m) (_N : News h₀ env.locals s.heap news) (h0 : J 0 m news) (hsm : Builtin.Range.small a b 1 = true) (hrs : Builtin.Range.rangeSize a b 1 = (n : Int))
    (hiter : wpAny (model prog w) A (eval iter env) (RItA h₀ env.locals m news a b s) E s)
    (step : ∀ i t m₁ news₁ I oI h tk0, i < n → 0 < tk0 → J i m₁ news₁ → AllNe I news₁ → Fr h₀ env.locals h (fun y => if y = v then some (.int (a + (i : Int)) t) else m₁ y) → News h₀ env.locals h ((I, oI) :: news₁) →
      wpAny (model prog w) A (execs body env) (RStep h₀ env.locals s I oI (J (i + 1))) E { s with heap := h, toks := tk0 })
    (hQ : ∀ h' tk m' news', Fr h₀ env.locals h' m' → News h₀ env.locals h' news' → J n m' news' → Q .next { s with heap := h', toks := tk })
    (hs : ∀ y, foldedSetIterable iter env y = pure y := by intro _; rfl)
    (hE : PassesOwn (model prog w) A env E := by passes_own) :
    wpAny (model prog w) A (exec (.For (.Name v px) iter body [] pos) env) Q E s := by
  refine wpAny_For (wpAny_mono hiter (fun xv s₁ h₁ => ?_) fun _ _ e => e) hs
  obtain ⟨r, t, u, v', h, tk, rfl, rfl, hr, F, N⟩ := h₁
  have hL0 : h₀.get? env.locals = none := kts_self F
  have hI0 : h₀.get? h.objs.size = none := next_is_new F
  have hIL : h.objs.size ≠ env.locals := Ne.symm (Nat.ne_of_lt F.ns.lt)
  refine wpAny_pyIter_range hr hsm ?_
  have W := Walks.range (prog := prog) (w := w) hh h.objs.size a 1 n
  have hst : IsRangeIter (h.push { cls := .type "range_iterator", data := .fields #[rawInt a, rawInt (Builtin.Range.rangeSize a b 1), rawInt 1] }) h.objs.size (a + (0 : Nat) * 1) ((n : Int) - (0 : Nat)) 1 := by
    have e : a + ((0 : Nat) : Int) * 1 = a := by simp
    have e2 : (n : Int) - ((0 : Nat) : Int) = Builtin.Range.rangeSize a b 1 := by rw [hrs]; simp
    rw [e, e2]
    exact Heap.get?_push_size _ rfl
  refine codeAny_forLoop (R := fun r s' => match r with | .ok f => Q f s' | .error e => cameBackBy (model prog w) A env E e s')
    (fun k s' => ∃ h' tk m' news' i, s' = { s with heap := h', toks := tk } ∧ IsRangeIter h' h.objs.size (a + (i : Nat) * 1) ((n : Int) - (i : Nat)) 1 ∧ Fr h₀ env.locals h' m' ∧ News h₀ env.locals h' news' ∧ AllNe h.objs.size news' ∧ J i m' news' ∧ i ≤ n ∧ k = n + 1 - i) ?_ (n + 1)
    ⟨_, tk, m, news, 0, rfl, hst, F.push _, fun p hp => ⟨Heap.get?_push_of_some _ (N p hp).1, (N p hp).2⟩, fun p hp => Nat.ne_of_lt (Heap.lt_size (N p hp).1), h0, Nat.zero_le _, rfl⟩
  rintro k s' ⟨h', tk', m', news', i, rfl, hit, F', N', ne', hJ, hi, rfl⟩
  by_cases hlt : i < n
  · refine W.item i _ _ _ hlt hit fun x h₁ tk₁ hx hst₁ hk => ?_
    obtain ⟨t₁, rfl⟩ := hx
    rw [show a + (i : Int) * 1 = a + (i : Int) by omega]
    have F₁ : Fr h₀ env.locals h₁ m' := LCg.fr_but F' hk (Ne.symm hIL) hI0
    have N₁ : News h₀ env.locals h₁ news' := LCg.news_but N' hk ne'
    refine wpAny_assign_Name (wpAny_storeName_local hv F₁.ns (fun h₂ hn₂ hs₂ => ?_) hp)
    have F₂ : Fr h₀ env.locals h₂ (fun y => if y = v then some (.int (a + (i : Int)) t₁) else m' y) := ⟨hn₂, fun b o e => hs₂.extBut b o (fun q => by rw [q, hL0] at e; cases e) (F₁.keep b o e), F₁.above⟩
    have N₂ : News h₀ env.locals h₂ news' := fun p hp => ⟨hs₂.extBut _ _ (N₁ p hp).2.1 (N₁ p hp).1, (N₁ p hp).2⟩
    obtain ⟨oI, hst₂, hI⟩ : ∃ oI, h₂.get? h.objs.size = some oI ∧ ∀ g : Heap, g.get? h.objs.size = some oI → IsRangeIter g h.objs.size (a + ((i + 1 : Nat) : Int) * 1) ((n : Int) - ((i + 1 : Nat) : Int)) 1 := ⟨_, hs₂.extBut _ _ hIL hst₁, fun g e => e⟩
    refine wpAny_mono (wpAny_passesOwn hE (step i t₁ m' news' h.objs.size oI h₂ _ hlt (Nat.succ_pos _) hJ ne' F₂ (fun p hp => ?_))) (fun f s₃ h₃ => ?_) fun _ _ e => e
    · rcases List.mem_cons.mp hp with rfl | hp
      · exact ⟨hst₂, hIL, hI0⟩
      · exact N₂ p hp
    · obtain ⟨rfl, h₃, tk₃, m₃, news₃, rfl, F₃, N₃, ne₃, J₃⟩ := h₃
      exact ⟨n + 1 - (i + 1), meas hlt, h₃, tk₃, m₃, news₃, i + 1, rfl, hI _ (N₃ _ (.head _)).1, F₃, fun p hp => N₃ p (.tail _ hp), ne₃, J₃, hlt, rfl⟩
  · obtain rfl : i = n := Nat.le_antisymm hi (Nat.not_lt.mp hlt)
    refine W.done _ _ _ hit fun h₁ tk₁ hk => wpAny_execs_nil ?_
    exact hQ h₁ tk₁ m' news' (LCg.fr_but F' hk (Ne.symm hIL) hI0) (LCg.news_but N' hk ne') hJ
end
end

-- X_answers
section
def JA (P : Prop) : Prop := P
def JB (P : Prop) : Prop := P
def JT (P1 P2 P3 : Prop) : Prop := P1 ∧ JA P2 ∧ JB P3
theorem if_g {M : Model} {A : Around} {E : Value → Shared → Prop} {s : Shared} {env : Env} {h₀ : Heap} {L : Addr} {m : Str → Option Value} {news : List (Addr × Obj)} {test : Expr} {x : Str} {st : Stmt} {pos : Pos} {a p : Int} {t₀ t₁ : Tok} {Q : Flow → Shared → Prop} (y : Str) (g : Int → Int → Int)
    (hold : m x = some (.int a t₀)) (hold2 : m y = some (.int p t₁)) (_F : Fr h₀ L s.heap m) (_N : News h₀ L s.heap news)
    (h : wpAny M A (isTrue test env (eval test env)) (fun c s₂ => JT (KJoinAt h₀ L m news s s₂)
      (c = true → ∀ s₂', KJoinAt h₀ L m news s s₂' → wpAny M A (exec st env) (fun f s₃ => KJoinV x (g a p) h₀ L m news s f s₃) E s₂')
      (∀ (r : Int) (t : Tok) (h' : Heap) (tk : Nat), r = (if c then g a p else a) → Fr h₀ L h' (fun z => if z = x then some (.int r t) else m z) → News h₀ L h' news → Q .next { s with heap := h', toks := tk })) E s) :
    wpAny M A (exec (.If test [st] [] pos) env) Q E s := by
  refine wpAny_If (wpAny_mono h (fun k s₂ hj => ?_) fun _ _ h => h)
  obtain ⟨hat, hv, hk⟩ := hj
  cases k with
  | true =>
    show wpAny M A (execs [st] env) Q E s₂
    refine wpAny_execs_cons (wpAny_mono (hv rfl s₂ hat) (fun f s₃ hf => ?_) fun _ _ h => h)
    obtain ⟨hf, t, ht⟩ := hf
    obtain ⟨h', tk, e', F'', N''⟩ := ht.at_
    subst hf e'
    exact wpAny_execs_nil (hk _ t h' tk rfl F'' N'')
  | false =>
    show wpAny M A (execs [] env) Q E s₂
    obtain ⟨h', tk, e', F'', N''⟩ := hat.at_
    subst e'
    refine wpAny_execs_nil (hk a t₀ h' tk rfl ?_ N'')
    have e : (fun z => if z = x then some (Value.int a t₀) else m z) = m := by
      funext z
      by_cases hz : z = x
      · rw [if_pos hz, hz, hold]
      · rw [if_neg hz]
    rw [e]
    exact F''

def pwN (b : Int) : Nat → Int
  | 0 => b % 256
  | i + 1 => pwN b i * pwN b i % 256
def aN (n b : Int) : Nat → Int
  | 0 => if (decide (n % 256 % 2 ^ 2 = 1) == false) = true then (-n) % 256 else n % 256
  | i + 1 => if (decide (aN n b i % 2 ^ (i + 3) = 1) == false) = true then aN n b i * pwN b i % 256 else aN n b i

theorem append_gen {prog : Program} {w : World} {A : Around} {E : Value → Shared → Prop} {s : Shared} {Q : Value → Shared → Prop} {h₀ : Heap} {L S : Addr} {m : Str → Option Value} {news : List (Addr × Obj)} {g : Obj → List (Addr × Obj)} {ys : List Value} {n : Nat} {x : Value} (F : Fr h₀ L s.heap m) (N : News h₀ L s.heap news) (U : UpdF S (listOf ys.toArray n) news g) (hl : ys.length ≤ 1000)
    (h : ∀ h', Fr h₀ L h' m → News h₀ L h' (g (listOf (ys ++ [x]).toArray (n + 1))) → Q .none { s with heap := h' }) : wpAny (model prog w) A (call (.builtin "list.append") [.ref S, x]) Q E s := by
  obtain ⟨own, rest, rfl, hg, h1, h2⟩ := U.split
  have hmem := N (S, listOf ys.toArray n) (List.mem_append_right _ (.head _))
  have hz : (1000 : Nat) ≤ sizeLine := by decide
  refine append_at (hsz := by rw [List.size_toArray]; omega) hmem.1 fun h' hs hS => ?_
  have hS' : h'.get? S = some (listOf (ys ++ [x]).toArray (n + 1)) := hS.trans (by rw [List.push_toArray])
  refine h h' ⟨F.ns.sameBut hs (Ne.symm hmem.2.1), fun b ob e => (hs.2 b (fun q => ?_)).trans (F.keep b ob e), F.above⟩ (hg _ ▸ N.setAt h1 h2 hs hS')
  rw [q, hmem.2.2] at e; cases e
def ansV (n b : Int) : Nat → Bool
  | 0 => decide (n % 256 % 2 ^ 2 = 1)
  | j + 1 => decide (aN n b j % 2 ^ (j + 3) = 1)
def ansL (n b : Int) (i : Nat) : List Value := (List.range (i + 1)).map fun j => Value.bool (ansV n b j)
theorem ansL_snoc (n b : Int) (i : Nat) : ansL n b (i + 1) = ansL n b i ++ [.bool (ansV n b (i + 1))] := by
  unfold ansL; rw [List.range_succ, List.map_append]; rfl
theorem ansL_len (n b : Int) (i : Nat) : (ansL n b i).length = i + 1 := by unfold ansL; simp
theorem item_lastB {prog : Program} {w : World} {A : Around} {E : Value → Shared → Prop} {s : Shared} {h₀ : Heap} {L D : Addr} {news : List (Addr × Obj)} {ys : List Value} {y : Value} {k : Nat} {u : Tok} {value slice : Expr} {Q : Value → Shared → Prop} (N : News h₀ L s.heap news) (hm : (D, listOf (ys ++ [y]).toArray k) ∈ news) (hl : ys.length ≤ 1000) (h : Q y s)
    (hs : subscripted slice false (.ref D) (.int (-1) u) = operate [.ref D, .int (-1) u] (getItem (.ref D) (.int (-1) u)) := by with_unfolding_all rfl) (hg : ∀ r, letTemporaryGo value (.ref D) r = pure () := by intro _; with_unfolding_all rfl) :
    wpAny (model prog w) A (subscriptTail value slice (.ref D) (.int (-1) u)) Q E s := by
  have hl' : s.heap.IsList D (ys ++ [y]).toArray := ⟨_, (N _ hm).1, rfl, _, rfl⟩
  exact PyProof.Rows.subscriptTail_builtin hl'.typeIs slot_list_getitem.lookup (wpAny_getItem_list_neg hl' (by decide) (by simp; omega) (by decide) (by
    have e : ((-1 : Int) + ((ys ++ [y]).toArray.size : Int)).toNat = ys.length := by simp; omega
    rw [e]; simp) h) hs hg
theorem fr_add {h₀ h : Heap} {L : Addr} {m : Str → Option Value} {x : Str} {v : Value} (F : Fr h₀ L h m) (e : m x = some v) : Fr h₀ L h (fun y => if y = x then some v else m y) := by
  have q : (fun y => if y = x then some v else m y) = m := by
    funext y
    by_cases h : y = x
    · rw [h, if_pos rfl, e]
    · rw [if_neg h]
  rw [q]; exact F
theorem pwN_bd (b : Int) (i : Nat) : 0 ≤ pwN b i ∧ pwN b i < 256 := by cases i <;> (unfold pwN; omega)
theorem aN_bd (n b : Int) (i : Nat) : 0 ≤ aN n b i ∧ aN n b i < 256 := by
  induction i with
  | zero => unfold aN; split <;> omega
  | succ i ih =>
    unfold aN
    split
    · exact ⟨Int.emod_nonneg _ (by decide), Int.emod_lt_of_pos _ (by decide)⟩
    · exact ih
def JAns (n b turn : Int) (tc : Tok) (i : Nat) (m : Str → Option Value) (news : List (Addr × Obj)) : Prop :=
  ∃ D k t1 t2, m (Str.ofString "told") = some (.ref D) ∧ m (Str.ofString "number") = some (.int (aN n b i) t1) ∧ m (Str.ofString "power") = some (.int (pwN b i) t2) ∧ m (Str.ofString "turn") = some (.int turn tc) ∧ news = [(D, listOf (ansL n b i).toArray k)]
set_option maxHeartbeats 2000000 in
theorem sp_answers (w : World) (mean : ExcName → Option Value) (mg mb : Str → Option Value) (n b turn : Int) (ta tb tc : Tok) (h0 : -2^40 < n) (h1 : n < 2^40) (h2 : -2^40 < b) (h3 : b < 2^40) :
    Spec w mean mg mb 194 5 15 [.int n ta, .int b tb, .int turn tc] (fun _ => True) (fun h h' v => ∃ D zn, v = .ref D ∧ h'.get? D = some (listOf [.bool (decide (n % 256 % 2 ^ 2 = 1)), .bool (decide (aN n b 0 % 2 ^ 3 = 1)), .bool (decide (aN n b 1 % 2 ^ 4 = 1)), .bool (decide (aN n b 2 % 2 ^ 5 = 1)), .bool (decide (aN n b 3 % 2 ^ 6 = 1)), .bool (decide (aN n b 4 % 2 ^ 7 = 1)), .bool (decide (aN n b 5 % 2 ^ 8 = 1))].toArray zn) ∧ h.get? D = none) := by
  k_with_none
  w_top off
  k_with "own subscriptTail Name Constant ref int" => (k_here; (with_reducible show wpAny _ _ (subscriptTail _ _ (Value.ref _) (Value.int _ _)) _ _ _); k_dflt (refine item_litK (by is_list) (by decide) (by decide) (by rfl) ?_ (by with_unfolding_all rfl)))
  k_with "own call ref" => (k_here; k_dflt (refine call_aB (sp_is_b _ _ _ _ _ _) ?_; intro h' tk' F' N'; (try k_sweep); (try dsimp only); (try k_fold)))
  k_with "own call ref" => (k_here; k_dflt (refine call_aI (sp_neg _ _ _ _ _ _) ?_; intro t' h' tk' F' N'; (try k_sweep); (try dsimp only); (try k_fold)))
  k_with "own call ref" => (k_here; k_dflt (refine call_aI (sp_imod _ _ _ _ _ _ _ _ (by first | assumption | omega)) ?_; intro t' h' tk' F' N'; (try k_sweep); (try dsimp only); (try k_fold)))
  k_with "own call ref" => (k_here; k_dflt (refine call_aI (sp_imul _ _ _ _ _ _ _ _ (by first | assumption | omega) (by first | assumption | omega)) ?_; intro t' h' tk' F' N'; (try k_sweep); (try dsimp only); (try k_fold)))
  k_with "own call ref" => (k_here; k_dflt (refine call_aB (sp_leaves _ _ _ _ _ _ _ _ _ _ (by first | assumption | omega) (by first | assumption | omega) (by first | assumption | omega) (by first | assumption | omega)) ?_; intro h' tk' F' N'; (try k_sweep); (try dsimp only); (try k_fold)))
  k_with "own JT" => (refine ⟨⟨⟨_, _, rfl, by assumption, by assumption⟩⟩, ?_, ?_⟩)
  k_with "own JA" => ((show _ → ∀ _, _ → _); intro hc' s' hJ'; obtain ⟨h', tk', e', F'', N''⟩ := KJoinAt.at_ hJ'; subst e'; clear hc')
  k_with "own JB" => ((show ∀ _ _ _ _, _ → _ → _ → _); intro r' t' h' tk' hr' F' N'; have hr0 : 0 ≤ r' ∧ r' < 256 := (by rw [hr']; split <;> omega); obtain ⟨hr0, hr1⟩ := hr0)
  k_with "own exec If" => (k_here; (with_reducible show wpAny _ _ (exec (Stmt.If _ [Stmt.Assign [Expr.Name _ _] (Expr.Call _ [Expr.Call _ [_] _ _, _] _ _) _] [] _) _) _ _ _); (rename Fr _ _ _ _ => F'); (rename News _ _ _ _ => N'); (refine' if_g (x := "number") "port" (fun _ p => (-p) % 256) ?hold ?hold2 F' N' ?_; (case hold => with_unfolding_all rfl); (case hold2 => with_unfolding_all rfl)))
  k_with "own exec If" => (k_here; (with_reducible show wpAny _ _ (exec (Stmt.If _ [Stmt.Assign [Expr.Name _ _] (Expr.Call _ [Expr.Call _ [_, _] _ _, _] _ _) _] [] _) _) _ _ _); (rename Fr _ _ _ _ => F'); (rename News _ _ _ _ => N'); (refine' if_g (x := "number") "power" (fun a p => a * p % 256) ?hold ?hold2 F' N' ?_; (case hold => with_unfolding_all rfl); (case hold2 => with_unfolding_all rfl)))
  k_with "own exec For Name Call cons nil" => (k_dflt (k_extra "my for"))
  k_with "own RItA" => (k_dflt (k_extra "my rit"))
  k_with "own call builtin:list.append" => (k_here; (with_reducible show wpAny _ _ (call (Value.builtin _) [Value.ref _, _]) _ _ _); k_dflt (k_extra "my app"))
  k_with "own subscriptTail Name UnaryOp ref int" => (k_here; k_dflt (refine item_lastB (by k_asm) (by k_mem) (by assumption) ?_))
  unfold Spec
  intro dp un gd outer base s R B X T hd hu hpre hret
  k_dflt (refine' enter ?k1 ?k2 ?k3 ?k6 ?k7 ?k8 ?k9 ?kB ?_ ?c2 ?c3 ?c4 ?c5; (case k1 => exact B); (case k2 => exact X); (case k3 => exact T); (case k6 => k_is); (case k7 => k_is); (case k8 => ktr_room); (case k9 => exact BindsTo.of_eq rfl); (case c5 => decide); (case kB => exact locs rfl); (case c2 => exact rfl); (case c3 => exact rfl); (case c4 => exact rfl); k_whole)
  clear B X T
  intro g' L' h' hg B' X' T' F' N'
  w_binds F'
  (try dsimp only)
  (try k_fold)
  k_with "my rit" => (refine ⟨_, _, _, _, _, _, rfl, rfl, by assumption, by assumption, ?_⟩; assumption)
  k_with "my for" => (
    (rename (_ = ite _ _ _) => q); have q' : _ = aN n b 0 := q; clear q; subst q'
    (rename Fr _ _ _ _ => F9); (rename News _ _ _ _ => N9)
    refine' for_rangeA (news := [(_, listOf (ansL n b 0).toArray 0)]) 3 9 6 (JAns n b turn tc) ?hh ?hv ?hp F9 N9 ?h0 ?sm ?rs ?it ?step ?fin
    case hh => exact rfl
    case hv => exact rfl
    case hp => exact rfl
    case h0 => exact ⟨_, _, _, _, rfl, rfl, rfl, rfl, rfl⟩
    case sm => decide
    case rs => decide
    case it => k_steps
    case step =>
      clear F9 N9
      rintro i t m₁ news₁ I oI h tk0 hi htk0 ⟨D, k, t1, t2, e1, e2, e3, e4, rfl⟩ ne9 F9 N9
      have F9 := fr_add F9 ((if_neg (by decide)).trans e1)
      have F9 := fr_add F9 ((if_neg (by decide)).trans ((if_neg (by decide)).trans e2))
      have F9 := fr_add F9 ((if_neg (by decide)).trans ((if_neg (by decide)).trans ((if_neg (by decide)).trans e3)))
      have F9 := fr_add F9 ((if_neg (by decide)).trans ((if_neg (by decide)).trans ((if_neg (by decide)).trans ((if_neg (by decide)).trans e4))))
      clear e1 e2 e3 e4
      have hID : @Ne Nat I D := Ne.symm (ne9 _ (.head _))
      have hlen : (ansL n b i).length ≤ 1000 := by rw [ansL_len]; omega
      have hy : aN n b (i + 1) = if (decide (aN n b i % 2 ^ (3 + (i : Int)).toNat = 1) == false) = true then aN n b i * pwN b i % 256 else aN n b i := by
        rw [show (3 + (i : Int)).toNat = i + 3 by omega]; rfl
      have hz : pwN b (i + 1) = pwN b i * pwN b i % 256 := rfl
      have hv : Value.bool (ansV n b (i + 1)) = .bool (decide (aN n b i % 2 ^ (3 + (i : Int)).toNat = 1)) := by
        rw [show (3 + (i : Int)).toNat = i + 3 by omega]; rfl
      have hl1 := ansL_snoc n b i
      rw [hv] at hl1
      obtain ⟨hx0, hx1⟩ := aN_bd n b i
      obtain ⟨hp0, hp1⟩ := pwN_bd b i
      generalize aN n b i = x at *
      generalize pwN b i = pw at *
      k_with "my app" => (
        (rename Fr _ _ _ _ => F8); (rename News _ _ _ _ => N8)
        refine append_gen F8 N8 (UpdF.tail hID (UpdF.head (fun _ h => nomatch h))) hlen ?_
        clear F8 N8
        intro h8 F8 N8)
      k_steps
      (rename (_ = ite _ _ _) => q); have q' := q.trans hy.symm; clear q; subst q'
      (rename Fr _ _ _ _ => F8); (rename News _ _ _ _ => N8)
      exact ⟨rfl, _, _, _, _, rfl, F8, N8, fun p hp => by rw [List.mem_singleton.mp hp]; exact Ne.symm hID, D, _, _, _, rfl, rfl, by rw [hz]; rfl, rfl, by rw [hl1]⟩
    case' fin =>
      clear F9 N9
      rintro h9 tk9 m9 news9 F9 N9 ⟨D, k, t1, t2, e1, e2, e3, e4, rfl⟩
      have F9 := fr_add F9 e1)
  k_steps
  subst hg
  (try dsimp only)
  (rename News _ _ _ _ => N8)
  exact hret _ _ _ (Fr.keep (by assumption)) ⟨_, _, rfl, (N8 _ (.head _)).1, (N8 _ (.head _)).2.2⟩
end

-- Math3
section
open PySem PySem.W PyProof.Rows
theorem sameB_eq : ∀ {l r : List Bool}, sameB l r = true → l = r
  | [], [], _ => rfl
  | [], _ :: _, h => by simp [sameB] at h
  | _ :: _, [], h => by simp [sameB] at h
  | a :: l, b :: r, h => by
    simp only [sameB, Bool.and_eq_true] at h
    rw [sameB_eq h.2]
    cases a <;> cases b <;> simp_all
def pN (b : Nat) : Nat → Nat
  | 0 => b
  | i + 1 => pN b i * pN b i % 256
def yN (n b : Nat) : Nat → Nat
  | 0 => bif Nat.beq (n % 4) 1 then n else 256 - n
  | i + 1 => bif Nat.beq (yN n b i % 2 ^ (i + 3)) 1 then yN n b i else yN n b i * pN b i % 256
theorem beq_int (y k : Nat) : decide ((y : Int) % (k : Int) = 1) = Nat.beq (y % k) 1 := by
  rw [Bool.eq_iff_iff, decide_eq_true_eq, Nat.beq_eq]
  rw [← Int.natCast_emod]
  exact Int.ofNat_inj (m := y % k) (n := 1)
theorem pwN_eq (b : Int) : ∀ i, pwN b i = ((pN (b % 256).toNat i : Nat) : Int)
  | 0 => (Int.toNat_of_nonneg (Int.emod_nonneg _ (by decide))).symm
  | i + 1 => by rw [pwN, pwN_eq b i, pN, Int.natCast_emod, Int.natCast_mul]; rfl
theorem aN_eq (n b : Int) (hn : n % 2 = 1) : ∀ i, aN n b i = ((yN (n % 256).toNat (b % 256).toNat i : Nat) : Int)
  | 0 => by
    have h1 : (((n % 256).toNat : Nat) : Int) = n % 256 := Int.toNat_of_nonneg (Int.emod_nonneg _ (by decide))
    have h2 := Int.emod_lt_of_pos n (by decide : (0 : Int) < 256)
    have h3 : decide (n % 256 % 2 ^ 2 = 1) = Nat.beq ((n % 256).toNat % 4) 1 := by
      rw [← beq_int, h1]; rfl
    simp only [aN, yN, h3]
    cases Nat.beq ((n % 256).toNat % 4) 1
    · simp only [beq_self_eq_true, if_true, cond_false]; omega
    · simp only [cond_true]; rw [if_neg (by decide)]; exact h1.symm
  | i + 1 => by
    have h3 : decide (aN n b i % 2 ^ (i + 3) = 1) = Nat.beq (yN (n % 256).toNat (b % 256).toNat i % 2 ^ (i + 3)) 1 := by
      rw [← beq_int, aN_eq n b hn i, Int.natCast_pow]; rfl
    rw [aN, yN, h3, aN_eq n b hn i, pwN_eq]
    cases Nat.beq (yN (n % 256).toNat (b % 256).toNat i % 2 ^ (i + 3)) 1
    · simp only [beq_self_eq_true, if_true, cond_false, Int.natCast_emod, Int.natCast_mul]; rfl
    · rw [if_neg (by decide)]; rfl
/-- what an odd number needs -/
def needE (n b : Int) : Nat := firstE 64 0 (n % 256).toNat (b % 256).toNat
/-- what a number leaves, as a natural one -/
theorem res {n : Int} {k r : Nat} (hk : (k : Int) ∣ 256) (h : n % (k : Int) = (r : Int)) : (n % 256).toNat % k = r := by
  refine Int.ofNat_inj.mp ?_
  rw [Int.natCast_emod, Int.toNat_of_nonneg (Int.emod_nonneg _ (by decide)), Int.emod_emod_of_dvd _ hk, h]
theorem res_lt {n : Int} : (n % 256).toNat < 256 := (Int.toNat_lt (Int.emod_nonneg _ (by decide))).mpr (Int.emod_lt_of_pos _ (by decide))
theorem res_eq {m k r : Nat} (h : m % k = r) : m = k * (m / k) + r := by rw [← h]; exact (Nat.div_add_mod m k).symm
theorem need_law {n b : Int} (hn : n % 2 = 1) (hb : b % 8 = 5) : needE n b < 64 ∧ (∃ rest, needL n b = (needE n b : Int) :: rest) ∧ hit (xN (n % 256).toNat (b % 256).toNat (needE n b)) = true ∧
    decide (n % 256 % 2 ^ 2 = 1) = decide (n % 4 = 1) ∧ decide (aN n b 0 % 2 ^ 3 = 1) = decide ((needE n b : Int) / 1 % 2 = 0) ∧ decide (aN n b 1 % 2 ^ 4 = 1) = decide ((needE n b : Int) / 2 % 2 = 0) ∧ decide (aN n b 2 % 2 ^ 5 = 1) = decide ((needE n b : Int) / 4 % 2 = 0) ∧
    decide (aN n b 3 % 2 ^ 6 = 1) = decide ((needE n b : Int) / 8 % 2 = 0) ∧ decide (aN n b 4 % 2 ^ 7 = 1) = decide ((needE n b : Int) / 16 % 2 = 0) ∧ decide (aN n b 5 % 2 ^ 8 = 1) = decide ((needE n b : Int) / 32 % 2 = 0) := by
  have hn0 : (n % 256).toNat = 2 * ((n % 256).toNat / 2) + 1 := res_eq (res (k := 2) (r := 1) (by decide) hn)
  have hb0 : (b % 256).toNat = 8 * ((b % 256).toNat / 8) + 5 := res_eq (res (k := 8) (r := 5) (by decide) hb)
  have hc := chk_all (b := (b % 256).toNat / 8) (n := (n % 256).toNat / 2) (Nat.div_lt_of_lt_mul res_lt) (Nat.div_lt_of_lt_mul res_lt)
  unfold chk at hc
  rw [← hn0, ← hb0] at hc
  unfold chkE at hc
  rw [Bool.and_eq_true] at hc
  obtain ⟨h64, hs⟩ := hc
  have h64' : needE n b < 64 := Nat.lt_succ_of_le (show firstE 64 0 (n % 256).toNat (b % 256).toNat ≤ 63 by simpa [Nat.blt, Nat.ble_eq] using h64)
  have hs' := sameB_eq hs
  have hy0 : (bif Nat.beq ((n % 256).toNat % 4) 1 then (n % 256).toNat else 256 - (n % 256).toNat) = yN (n % 256).toNat (b % 256).toNat 0 := rfl
  have hrun : ansB (n % 256).toNat (b % 256).toNat = [Nat.beq ((n % 256).toNat % 4) 1, Nat.beq (yN (n % 256).toNat (b % 256).toNat 0 % 2 ^ 3) 1, Nat.beq (yN (n % 256).toNat (b % 256).toNat 1 % 2 ^ 4) 1, Nat.beq (yN (n % 256).toNat (b % 256).toNat 2 % 2 ^ 5) 1, Nat.beq (yN (n % 256).toNat (b % 256).toNat 3 % 2 ^ 6) 1, Nat.beq (yN (n % 256).toNat (b % 256).toNat 4 % 2 ^ 7) 1, Nat.beq (yN (n % 256).toNat (b % 256).toNat 5 % 2 ^ 8) 1] := rfl
  rw [hrun] at hs'
  have he : firstE 64 0 (n % 256).toNat (b % 256).toNat = needE n b := rfl
  rw [he] at hs'
  simp only [dueB, List.cons.injEq, and_true, true_and] at hs'
  obtain ⟨g0, g1, g2, g3, g4, g5⟩ := hs'
  have hx := firstE_spec (n % 256).toNat (b % 256).toNat 64 0 (by rw [Nat.zero_add]; exact h64')
  have cv : ∀ (k : Nat), decide ((needE n b : Int) / (k : Int) % 2 = 0) = Nat.beq (needE n b / k % 2) 0 := fun k => by
    rw [Bool.eq_iff_iff, decide_eq_true_eq, Nat.beq_eq, ← Int.natCast_ediv]
    exact Int.ofNat_inj (m := needE n b / k % 2) (n := 0)
  have av : ∀ i, decide (aN n b i % 2 ^ (i + 3) = 1) = Nat.beq (yN (n % 256).toNat (b % 256).toNat i % 2 ^ (i + 3)) 1 := fun i => by
    rw [← beq_int, aN_eq n b hn i, Int.natCast_pow]; rfl
  refine ⟨h64', needL_first h64' hx.1 (fun j hj => hx.2.2 j (Nat.zero_le _) hj), hx.1, by rw [show (2 : Int) ^ 2 = 4 from rfl, Int.emod_emod_of_dvd n (by decide : (4 : Int) ∣ 256)], ?_, ?_, ?_, ?_, ?_, ?_⟩
  · rw [av 0, g0]; have h := cv 1; rw [Nat.div_one] at h; exact h.symm
  · rw [av 1, g1]; exact (cv 2).symm
  · rw [av 2, g2]; exact (cv 4).symm
  · rw [av 3, g3]; exact (cv 8).symm
  · rw [av 4, g4]; exact (cv 16).symm
  · rw [av 5, g5]; exact (cv 32).symm
end

-- Nest0
section
section
variable {prog : Program} {w : World} {A : Around} {R : Result → Shared → Prop} {s : Shared}
abbrev two (elt : Expr) (t1 i1 t2 i2 : Expr) (scope : Scope) (pos : Pos) : Expr := .ListComp elt [⟨t1, i1, [], 0⟩, ⟨t2, i2, [], 0⟩] scope pos
theorem turn1 (elt t1 i1 t2 i2 : Expr) (scope : Scope) (pos : Pos) (it acc : Value) (env : Env) :
    compTurn (two elt t1 i1 t2 i2 scope pos) 1 it acc env = (standAt i2.pos >>= fun _ => pyNext it >>= fun r => match r with
      | none => pure (.done .next)
      | some v => letOwnedTupleGo t2 it v >>= fun _ => assign t2 env v >>= fun _ =>
        (eval elt env >>= fun x => call (.builtin "list.append") [acc, x] >>= fun _ => pure ()) >>= fun _ =>
          again (.compLoop (two elt t1 i1 t2 i2 scope pos) 1 it acc env)) := by rfl
theorem turn0 (elt t1 i1 t2 i2 : Expr) (scope : Scope) (pos : Pos) (it acc : Value) (env : Env) :
    compTurn (two elt t1 i1 t2 i2 scope pos) 0 it acc env = (standAt i1.pos >>= fun _ => pyNext it >>= fun r => match r with
      | none => pure (.done .next)
      | some v => letOwnedTupleGo t1 it v >>= fun _ => assign t1 env v >>= fun _ =>
        eval i2 env >>= fun x => standAt i2.pos >>= fun _ => foldedSetIterable i2 env x >>= fun x => holding [x] (pyIter x) >>= fun y => runOwn (.compStart (two elt t1 i1 t2 i2 scope pos) 1 y acc env) env >>= fun _ =>
          again (.compLoop (two elt t1 i1 t2 i2 scope pos) 0 it acc env)) := by first | rfl | (unfold compTurn; trace_state; rfl)

abbrev NB (prog : Program) (w : World) (A : Around) (env : Env) (R : Result → Shared → Prop) : Value → Shared → Prop := notedBy (model prog w) A env fun e s' => R (.error e) s'
theorem codeAny_inner {elt t1 i1 t2 i2 : Expr} {scope : Scope} {pos : Pos} {it acc : Value} {env : Env} (I : Nat → Shared → Prop)
    (turn : ∀ n s, I n s → wpAny (model prog w) A (pyNext it) (fun r s₁ => match r with
      | none => R (.ok .next) s₁
      | some v => wpAny (model prog w) A (assign t2 env v) (fun _ s₂ => wpAny (model prog w) A (eval elt env) (fun x s₃ =>
          wpAny (model prog w) A (call (.builtin "list.append") [acc, x]) (fun _ s₄ => ∃ m, m < n ∧ I m s₄) (NB prog w A env R) s₃) (NB prog w A env R) s₂) (NB prog w A env R) s₁) (NB prog w A env R) s)
    (n : Nat) (h : I n s) (ht : ∀ v, letOwnedTupleGo t2 it v = pure () := by intro _; rfl) :
    codeAny (model prog w) A (.compLoop (two elt t1 i1 t2 i2 scope pos) 1 it acc env) R s := by
  refine codeAny_loop rfl I (fun n s hI => ?_) n h
  show wpAny _ _ ((compTurn (two elt t1 i1 t2 i2 scope pos) 1 it acc env).onRaise (fun x => do noteFrame x env; theTreesLotGoes x)) _ _ s
  refine wpAny_noted ?_
  rw [turn1]
  refine wpAny_bind (wpAny_standAt (wpAny_bind (wpAny_mono (turn n s hI) (fun r s₁ h₁ => ?_) fun _ _ h' => h')))
  cases r with
  | none => exact wpAny_pure h₁
  | some v =>
    refine wpAny_bind (wpAny_of_eq (ht v) ?_)
    exact wpAny_bind (wpAny_mono h₁ (fun _ s₂ h₂ => wpAny_bind (wpAny_bind (wpAny_mono h₂ (fun x s₃ h₃ => wpAny_bind (wpAny_mono h₃
      (fun _ s₄ h₄ => wpAny_pure (wpAny_pure ⟨rfl, h₄⟩)) fun _ _ h' => h')) fun _ _ h' => h'))) fun _ _ h' => h')
theorem codeAny_start1 {elt t1 i1 t2 i2 : Expr} {scope : Scope} {pos : Pos} {it acc : Value} {env : Env}
    (h0 : codeAny (model prog w) A (.compLoop (two elt t1 i1 t2 i2 scope pos) 1 it acc env) R s)
    (h : wpAny (model prog w) A (pyIter it) (fun it' s' => codeAny (model prog w) A (.compLoop (two elt t1 i1 t2 i2 scope pos) 1 it' acc env) R s') (NB prog w A env R) s) :
    codeAny (model prog w) A (.compStart (two elt t1 i1 t2 i2 scope pos) 1 it acc env) R s := by
  refine codeAny_of_tree ?_
  show wpAny _ _ ((compStart (two elt t1 i1 t2 i2 scope pos) 1 it acc env).onRaise (fun x => do noteFrame x env; standAt theWindowsPlace)) _ _ s
  refine wpAny_notedAt ?_
  unfold compStart
  show wpAny _ _ (ask >>= _) _ _ s
  refine wpAny_bind (wpAny_askSetting (wpAny_ite ?_))
  split
  · first
      | exact wpAny_bind (wpAny_pure (wpAny_pure (And.intro rfl h0)))
      | exact wpAny_pure (And.intro rfl h0)
  · first
      | exact wpAny_bind (wpAny_rule (wpAny_bind (wpAny_standAt (wpAny_bind (wpAny_mono h (fun it' s' h' => wpAny_pure (And.intro rfl h')) fun _ _ x => x)))))
      | (refine wpAny_bind (wpAny_rule ?_); show wpAny _ _ (standAt i2.pos >>= _) _ _ s; exact wpAny_bind (wpAny_standAt (wpAny_bind (wpAny_mono h (fun it' s' h' => wpAny_pure (And.intro rfl h')) fun _ _ x => x))))
theorem codeAny_outer {elt t1 i1 t2 i2 : Expr} {scope : Scope} {pos : Pos} {it acc : Value} {env : Env} (hh : A.handled = none) (I : Nat → Shared → Prop)
    (turn : ∀ n s, I n s → wpAny (model prog w) A (pyNext it) (fun r s₁ => match r with
      | none => R (.ok .next) s₁
      | some v => wpAny (model prog w) A (assign t1 env v) (fun _ s₂ => wpAny (model prog w) A (eval i2 env) (fun x s₃ => wpAny (model prog w) A (pyIter x) (fun y s₄ =>
          codeAny (model prog w) A (.compStart (two elt t1 i1 t2 i2 scope pos) 1 y acc env) (fun r' s₅ => match r' with | .ok _ => ∃ m, m < n ∧ I m s₅ | .error e => cameBackBy (model prog w) A env (NB prog w A env R) e s₅) s₄) (NB prog w A env R) s₃) (NB prog w A env R) s₂) (NB prog w A env R) s₁) (NB prog w A env R) s)
    (n : Nat) (h : I n s) (ht : ∀ v, letOwnedTupleGo t1 it v = pure () := by intro _; rfl) (hs : ∀ x, foldedSetIterable i2 env x = pure x := by intro _; rfl) :
    codeAny (model prog w) A (.compLoop (two elt t1 i1 t2 i2 scope pos) 0 it acc env) R s := by
  refine codeAny_loop rfl I (fun n s hI => ?_) n h
  show wpAny _ A ((compTurn (two elt t1 i1 t2 i2 scope pos) 0 it acc env).onRaise (fun x => do noteFrame x env; theTreesLotGoes x)) _ _ s
  refine wpAny_noted ?_
  rw [turn0]
  refine wpAny_bind (wpAny_standAt (wpAny_bind (wpAny_mono (turn n s hI) (fun r s₁ h₁ => ?_) fun _ _ h' => h')))
  cases r with
  | none => exact wpAny_pure h₁
  | some v =>
    refine wpAny_bind (wpAny_of_eq (ht v) ?_)
    refine wpAny_bind (wpAny_mono h₁ (fun _ s₂ h₂ => wpAny_bind (wpAny_mono h₂ (fun x s₃ h₃ => ?_) fun _ _ h' => h')) fun _ _ h' => h')
    refine wpAny_bind (wpAny_standAt (wpAny_bind (wpAny_of_eq (hs x) (wpAny_bind (wpAny_holding (wpAny_mono h₃ (fun y s₄ h₄ => ?_) fun _ _ h' => h'))))))
    refine wpAny_bind (wpAny_runOwn ?_)
    have hm : A.mark none = A := by first | rfl | (cases A; cases hh; rfl)
    rw [hm]
    refine codeAny_mono h₄ (fun r' s₅ h₅ => ?_)
    cases r' with
    | ok f => exact wpAny_pure ⟨rfl, h₅⟩
    | error e => exact h₅
end
end

-- Nest1
section
/-- the turn of an inner loop is done: one object X more stands -/
def NEnd (h₀ : Heap) (L : Addr) (m : Str → Option Value) (s₁ : Shared) (I2 : Addr) (oI2 : Obj) (I1 : Addr) (oI1 : Obj) (C : Addr) (oC : Obj) (D : Addr) (oD : Obj) (news : List (Addr × Obj)) (rest : Value → Addr → Obj → Prop) (y : Value) (s₂ : Shared) : Prop :=
  ∃ h' tk X oX, s₂ = { s₁ with heap := h', toks := tk } ∧ Fr h₀ L h' m ∧ News h₀ L h' ((X, oX) :: (I2, oI2) :: (I1, oI1) :: (C, oC) :: (D, oD) :: news) ∧ (X ≠ I2 ∧ X ≠ I1 ∧ X ≠ C ∧ X ≠ D) ∧ rest y X oX
theorem NEnd.intro {h₀ : Heap} {L I2 I1 C D X : Addr} {m : Str → Option Value} {s₁ : Shared} {oI2 oI1 oC oD oX : Obj} {news : List (Addr × Obj)} {rest : Value → Addr → Obj → Prop} {y : Value} {h' : Heap} {tk : Nat}
    (F : Fr h₀ L h' m) (N : News h₀ L h' ((X, oX) :: (I2, oI2) :: (I1, oI1) :: (C, oC) :: (D, oD) :: news)) (ne : X ≠ I2 ∧ X ≠ I1 ∧ X ≠ C ∧ X ≠ D) (r : rest y X oX) :
    NEnd h₀ L m s₁ I2 oI2 I1 oI1 C oC D oD news rest y { s₁ with heap := h', toks := tk } := ⟨h', tk, X, oX, rfl, F, N, ne, r⟩
def Off4 (I2 I1 C D : Addr) (news : List (Addr × Obj)) : Prop := ∀ p ∈ news, p.1 ≠ I2 ∧ p.1 ≠ I1 ∧ p.1 ≠ C ∧ p.1 ≠ D
def NR (prog : Program) (w : World) (A : Around) (h₀ : Heap) (L : Addr) (m : Str → Option Value) (env : Env) (elt : Expr) (x1 x2 : Str) (v1 : Value) (scope : Scope) (cl : List (Str × Addr)) (s : Shared) (Fin : List Value → List (Addr × Obj) → Prop) : List Value → List Value → List (Addr × Obj) → Prop
  | [], ys, news => Fin ys news
  | v2 :: r, ys, news => ∀ I2 oI2 I1 oI1 C oC D m₂ h tk (E' : Value → Shared → Prop), LCg.NsObj oC m₂ → m₂ x1 = some v1 → m₂ x2 = some v2 → Fr h₀ L h m → News h₀ L h ((I2, oI2) :: (I1, oI1) :: (C, oC) :: (D, LCg.lst ys) :: news) → Off4 I2 I1 C D news →
      ((@Ne Nat I2 I1) ∧ (@Ne Nat I2 C) ∧ (@Ne Nat I2 D) ∧ (@Ne Nat I1 C) ∧ (@Ne Nat I1 D) ∧ (@Ne Nat C D)) →
      wpAny (model prog w) A (eval elt (compEnvC scope cl C env)) (NEnd h₀ L m { s with heap := h, toks := tk } I2 oI2 I1 oI1 C oC D (LCg.lst ys) news (fun y X oX => NR prog w A h₀ L m env elt x1 x2 v1 scope cl s Fin r (ys ++ [y]) ((X, oX) :: news))) E' { s with heap := h, toks := tk }
def IEnd (h₀ : Heap) (L : Addr) (m : Str → Option Value) (s₁ : Shared) (I1 : Addr) (oI1 : Obj) (C : Addr) (oC : Obj) (D : Addr) (oD : Obj) (news : List (Addr × Obj)) (rest : Addr → List Value → Nat → Prop) (xv : Value) (s₂ : Shared) : Prop :=
  ∃ h' tk X its k, xv = .ref X ∧ s₂ = { s₁ with heap := h', toks := tk } ∧ Fr h₀ L h' m ∧ News h₀ L h' ((X, listOf its.toArray k) :: (I1, oI1) :: (C, oC) :: (D, oD) :: news) ∧ (X ≠ I1 ∧ X ≠ C ∧ X ≠ D) ∧ its.length ≤ 8 ∧ rest X its k
theorem IEnd.intro {h₀ : Heap} {L I1 C D X : Addr} {m : Str → Option Value} {s₁ : Shared} {oI1 oC oD : Obj} {its : List Value} {k : Nat} {news : List (Addr × Obj)} {rest : Addr → List Value → Nat → Prop} {h' : Heap} {tk : Nat}
    (F : Fr h₀ L h' m) (N : News h₀ L h' ((X, listOf its.toArray k) :: (I1, oI1) :: (C, oC) :: (D, oD) :: news)) (ne : X ≠ I1 ∧ X ≠ C ∧ X ≠ D) (hl : its.length ≤ 8) (r : rest X its k) :
    IEnd h₀ L m s₁ I1 oI1 C oC D oD news rest (.ref X) { s₁ with heap := h', toks := tk } := ⟨h', tk, X, its, k, rfl, rfl, F, N, ne, hl, r⟩
def OR (prog : Program) (w : World) (A : Around) (h₀ : Heap) (L : Addr) (m : Str → Option Value) (env : Env) (elt i2 : Expr) (x1 x2 : Str) (scope : Scope) (cl : List (Str × Addr)) (s : Shared) (Fin : List Value → List (Addr × Obj) → Prop) : List Value → List Value → List (Addr × Obj) → Prop
  | [], ys, news => Fin ys news
  | v1 :: r, ys, news => ∀ I1 oI1 C oC D m₂ h tk (E' : Value → Shared → Prop), LCg.NsObj oC m₂ → m₂ x1 = some v1 → Fr h₀ L h m → News h₀ L h ((I1, oI1) :: (C, oC) :: (D, LCg.lst ys) :: news) → LCg.Off3 I1 C D news → ((@Ne Nat I1 C) ∧ (@Ne Nat I1 D) ∧ (@Ne Nat C D)) →
      wpAny (model prog w) A (eval i2 (compEnvC scope cl C env)) (IEnd h₀ L m { s with heap := h, toks := tk } I1 oI1 C oC D (LCg.lst ys) news (fun X its k => NR prog w A h₀ L m env elt x1 x2 v1 scope cl s (OR prog w A h₀ L m env elt i2 x1 x2 scope cl s Fin r) its ys ((X, listOf its.toArray k) :: news))) E' { s with heap := h, toks := tk }
section
variable {prog : Program} {w : World} {A : Around} {E : Value → Shared → Prop} {s : Shared} {h₀ : Heap} {L : Addr} {m : Str → Option Value} {env : Env}
/-- the inner loop -/
theorem inner_U {elt i1 i2 : Expr} {x1 x2 : Str} {p1 p2 : Pos} {v1 : Value} {scope : Scope} {cl : List (Str × Addr)} {pos : Pos} {I2 I1 ax C D : Addr} {oI1 : Obj} {its ys₀ : List Value} {c₀ B : Nat} {m₀ : Str → Option Value} {news : List (Addr × Obj)}
    {Fin : List Value → List (Addr × Obj) → Prop} {R : Result → Shared → Prop} {sb : Shared}
    (hh : A.handled = none) (hkind : scope.kind = .function) (hx2 : scope.names.lookup x2 = some .local) (h12 : x1 ≠ x2) (hn8 : its.length ≤ 8) (hB : ys₀.length ≤ B) (hB2 : B + 8 ≤ sizeLine)
    (hne : ax ≠ I2) (hst : s.heap.IsListIter I2 ax 0) (F : Fr h₀ L s.heap m) (hN : s.heap.Ns C m₀) (hm1 : m₀ x1 = some v1) (N : News h₀ L s.heap ((I1, oI1) :: (D, LCg.lst ys₀) :: news)) (hax : (ax, listOf its.toArray c₀) ∈ news) (off : Off4 I2 I1 C D news)
    (hI2L : L ≠ I2) (hI20 : h₀.get? I2 = none) (hC0 : h₀.get? C = none) (hCL : C ≠ L)
    (ne : (@Ne Nat I2 I1) ∧ (@Ne Nat I2 C) ∧ (@Ne Nat I2 D) ∧ (@Ne Nat I1 C) ∧ (@Ne Nat I1 D) ∧ (@Ne Nat C D)) (hs : ∃ h tk, s = { sb with heap := h, toks := tk })
    (Rn : NR prog w A h₀ L m env elt x1 x2 v1 scope cl sb Fin its ys₀ news)
    (hRR : ∀ h tk m' ys news', Fr h₀ L h m → h.Ns C m' → News h₀ L h ((I1, oI1) :: (D, LCg.lst ys) :: news') → (∀ p ∈ news', p.1 ≠ I1 ∧ p.1 ≠ C ∧ p.1 ≠ D) → (∀ p ∈ news, p ∈ news') → ys.length ≤ B + its.length → Fin ys news' → R (.ok .next) { sb with heap := h, toks := tk }) :
    codeAny (model prog w) A (.compLoop (two elt (.Name x1 p1) i1 (.Name x2 p2) i2 scope pos) 1 (.ref I2) (.ref D) (compEnvC scope cl C env)) R s := by
  obtain ⟨n21, n2C, n2D, n1C, n1D, nCD⟩ := ne
  obtain ⟨hh0, tk0, rfl⟩ := hs
  have W := Walks.list (prog := prog) (w := w) hh I2 ax hne its.toArray
  have hD0 : h₀.get? D = none := (N (D, _) (.tail _ (.head _))).2.2
  have hDL : D ≠ L := (N (D, _) (.tail _ (.head _))).2.1
  have hl0 : hh0.IsList ax its.toArray := ⟨_, (N _ (.tail _ (.tail _ hax))).1, rfl, _, rfl⟩
  refine codeAny_inner
    (fun k s' => ∃ h' tk i ys m' news', s' = { sb with heap := h', toks := tk } ∧ i ≤ its.length ∧ k = its.length + 1 - i ∧ ys.length ≤ B + i ∧ h'.IsListIter I2 ax i ∧ Fr h₀ L h' m ∧ h'.Ns C m' ∧ m' x1 = some v1 ∧ News h₀ L h' ((I1, oI1) :: (D, LCg.lst ys) :: news') ∧
      (∀ p ∈ news, p ∈ news') ∧ Off4 I2 I1 C D news' ∧ NR prog w A h₀ L m env elt x1 x2 v1 scope cl sb Fin (its.drop i) ys news') ?_ (its.length + 1)
    ⟨hh0, tk0, 0, ys₀, m₀, news, rfl, Nat.zero_le _, rfl, hB, hst, F, hN, hm1, N, fun _ h => h, off, Rn⟩
  rintro k s' ⟨h', tk, i, ys, m', news', rfl, hi, rfl, hyl, hit, F', hn', hm', N', hsub, off', R'⟩
  have hl' : h'.IsList ax its.toArray := ⟨_, (N' _ (.tail _ (.tail _ (hsub _ hax)))).1, rfl, _, rfl⟩
  by_cases hlt : i < its.length
  · have hd : its.drop i = its[i] :: its.drop (i + 1) := List.drop_eq_getElem_cons hlt
    rw [hd] at R'
    refine W.item i _ _ _ (by simpa using hlt) ⟨hit, hl'⟩ fun v h₂ tk₂ hPv hst₂ hk₂ => ?_
    have hv : its[i] = v := by
      have hPv' : its.toArray[i]? = some v := hPv
      rw [List.getElem?_toArray, List.getElem?_eq_getElem hlt] at hPv'
      exact Option.some.inj hPv'
    rw [hv] at R'
    refine wpAny_assign_Name (wpAny_storeName_local (lookup_relabel_local hx2) (hn'.at' fun o e => hk₂ _ o (by simpa using Ne.symm n2C) e) (fun h₃ hn₃ hs₃ => ?_) (by simp [compEnvC, relabel, hkind]))
    obtain ⟨oC, heC, hoC⟩ := LCg.ns_obj hn₃
    have F₃ : Fr h₀ L h₃ m := (LCg.fr_but F' hk₂ hI2L hI20).change hs₃ hCL hC0
    have N₂ : News h₀ L h₂ ((I1, oI1) :: (D, LCg.lst ys) :: news') := LCg.news_but N' hk₂ fun p hp => by
      rcases List.mem_cons.mp hp with rfl | hp
      · exact Ne.symm n21
      rcases List.mem_cons.mp hp with rfl | hp
      · exact Ne.symm n2D
      · exact (off' p hp).1
    have it₃ : h₃.IsListIter I2 ax (i + 1) := hst₂.1.at fun o e => hs₃.extBut I2 o n2C e
    obtain ⟨oI2, heI2, _⟩ := id it₃
    have N₃ : News h₀ L h₃ ((I2, oI2) :: (I1, oI1) :: (C, oC) :: (D, LCg.lst ys) :: news') := fun p hp => by
      rcases List.mem_cons.mp hp with rfl | hp
      · exact ⟨heI2, Ne.symm hI2L, hI20⟩
      rcases List.mem_cons.mp hp with rfl | hp
      · have z := N₂ (I1, oI1) (.head _)
        exact ⟨hs₃.extBut _ _ n1C z.1, z.2⟩
      rcases List.mem_cons.mp hp with rfl | hp
      · exact ⟨heC, hCL, hC0⟩
      rcases List.mem_cons.mp hp with rfl | hp
      · have z := N₂ (D, LCg.lst ys) (.tail _ (.head _))
        exact ⟨hs₃.extBut _ _ (Ne.symm nCD) z.1, z.2⟩
      · have z := N₂ p (.tail _ (.tail _ hp))
        exact ⟨hs₃.extBut _ _ (off' p hp).2.2.1 z.1, z.2⟩
    refine wpAny_mono (R' I2 oI2 I1 oI1 C oC D _ h₃ _ _ hoC (by rw [if_neg h12]; exact hm') (by simp) F₃ N₃ off' ⟨n21, n2C, n2D, n1C, n1D, nCD⟩) (fun y s₄ h₄ => ?_) fun _ _ e => e
    obtain ⟨h₄, tk₄, X, oX, rfl, F₄, N₄, ⟨nX2, nX1, nXC, nXD⟩, R₄⟩ := h₄
    have zI2 := (N₄ (I2, oI2) (.tail _ (.head _))).1
    have zI1 := N₄ (I1, oI1) (.tail _ (.tail _ (.head _)))
    have zC := (N₄ (C, oC) (.tail _ (.tail _ (.tail _ (.head _))))).1
    have zD := (N₄ (D, LCg.lst ys) (.tail _ (.tail _ (.tail _ (.tail _ (.head _)))))).1
    have zX := N₄ (X, oX) (.head _)
    have it₄ : h₄.IsListIter I2 ax (i + 1) := by
      obtain ⟨o, e, r⟩ := it₃
      rw [heI2] at e; cases e
      exact ⟨_, zI2, r⟩
    have hsz : ys.toArray.size ≤ sizeLine := by rw [List.size_toArray]; omega
    refine append_at (hsz := hsz) zD fun h₅ hs₅ hD₅ => ?_
    refine ⟨its.length + 1 - (i + 1), meas hlt, h₅, tk₄, i + 1, ys ++ [y], _, (X, oX) :: news', rfl, hlt, rfl, by rw [List.length_append, List.length_singleton]; omega, it₄.at fun o e => hs₅.extBut I2 o n2D e, F₄.change hs₅ hDL hD0,
      (hoC.ns zC).sameBut hs₅ nCD, by rw [if_neg h12]; exact hm', fun p hp => ?_, fun p hp => .tail _ (hsub p hp), fun p hp => ?_, R₄⟩
    · rcases List.mem_cons.mp hp with rfl | hp
      · exact ⟨hs₅.extBut _ _ n1D zI1.1, zI1.2⟩
      rcases List.mem_cons.mp hp with rfl | hp
      · exact ⟨hD₅.trans (congrArg some (LCg.lst_snoc ys y)), hDL, hD0⟩
      rcases List.mem_cons.mp hp with rfl | hp
      · exact ⟨hs₅.extBut _ _ nXD zX.1, zX.2⟩
      · have z := N₄ p (.tail _ (.tail _ (.tail _ (.tail _ (.tail _ hp)))))
        exact ⟨hs₅.extBut _ _ (off' p hp).2.2.2 z.1, z.2⟩
    · rcases List.mem_cons.mp hp with rfl | hp
      · exact ⟨nX2, nX1, nXC, nXD⟩
      · exact off' p hp
  · obtain rfl : i = its.length := Nat.le_antisymm hi (Nat.not_lt.mp hlt)
    rw [List.drop_length] at R'
    refine W.done _ _ _ (by simpa using And.intro hit hl') fun h₂ tk₂ hk₂ => ?_
    refine hRR h₂ tk₂ _ ys news' (LCg.fr_but F' hk₂ hI2L hI20) (hn'.at' fun o e => hk₂ _ o (by simpa using Ne.symm n2C) e) (LCg.news_but N' hk₂ fun p hp => ?_) (fun p hp => (off' p hp).2) hsub hyl R'
    rcases List.mem_cons.mp hp with rfl | hp
    · exact Ne.symm n21
    rcases List.mem_cons.mp hp with rfl | hp
    · exact Ne.symm n2D
    · exact (off' p hp).1
end
end

-- Nest2
section
section
variable {prog : Program} {w : World} {A : Around} {E : Value → Shared → Prop} {s : Shared} {h₀ : Heap} {L : Addr} {m : Str → Option Value} {env : Env}
theorem nest_block {elt i1 i2 : Expr} {x1 x2 : Str} {p1 p2 : Pos} {scope : Scope} {cl : List (Str × Addr)} {pos : Pos} {s₂ : Shared} {I ax : Addr} {its : List Value} {c₁ : Nat} {news : List (Addr × Obj)}
    {Fin : List Value → List (Addr × Obj) → Prop} {RR : Value → Addr → Result → Shared → Prop}
    (hh : A.handled = none) (hcell : ∀ y ∈ scope.names, y.2 ≠ .cell) (hkind : scope.kind = .function) (hx1 : scope.names.lookup x1 = some .local) (hx2 : scope.names.lookup x2 = some .local) (h12 : x1 ≠ x2) (hn8 : its.length ≤ 8)
    (hne : ax ≠ I) (hst : s₂.heap.IsListIter I ax 0) (F : Fr h₀ L s₂.heap m) (N : News h₀ L s₂.heap news) (hax : (ax, listOf its.toArray c₁) ∈ news) (hIL : L ≠ I) (hI₀ : h₀.get? I = none) (off : ∀ p ∈ news, p.1 ≠ I)
    (R : OR prog w A h₀ L m env elt i2 x1 x2 scope cl s₂ Fin its [] news)
    (hRR : ∀ D C h tk m' ys news', Fr h₀ L h m → News h₀ L h ((D, LCg.lst ys) :: news') → LCg.Off1 D news' → h.Ns C m' → h₀.get? C = none → h₀.get? D = none → C ≠ L → D ≠ L → C ≠ D → (∀ p ∈ news', p.1 ≠ C) → Fin ys news' → RR (.ref D) C (.ok .next) { s₂ with heap := h, toks := tk })
    (hs2 : ∀ x, foldedSetIterable i2 (compEnvC scope cl (s₂.heap.objs.size + 1) env) x = pure x) :
    wpAny (model prog w) A (newList []) (fun acc s₃ => wpAny (model prog w) A (newFunctionEnv scope env.globals cl [] env.qual none .none (some env)) (fun cenv s₄ =>
      codeAny (model prog w) A (.compStart (two elt (.Name x1 p1) i1 (.Name x2 p2) i2 scope pos) 0 (.ref I) acc { cenv with scope := relabel scope env }) (RR acc cenv.locals) s₄) E s₃) E s₂ := by
  have hIlt : I < s₂.heap.objs.size := by obtain ⟨o, e, _⟩ := hst; exact Heap.lt_size e
  refine wpAny_newObj_type (wpAny_newFunctionEnv hcell (by intro y hy; simp at hy) (fun h₁ hns₁ hsb₁ => ?_) hkind)
  dsimp only at hns₁ hsb₁ ⊢
  generalize hH2 : s₂.heap.push { cls := .type "list", dict := none, data := .seq ([] : List Value).toArray } = H2 at hns₁ hsb₁ ⊢
  have hC : H2.objs.size = s₂.heap.objs.size + 1 := by rw [← hH2, Heap.size_push]
  have hDC : s₂.heap.objs.size ≠ H2.objs.size := by rw [hC]; exact Nat.ne_of_lt (Nat.lt_succ_self _)
  have below : ∀ b, b < s₂.heap.objs.size → b ≠ H2.objs.size ∧ b ≠ s₂.heap.objs.size := fun b hb => ⟨by rw [hC]; exact Nat.ne_of_lt (Nat.lt_succ_of_lt hb), Nat.ne_of_lt hb⟩
  have old : ∀ b o, s₂.heap.get? b = some o → h₁.get? b = some o := fun b o e => hsb₁.extBut b o (below b (Heap.lt_size e)).1 (Heap.get?_push_of_some _ (hH2 ▸ Heap.get?_push_of_some _ e))
  have hacc : h₁.get? s₂.heap.objs.size = some (LCg.lst []) := hsb₁.extBut _ _ hDC (Heap.get?_push_of_some _ (hH2 ▸ Heap.get?_push_size _ rfl))
  have fresh₀ : ∀ a, s₂.heap.objs.size ≤ a → h₀.get? a = none := fun a ha => by
    cases e : h₀.get? a with
    | none => rfl
    | some o' => exact absurd (Heap.lt_size (F.keep a o' e)) (Nat.not_lt.mpr ha)
  have hD₀ : h₀.get? s₂.heap.objs.size = none := fresh₀ _ (Nat.le_refl _)
  have hC₀ : h₀.get? H2.objs.size = none := fresh₀ _ (by rw [hC]; exact Nat.le_succ _)
  have hLlt : L < s₂.heap.objs.size := F.ns.lt
  have hDL : s₂.heap.objs.size ≠ L := Ne.symm (below L hLlt).2
  have hCL : H2.objs.size ≠ L := Ne.symm (below L hLlt).1
  have hCI : I ≠ H2.objs.size := (below I hIlt).1
  have hDI : I ≠ s₂.heap.objs.size := (below I hIlt).2
  have W := Walks.list (prog := prog) (w := w) hh I ax hne its.toArray
  have loop : ∀ s₃ : Shared, s₃ = { s₂ with heap := h₁, toks := s₂.toks + ([] : List (Str × Value)).length } →
      codeAny (model prog w) A (.compLoop (two elt (.Name x1 p1) i1 (.Name x2 p2) i2 scope pos) 0 (.ref I) (.ref s₂.heap.objs.size) (compEnvC scope cl H2.objs.size env)) (RR (.ref s₂.heap.objs.size) H2.objs.size) s₃ := by
    rintro s₃ rfl
    refine codeAny_outer hh
      (fun k s' => ∃ h' tk i ys m' news', s' = { s₂ with heap := h', toks := tk } ∧ i ≤ its.length ∧ k = its.length + 1 - i ∧ ys.length ≤ 8 * i ∧ h'.IsListIter I ax i ∧ Fr h₀ L h' m ∧ h'.Ns H2.objs.size m' ∧ News h₀ L h' ((s₂.heap.objs.size, LCg.lst ys) :: news') ∧
        (∀ p ∈ news, p ∈ news') ∧ (∀ p ∈ news', p.1 ≠ I ∧ p.1 ≠ H2.objs.size ∧ p.1 ≠ s₂.heap.objs.size) ∧ OR prog w A h₀ L m env elt i2 x1 x2 scope cl s₂ Fin (its.drop i) ys news') ?_ (its.length + 1)
      ⟨h₁, _, 0, [], _, news, rfl, Nat.zero_le _, rfl, Nat.le_refl _, hst.at fun o e => old I o e, F.keeps old, hns₁, fun p hp => ?_, fun _ h => h, fun p hp => ⟨off p hp, (below _ (Heap.lt_size (N p hp).1)).1, (below _ (Heap.lt_size (N p hp).1)).2⟩, R⟩ (by intro _; rfl) (by rw [hC]; exact hs2)
    · rintro k s' ⟨h', tk, i, ys, m', news', rfl, hi, rfl, hyl, hit, F', hn', N', hsub, off', R'⟩
      have hl' : h'.IsList ax its.toArray := ⟨_, (N' _ (.tail _ (hsub _ hax))).1, rfl, _, rfl⟩
      by_cases hlt : i < its.length
      · have hd : its.drop i = its[i] :: its.drop (i + 1) := List.drop_eq_getElem_cons hlt
        rw [hd] at R'
        refine W.item i _ _ _ (by simpa using hlt) ⟨hit, hl'⟩ fun v h₂ tk₂ hPv hst₂ hk₂ => ?_
        have hv : its[i] = v := by
          have hPv' : its.toArray[i]? = some v := hPv
          rw [List.getElem?_toArray, List.getElem?_eq_getElem hlt] at hPv'
          exact Option.some.inj hPv'
        rw [hv] at R'
        refine wpAny_assign_Name (wpAny_storeName_local (lookup_relabel_local hx1) (hn'.at' fun o e => hk₂ _ o (by simpa using Ne.symm hCI) e) (fun h₃ hn₃ hs₃ => ?_) (by simp [compEnvC, relabel, hkind]))
        obtain ⟨oC, heC, hoC⟩ := LCg.ns_obj hn₃
        have F₃ : Fr h₀ L h₃ m := (LCg.fr_but F' hk₂ hIL hI₀).change hs₃ hCL hC₀
        have N₂ : News h₀ L h₂ ((s₂.heap.objs.size, LCg.lst ys) :: news') := LCg.news_but N' hk₂ fun p hp => by
          rcases List.mem_cons.mp hp with rfl | hp
          · exact Ne.symm hDI
          · exact (off' p hp).1
        have it₃ : h₃.IsListIter I ax (i + 1) := hst₂.1.at fun o e => hs₃.extBut I o hCI e
        obtain ⟨oI, heI, _⟩ := id it₃
        have N₃ : News h₀ L h₃ ((I, oI) :: (H2.objs.size, oC) :: (s₂.heap.objs.size, LCg.lst ys) :: news') := fun p hp => by
          rcases List.mem_cons.mp hp with rfl | hp
          · exact ⟨heI, Ne.symm hIL, hI₀⟩
          rcases List.mem_cons.mp hp with rfl | hp
          · exact ⟨heC, hCL, hC₀⟩
          rcases List.mem_cons.mp hp with rfl | hp
          · have z := N₂ (s₂.heap.objs.size, LCg.lst ys) (.head _)
            exact ⟨hs₃.extBut _ _ hDC z.1, z.2⟩
          · have z := N₂ p (.tail _ hp)
            exact ⟨hs₃.extBut _ _ (off' p hp).2.1 z.1, z.2⟩
        refine wpAny_mono (R' I oI H2.objs.size oC s₂.heap.objs.size _ h₃ _ _ hoC (by simp) F₃ N₃ (LCg.Off3.of off') ⟨hCI, hDI, Ne.symm hDC⟩) (fun y s₄ h₄ => ?_) fun _ _ e => e
        obtain ⟨h₄, tk₄, X, its2, k2, rfl, rfl, F₄, N₄, ⟨nXI, nXC, nXD⟩, h8, R₄⟩ := h₄
        have zX := N₄ (X, listOf its2.toArray k2) (.head _)
        have zI := N₄ (I, oI) (.tail _ (.head _))
        have zC := (N₄ (H2.objs.size, oC) (.tail _ (.tail _ (.head _)))).1
        have hl4 : h₄.IsList X its2.toArray := ⟨_, zX.1, rfl, _, rfl⟩
        refine wpAny_pyIter_list hl4 ?_
        have up : ∀ b o, h₄.get? b = some o → (h₄.push { cls := .type "list_iterator", data := .fields #[.ref X, .int 0 0] }).get? b = some o := fun b o e => Heap.get?_push_of_some _ e
        generalize hP : h₄.push { cls := .type "list_iterator", data := .fields #[.ref X, .int 0 0] } = P at up
        have ltz : ∀ p ∈ (X, listOf its2.toArray k2) :: (I, oI) :: (H2.objs.size, oC) :: (s₂.heap.objs.size, LCg.lst ys) :: news', p.1 < h₄.objs.size := fun p hp => Heap.lt_size (N₄ p hp).1
        have hitP : P.IsListIter h₄.objs.size X 0 := ⟨_, hP ▸ Heap.get?_push_size _ rfl, rfl, rfl⟩
        have main : codeAny (model prog w) A (.compLoop (two elt (.Name x1 p1) i1 (.Name x2 p2) i2 scope pos) 1 (.ref h₄.objs.size) (.ref s₂.heap.objs.size) (compEnvC scope cl H2.objs.size env))
            (fun r' s₅ => match r' with
              | .ok _ => ∃ k', k' < its.length + 1 - i ∧ ∃ h' tk i ys m' news', s₅ = { s₂ with heap := h', toks := tk } ∧ i ≤ its.length ∧ k' = its.length + 1 - i ∧ ys.length ≤ 8 * i ∧ h'.IsListIter I ax i ∧ Fr h₀ L h' m ∧ h'.Ns H2.objs.size m' ∧ News h₀ L h' ((s₂.heap.objs.size, LCg.lst ys) :: news') ∧
                (∀ p ∈ news, p ∈ news') ∧ (∀ p ∈ news', p.1 ≠ I ∧ p.1 ≠ H2.objs.size ∧ p.1 ≠ s₂.heap.objs.size) ∧ OR prog w A h₀ L m env elt i2 x1 x2 scope cl s₂ Fin (its.drop i) ys news'
              | .error e => cameBackBy (model prog w) A (compEnvC scope cl H2.objs.size env) (NB prog w A (compEnvC scope cl H2.objs.size env) (RR (.ref s₂.heap.objs.size) H2.objs.size)) e s₅) { s₂ with heap := P, toks := tk₄ } := by
          refine inner_U (oI1 := oI) (ys₀ := ys) (c₀ := k2) (B := 8 * i) (news := (X, listOf its2.toArray k2) :: news') hh hkind hx2 h12 h8 hyl (by have : (sizeLine : Nat) = 2 ^ 24 := rfl; omega) (Nat.ne_of_lt (ltz _ (.head _))) hitP (F₄.keeps up) ((hoC.ns zC).at' fun o e => up _ o e) (by simp) (fun p hp => ?_) (.head _) (fun p hp => ?_)
            (Nat.ne_of_lt F₄.ns.lt) (next_is_new F₄) hC₀ hCL ⟨Ne.symm (Nat.ne_of_lt (ltz (I, oI) (.tail _ (.head _)))), Ne.symm (Nat.ne_of_lt (ltz (H2.objs.size, oC) (.tail _ (.tail _ (.head _))))), Ne.symm (Nat.ne_of_lt (ltz (s₂.heap.objs.size, LCg.lst ys) (.tail _ (.tail _ (.tail _ (.head _)))))), hCI, hDI, Ne.symm hDC⟩ ⟨_, _, rfl⟩ R₄ ?_
          · have hp' : p ∈ (X, listOf its2.toArray k2) :: (I, oI) :: (H2.objs.size, oC) :: (s₂.heap.objs.size, LCg.lst ys) :: news' := by
              rcases List.mem_cons.mp hp with rfl | hp
              · exact .tail _ (.head _)
              rcases List.mem_cons.mp hp with rfl | hp
              · exact .tail _ (.tail _ (.tail _ (.head _)))
              rcases List.mem_cons.mp hp with rfl | hp
              · exact .head _
              · exact .tail _ (.tail _ (.tail _ (.tail _ hp)))
            exact ⟨up _ _ (N₄ p hp').1, (N₄ p hp').2⟩
          · rcases List.mem_cons.mp hp with rfl | hp
            · exact ⟨Nat.ne_of_lt (ltz _ (.head _)), nXI, nXC, nXD⟩
            · exact ⟨Nat.ne_of_lt (ltz p (.tail _ (.tail _ (.tail _ (.tail _ hp))))), off' p hp⟩
          · intro h₆ tk₆ m₆ ys₆ news₆ F₆ hn₆ N₆ off₆ sub₆ hy₆ fin₆
            refine ⟨its.length + 1 - (i + 1), meas hlt, h₆, tk₆, i + 1, ys₆, m₆, news₆, rfl, hlt, rfl, by omega, ?_, F₆, hn₆, fun p hp => N₆ p (.tail _ hp), fun p hp => sub₆ _ (.tail _ (hsub p hp)), off₆, fin₆⟩
            obtain ⟨o, e, r⟩ := it₃
            rw [heI] at e; cases e
            exact ⟨_, (N₆ (I, oI) (.head _)).1, r⟩
        have hW2 := Walks.list (prog := prog) (w := w) hh h₄.objs.size X (Nat.ne_of_lt (ltz _ (.head _))) its2.toArray
        exact codeAny_start1 main (hW2.self 0 _ _ _ ⟨hitP, hl4.at fun o e => up X o e⟩ main)
      · obtain rfl : i = its.length := Nat.le_antisymm hi (Nat.not_lt.mp hlt)
        rw [List.drop_length] at R'
        refine W.done _ _ _ (by simpa using And.intro hit hl') fun h₂ tk₂ hk₂ => ?_
        exact hRR _ _ h₂ tk₂ _ ys news' (LCg.fr_but F' hk₂ hIL hI₀) (LCg.news_but N' hk₂ fun p hp => by
          rcases List.mem_cons.mp hp with rfl | hp
          · exact Ne.symm hDI
          · exact (off' p hp).1) (LCg.Off3.of off').one (hn'.at' fun o e => hk₂ _ o (by simpa using Ne.symm hCI) e) hC₀ hD₀ hCL hDL (Ne.symm hDC) (fun p hp => (off' p hp).2.1) R'
    · rcases List.mem_cons.mp hp with rfl | hp
      · exact ⟨hacc, hDL, hD₀⟩
      · exact ⟨old _ _ (N p hp).1, (N p hp).2⟩
  exact codeAny_compStart_list (loop _ rfl) (W.self 0 _ _ _ ⟨hst.at fun o e => old I o e, ⟨_, old _ _ (N _ hax).1, rfl, _, rfl⟩⟩ (loop _ rfl))

def NSrc (prog : Program) (w : World) (A : Around) (h₀ : Heap) (L : Addr) (m : Str → Option Value) (env : Env) (elt i2 : Expr) (x1 x2 : Str) (scope : Scope) (cl : List (Str × Addr)) (Fin : Shared → List Value → List (Addr × Obj) → Prop) (xv : Value) (s₁ : Shared) : Prop :=
  ∃ ax its c news, xv = .ref ax ∧ A.handled = none ∧ Fr h₀ L s₁.heap m ∧ News h₀ L s₁.heap news ∧ (ax, listOf its.toArray c) ∈ news ∧ its.length ≤ 8 ∧
    ∀ s₂ : Shared, (∃ h, s₂ = { s₁ with heap := h }) → OR prog w A h₀ L m env elt i2 x1 x2 scope cl s₂ (Fin s₂) its [] news
theorem NSrc.intro {elt i2 : Expr} {x1 x2 : Str} {scope : Scope} {cl : List (Str × Addr)} {Fin : Shared → List Value → List (Addr × Obj) → Prop} {ax : Addr} {its : List Value} {c : Nat} {news : List (Addr × Obj)} {s₁ : Shared}
    (hh : A.handled = none) (F : Fr h₀ L s₁.heap m) (N : News h₀ L s₁.heap news) (hm : (ax, listOf its.toArray c) ∈ news) (h8 : its.length ≤ 8)
    (h : ∀ g, OR prog w A h₀ L m env elt i2 x1 x2 scope cl { s₁ with heap := g } (Fin { s₁ with heap := g }) its [] news) :
    NSrc prog w A h₀ L m env elt i2 x1 x2 scope cl Fin (.ref ax) s₁ := ⟨ax, its, c, news, rfl, hh, F, N, hm, h8, fun _ ⟨g, e⟩ => e ▸ h g⟩
theorem ListComp_N {elt i1 i2 : Expr} {x1 x2 : Str} {p1 p2 : Pos} {scope : Scope} {cl : List (Str × Addr)} {pos : Pos} {Q : Value → Shared → Prop} (F₀ : Fr h₀ L s.heap m)
    (hclos : closureFor scope env = pure cl) (hcell : ∀ y ∈ scope.names, y.2 ≠ .cell) (hkind : scope.kind = .function)
    (hnames : ∀ y ∈ scope.names, y.2 = .local → scope.names.lookup y.1 = some .local) (hx1 : scope.names.lookup x1 = some .local) (hx2 : scope.names.lookup x2 = some .local) (h12 : x1 ≠ x2)
    (h : wpAny (model prog w) A (eval i1 env) (NSrc prog w A h₀ L m env elt i2 x1 x2 scope cl (fun s₂ => LCg.FinE h₀ L m s₂ Q)) E s)
    (hs : ∀ x, foldedSetIterable i1 env x = pure x := by intro _; rfl) (hs2 : ∀ C x, foldedSetIterable i2 (compEnvC scope cl C env) x = pure x := by intro _ _; rfl) :
    wpAny (model prog w) A (eval (two elt (.Name x1 p1) i1 (.Name x2 p2) i2 scope pos) env) Q E s := by
  rw [eval_ListComp]
  refine wpAny_comprehension_free (use := none) rfl hs hclos hkind hnames (wpAny_mono h (fun xv s₁ h₁ => ?_) fun _ _ e => e)
  obtain ⟨ax, its, c, news, rfl, hh, F, N, hm, h8, R⟩ := h₁
  have hl : s₁.heap.IsList ax its.toArray := ⟨_, (N _ hm).1, rfl, _, rfl⟩
  have hlt : ax < s₁.heap.objs.size := Heap.lt_size (N _ hm).1
  refine wpAny_pyIter_list hl ?_
  have up : ∀ b o, s₁.heap.get? b = some o → (s₁.heap.push { cls := .type "list_iterator", data := .fields #[.ref ax, .int 0 0] }).get? b = some o := fun b o e => Heap.get?_push_of_some _ e
  refine nest_block hh hcell hkind hx1 hx2 h12 h8 (Nat.ne_of_lt hlt) ⟨_, Heap.get?_push_size _ rfl, rfl, rfl⟩ (F.keeps up) (N.grown up) hm (Nat.ne_of_lt F.ns.lt) (next_is_new F) (fun p hp => Nat.ne_of_lt (Heap.lt_size (N p hp).1)) (R _ ⟨_, rfl⟩) ?_ (hs2 _)
  intro D C h tk m' ys news' F' N' o1 hn hC₀ hD₀ hCL hDL hCD offC fin
  refine ⟨m', hn, fun h'' hs'' => fin D h'' tk (F'.change hs'' hCL hC₀) (fun p hp => ?_) o1⟩
  refine ⟨hs''.extBut _ _ ?_ (N' p hp).1, (N' p hp).2⟩
  rcases List.mem_cons.mp hp with rfl | hp
  · exact Ne.symm hCD
  · exact offC p hp

theorem Assign_ListComp_N {elt i1 i2 : Expr} {x1 x2 y : Str} {p1 p2 py : Pos} {scope : Scope} {cl : List (Str × Addr)} {pos spos : Pos} {Q : Flow → Shared → Prop} (F₀ : Fr h₀ L s.heap m) (hLe : env.locals = L)
    (hsw : swapsWith (two elt (.Name x1 p1) i1 (.Name x2 p2) i2 scope pos) (some (.Name y py)) spos.line env = pure true)
    (hclos : closureFor scope env = pure cl) (hcell : ∀ z ∈ scope.names, z.2 ≠ .cell) (hkind : scope.kind = .function)
    (hnames : ∀ z ∈ scope.names, z.2 = .local → scope.names.lookup z.1 = some .local) (hx1 : scope.names.lookup x1 = some .local) (hx2 : scope.names.lookup x2 = some .local) (h12 : x1 ≠ x2)
    (hy : env.kindOf y = some .local) (hp : (env.scope.kind == .class || (env.scope.kind == .module && env.locals != env.globals)) = false)
    (h : wpAny (model prog w) A (eval i1 env) (NSrc prog w A h₀ L m env elt i2 x1 x2 scope cl (fun s₂ => LCg.FinA h₀ L m s₂ y Q)) E s)
    (hs : ∀ x, foldedSetIterable i1 env x = pure x := by intro _; rfl) (hs2 : ∀ C x, foldedSetIterable i2 (compEnvC scope cl C env) x = pure x := by intro _ _; rfl) :
    wpAny (model prog w) A (exec (.Assign [.Name y py] (two elt (.Name x1 p1) i1 (.Name x2 p2) i2 scope pos) spos) env) Q E s := by
  subst hLe
  rw [exec_Assign_Name_used _ _ _ _ hsw]
  refine wpAny_bind (wpAny_standAt (wpAny_bind ?_))
  show wpAny _ A (do let _ ← comprehension (two elt (.Name x1 p1) i1 (.Name x2 p2) i2 scope pos) scope env _ (newList []) false (eval i1 env) (some (assign (.Name y py) env))) _ _ s
  refine wpAny_bind (wpAny_mono (wpAny_comprehension_free (use := some (assign (.Name y py) env)) (Q := fun _ s' => Q .next s') rfl hs hclos hkind hnames
    (wpAny_mono h (fun xv s₁ h₁ => ?_) fun _ _ e => e)) (fun _ s' hq => wpAny_pure (wpAny_pure hq)) fun _ _ e => e)
  obtain ⟨ax, its, c, news, rfl, hh, F, N, hm, h8, R⟩ := h₁
  have hl : s₁.heap.IsList ax its.toArray := ⟨_, (N _ hm).1, rfl, _, rfl⟩
  have hlt : ax < s₁.heap.objs.size := Heap.lt_size (N _ hm).1
  refine wpAny_pyIter_list hl ?_
  have up : ∀ b o, s₁.heap.get? b = some o → (s₁.heap.push { cls := .type "list_iterator", data := .fields #[.ref ax, .int 0 0] }).get? b = some o := fun b o e => Heap.get?_push_of_some _ e
  refine nest_block hh hcell hkind hx1 hx2 h12 h8 (Nat.ne_of_lt hlt) ⟨_, Heap.get?_push_size _ rfl, rfl, rfl⟩ (F.keeps up) (N.grown up) hm (Nat.ne_of_lt F.ns.lt) (next_is_new F) (fun p hp => Nat.ne_of_lt (Heap.lt_size (N p hp).1)) (R _ ⟨_, rfl⟩) ?_ (hs2 _)
  intro D C h' tk m' ys news' F' N' o1 hn hC₀ hD₀ hCL hDL hCD offC fin
  show wpAny _ A (assign (.Name y py) env (.ref D)) _ _ _
  refine wpAny_assign_Name (wpAny_storeName_local hy F'.ns (fun h₂ hn₂ hs₂ => ?_) hp)
  have hL₀ : h₀.get? env.locals = none := Heap.get?_none_of_le F'.above
  have F₂ : Fr h₀ env.locals h₂ (fun z => if z = y then some (.ref D) else m z) := ⟨hn₂, fun b o e => hs₂.extBut b o (fun q => by rw [q, hL₀] at e; cases e) (F'.keep b o e), F'.above⟩
  refine ⟨m', hn.sameBut hs₂ hCL, fun h'' hs'' => fin D h'' _ (F₂.change hs'' hCL hC₀) (fun p hp => ?_) o1⟩
  have z : h₂.get? p.1 = some p.2 := hs₂.extBut _ _ (N' p hp).2.1 (N' p hp).1
  refine ⟨hs''.extBut _ _ ?_ z, (N' p hp).2⟩
  rcases List.mem_cons.mp hp with rfl | hp
  · exact Ne.symm hCD
  · exact offC p hp
variable {elt i2 : Expr} {x1 x2 : Str} {v1 v2 : Value} {scope : Scope} {cl : List (Str × Addr)} {Fin : List Value → List (Addr × Obj) → Prop} {r ys : List Value} {news : List (Addr × Obj)}
theorem NR.nil (h : Fin ys news) : NR prog w A h₀ L m env elt x1 x2 v1 scope cl s Fin [] ys news := h
theorem NR.cons (h : ∀ I2 oI2 I1 oI1 C oC D m₂ h tk (E' : Value → Shared → Prop), LCg.NsObj oC m₂ → m₂ x1 = some v1 → m₂ x2 = some v2 → Fr h₀ L h m → News h₀ L h ((I2, oI2) :: (I1, oI1) :: (C, oC) :: (D, LCg.lst ys) :: news) → Off4 I2 I1 C D news →
      ((@Ne Nat I2 I1) ∧ (@Ne Nat I2 C) ∧ (@Ne Nat I2 D) ∧ (@Ne Nat I1 C) ∧ (@Ne Nat I1 D) ∧ (@Ne Nat C D)) →
      wpAny (model prog w) A (eval elt (compEnvC scope cl C env)) (NEnd h₀ L m { s with heap := h, toks := tk } I2 oI2 I1 oI1 C oC D (LCg.lst ys) news (fun y X oX => NR prog w A h₀ L m env elt x1 x2 v1 scope cl s Fin r (ys ++ [y]) ((X, oX) :: news))) E' { s with heap := h, toks := tk }) :
    NR prog w A h₀ L m env elt x1 x2 v1 scope cl s Fin (v2 :: r) ys news := h
theorem OR.nil (h : Fin ys news) : OR prog w A h₀ L m env elt i2 x1 x2 scope cl s Fin [] ys news := h
theorem OR.cons (h : ∀ I1 oI1 C oC D m₂ h tk (E' : Value → Shared → Prop), LCg.NsObj oC m₂ → m₂ x1 = some v1 → Fr h₀ L h m → News h₀ L h ((I1, oI1) :: (C, oC) :: (D, LCg.lst ys) :: news) → LCg.Off3 I1 C D news → ((@Ne Nat I1 C) ∧ (@Ne Nat I1 D) ∧ (@Ne Nat C D)) →
      wpAny (model prog w) A (eval i2 (compEnvC scope cl C env)) (IEnd h₀ L m { s with heap := h, toks := tk } I1 oI1 C oC D (LCg.lst ys) news (fun X its k => NR prog w A h₀ L m env elt x1 x2 v1 scope cl s (OR prog w A h₀ L m env elt i2 x1 x2 scope cl s Fin r) its ys ((X, listOf its.toArray k) :: news))) E' { s with heap := h, toks := tk }) :
    OR prog w A h₀ L m env elt i2 x1 x2 scope cl s Fin (v1 :: r) ys news := h
end
end

-- Calls
section
/-- a row of two strs, as it lies -/
structure Row2 where
  a : Addr
  k : Str
  x : Str
  t : Tok
  u : Tok
  c : Nat
def Row2.obj (r : Row2) : Obj := listOf [.str r.k r.t, .str r.x r.u].toArray r.c
def Row2.dat (r : Row2) : PyData := .list [.str r.k, .str r.x]
def TurnEnd (h₀ : Heap) (L : Addr) (m : Str → Option Value) (L1 : Addr) (o1 : Obj) (h : Heap) (s₁ : Shared) (k x : Str) (y : Value) (s₂ : Shared) : Prop :=
  ∃ h' tk sl X zn t1 t2, y = .ref X ∧ s₂ = { s₁ with heap := h', toks := tk } ∧ Fr h₀ L h' m ∧ (∀ b o, h.get? b = some o → b ≠ L → b ≠ L1 → h'.get? b = some o) ∧ h'.get? L1 = some { o1 with slots := sl } ∧ h.get? X = none ∧ h'.get? X = some (listOf [.str k t1, .str x t2].toArray zn)
section
variable {w : World} {A : Around} {s : Shared} {h₀ : Heap} {mean : ExcName → Option Value} {mg mb : Str → Option Value} {env env1 : Env}
  {f : Addr} {args : List Value} {L L1 : Addr} {o1 : Obj} {es : Array DictEntry} {n : Nat} {m : Str → Option Value} {news : List (Addr × Obj)} {d u : Nat} {Q E : Value → Shared → Prop} {k x : Str}
/-- the call in a turn -/
theorem call_turn {dp un : Nat} {gd : Option (List Code)} {s₁ : Shared} (S : SpecX w mean mg mb f d u args (fun _ => True) (fun hh h' v => ∃ D zn t1 t2, v = .ref D ∧ h'.get? D = some (listOf [.str k t1, .str x t2].toArray zn) ∧ hh.get? D = none)) (F : Fr h₀ L s.heap m) (X : Frag.In (Mine.hd.heap_39 w.params) h₀) (T : Top Mine.hd.view_39 (looseW Mine.hd.view_39 []) mean mg mb h₀)
    (e1 : s.heap.get? L1 = some o1) (e1' : h₀.get? L1 = none) (hd1 : o1.data = .dict es n)
    (hA : A = topA dp un gd [env, env1]) (hf : env.frame = some L) (hke : env.scope.kind = .function) (hf1 : env1.frame = some L1) (hke1 : env1.scope.kind = .function) (hd : dp + d < recursionLimit) (hu : un + u < cLine) (hs1 : ∃ h tk, s = { s₁ with heap := h, toks := tk }) :
    wpAny (model PySem.Challenge.pw_yf0007_01 w) A (call (.ref f) args) (TurnEnd h₀ L m L1 o1 s.heap s₁ k x) E s := by
  subst hA
  refine wpAny_call ?_
  obtain ⟨oL, esL, epL, hoL, hdL, hsL⟩ := F.ns
  have hL0 : h₀.get? L = none := kts_self F
  have fsm : ∀ b, b ∈ [env, env1].filterMap (·.frame) → b = L ∨ b = L1 := fun b hb => by
    simp only [List.filterMap_cons, hf, hf1, List.filterMap_nil, List.mem_cons, List.not_mem_nil, or_false] at hb
    exact hb
  have B : Below (topA dp un gd [env, env1]) h₀ [env, env1] s.heap :=
    ⟨rfl, F.keep, ⟨by rw [hke]; decide, ⟨L, oL, hf, hL0, hoL, fun vs q => by rw [hdL] at q; cases q⟩, by rw [hke1]; decide, ⟨L1, o1, hf1, e1', e1, fun vs q => by rw [hd1] at q; cases q⟩, trivial⟩⟩
  refine S dp un gd [env, env1] h₀ s _ B (X.keeps F.keep) (T.keeps F.keep) X T (fun b hb => ?_) hd hu trivial fun v h' tk' g' KT hk hpost => ?_
  · rcases fsm b hb with rfl | rfl
    · exact ⟨oL, esL, epL, hoL, hdL⟩
    · exact ⟨o1, es, n, e1, hd1⟩
  have other : ∀ b o, s.heap.get? b = some o → b ≠ L → b ≠ L1 → h'.get? b = some o := fun b o e n1 n2 => hk _ _ (KT.other b o e fun hb => (fsm b hb).elim n1 n2)
  obtain ⟨sl, hsl⟩ := KT.up e1
  obtain ⟨slL, hslL⟩ := KT.up hoL
  obtain ⟨D, zn, t1, t2, rfl, hD, hn⟩ := hpost
  obtain ⟨hh, ttk, rfl⟩ := hs1
  exact ⟨h', tk', sl, D, zn, t1, t2, rfl, rfl, ⟨⟨_, esL, epL, hk _ _ hslL, hdL, hsL⟩, fun b o e => other _ _ (F.keep _ _ e) (fun q => by rw [q, hL0] at e; cases e) (fun q => by rw [q, e1'] at e; cases e), F.above⟩, other, hk _ _ hsl, hn, hD⟩
end
theorem off1_mem {D : Addr} : ∀ {l : List (Addr × Obj)}, LCg.Off1 D l → ∀ p ∈ l, p.1 ≠ D
  | [], _, _, h => nomatch h
  | _ :: _, x, p, h => by
    rcases List.mem_cons.mp h with rfl | h
    · exact x.1
    · exact off1_mem x.2 p h
section
variable {prog : Program} {w : World} {A : Around} {h₀ : Heap} {L : Addr} {m : Str → Option Value} {env : Env} {elt : Expr} {x1 : Str} {scope : Scope} {cl : List (Str × Addr)} {s : Shared} {ax L1 : Addr} {o1 : Obj} {its : Array Value} {news0 : List (Addr × Obj)} {Fin : List Value → List (Addr × Obj) → Prop}
/-- what the turn is asked -/
def TurnOk (prog : Program) (w : World) (A : Around) (h₀ : Heap) (L : Addr) (m : Str → Option Value) (env : Env) (elt : Expr) (x1 : Str) (scope : Scope) (cl : List (Str × Addr)) (s : Shared) (L1 : Addr) (o1 : Obj) (r : Row2) : Prop :=
  ∀ (C : Addr) (oC : Obj) (m₂ : Str → Option Value) (h : Heap) (tk : Nat) (sl : Array (Option Value)) (E' : Value → Shared → Prop), LCg.NsObj oC m₂ → m₂ x1 = some (.ref r.a) → Fr h₀ L h m →
    News h₀ L h [(C, oC), (L1, { o1 with slots := sl }), (r.a, r.obj)] → ((@Ne Nat C L1) ∧ (@Ne Nat C r.a) ∧ (@Ne Nat L1 r.a)) →
    wpAny (model prog w) A (eval elt (compEnvC scope cl C env)) (TurnEnd h₀ L m L1 { o1 with slots := sl } h { s with heap := h, toks := tk } r.k r.x) E' { s with heap := h, toks := tk }
theorem calls_rest {P : Nat → Value → Prop} (hP : ∀ i v, P i v → its[i]? = some v) (rows : List Row2) (hits : its.toList = rows.map (fun r => Value.ref r.a)) (hrow : ∀ r ∈ rows, (r.a, r.obj) ∈ news0)
    (hax : ∃ c, (ax, ({ cls := .type "list", data := .seq its c } : Obj)) ∈ news0) (hL1 : ∀ p ∈ news0, p.1 ≠ L1)
    (turn : ∀ r ∈ rows, TurnOk prog w A h₀ L m env elt x1 scope cl s L1 o1 r)
    (fin : ∀ (rs : List Row2) (res : List (Addr × Obj)) (sl : Array (Option Value)), rs.map Row2.dat = rows.map Row2.dat → (∀ r ∈ rs, (r.a, r.obj) ∈ res) → Fin (rs.map (fun r => Value.ref r.a)) (res ++ (L1, { o1 with slots := sl }) :: news0)) :
    ∀ (j i : Nat) (rs : List Row2) (res : List (Addr × Obj)) (sl : Array (Option Value)), i + j = rows.length → rs.map Row2.dat = (rows.take i).map Row2.dat → (∀ r ∈ rs, (r.a, r.obj) ∈ res) → (∀ p ∈ res, p.1 ≠ L1) →
      LCg.CompRest prog w A h₀ L m env elt x1 scope cl s (LCg.SrcAt h₀ ax its) P Fin j i (rs.map (fun r => Value.ref r.a)) (res ++ (L1, { o1 with slots := sl }) :: news0) := by
  intro j
  induction j with
  | zero =>
    intro i rs res sl hi hrs hres _
    have e : i = rows.length := by omega
    subst e
    rw [List.take_length] at hrs
    exact LCg.CompRest.zero (fin rs res sl hrs hres)
  | succ j ih =>
    intro i rs res sl hi hrs hres hne
    refine LCg.CompRest.succ ?_
    intro v I oI C oC D m₂ h tk E' hv hC hx F N off ne
    have hlt : i < rows.length := by omega
    have hv' : v = .ref rows[i].a := by
      have h1 := hP i v hv
      have h2 : its.toList[i]? = some v := by rw [← h1]; simp
      rw [hits, List.getElem?_map, List.getElem?_eq_getElem hlt] at h2
      exact (Option.some.inj h2).symm
    have hmr : rows[i] ∈ rows := List.getElem_mem hlt
    rw [hv'] at hx
    have off' := off.mem
    have mL1 : (L1, ({ o1 with slots := sl } : Obj)) ∈ res ++ (L1, { o1 with slots := sl }) :: news0 := List.mem_append_right _ (.head _)
    have mr : (rows[i].a, rows[i].obj) ∈ res ++ (L1, { o1 with slots := sl }) :: news0 := List.mem_append_right _ (.tail _ (hrow _ hmr))
    have nI : (I, oI) ∈ (I, oI) :: (C, oC) :: (D, LCg.lst (rs.map (fun r => Value.ref r.a))) :: (res ++ (L1, { o1 with slots := sl }) :: news0) := .head _
    have nC : (C, oC) ∈ (I, oI) :: (C, oC) :: (D, LCg.lst (rs.map (fun r => Value.ref r.a))) :: (res ++ (L1, { o1 with slots := sl }) :: news0) := .tail _ (.head _)
    have nD : (D, LCg.lst (rs.map (fun r => Value.ref r.a))) ∈ (I, oI) :: (C, oC) :: (D, LCg.lst (rs.map (fun r => Value.ref r.a))) :: (res ++ (L1, { o1 with slots := sl }) :: news0) := .tail _ (.tail _ (.head _))
    refine wpAny_mono (turn rows[i] hmr C oC m₂ h tk sl E' hC hx F (fun p hp => ?_) ⟨Ne.symm (off' _ mL1).2.1, Ne.symm (off' _ mr).2.1, Ne.symm (hL1 _ (hrow _ hmr))⟩) (fun y s₂ hy => ?_) fun _ _ e => e
    · rcases List.mem_cons.mp hp with rfl | hp
      · exact N _ nC
      rcases List.mem_cons.mp hp with rfl | hp
      · exact N _ (.tail _ (.tail _ (.tail _ mL1)))
      · rw [List.mem_singleton.mp hp]
        exact N _ (.tail _ (.tail _ (.tail _ mr)))
    · obtain ⟨h', tk', sl', X, zn, t1, t2, rfl, rfl, F', other, hL1', hX0, hX⟩ := hy
      have keep : ∀ p : Addr × Obj, h.get? p.1 = some p.2 ∧ p.1 ≠ L ∧ h₀.get? p.1 = none → p.1 ≠ L1 → h'.get? p.1 = some p.2 ∧ p.1 ≠ L ∧ h₀.get? p.1 = none := fun p z n1 => ⟨other _ _ z.1 z.2.1 n1, z.2⟩
      have xne : ∀ {b : Addr} {o : Obj}, h.get? b = some o → X ≠ b := fun e q => by rw [q, e] at hX0; cases hX0
      have zL1 := (N _ (.tail _ (.tail _ (.tail _ mL1))))
      have hXL1 : X ≠ L1 := xne zL1.1
      obtain ⟨oL, _, _, hoL, _⟩ := F.ns
      have hX₀ : h₀.get? X = none := by
        cases q : h₀.get? X with
        | none => rfl
        | some o => rw [F.keep _ _ q] at hX0; cases hX0
      let r' : Row2 := ⟨X, rows[i].k, rows[i].x, t1, t2, zn⟩
      have ey : rs.map (fun r => Value.ref r.a) ++ [Value.ref X] = (rs ++ [r']).map (fun r => Value.ref r.a) := by simp [r']
      refine ⟨h', tk', ((X, r'.obj) :: res) ++ (L1, { o1 with slots := sl' }) :: news0, rfl, F', fun p hp => ?_, LCg.Off3.of fun p hp => ?_, ?_, ?_⟩
      · rcases List.mem_cons.mp hp with rfl | hp
        · exact keep _ (N _ nI) (fun e => (off' _ mL1).1 e.symm)
        rcases List.mem_cons.mp hp with rfl | hp
        · exact keep _ (N _ nC) (fun e => (off' _ mL1).2.1 e.symm)
        rcases List.mem_cons.mp hp with rfl | hp
        · exact keep _ (N _ nD) (fun e => (off' _ mL1).2.2 e.symm)
        rcases List.mem_append.mp hp with hp | hp
        · rcases List.mem_cons.mp hp with rfl | hp
          · exact ⟨hX, xne hoL, hX₀⟩
          · exact keep _ (N p (.tail _ (.tail _ (.tail _ (List.mem_append_left _ hp))))) (hne p hp)
        · rcases List.mem_cons.mp hp with rfl | hp
          · exact ⟨hL1', zL1.2⟩
          · exact keep _ (N p (.tail _ (.tail _ (.tail _ (List.mem_append_right _ (.tail _ hp)))))) (hL1 p hp)
      · rcases List.mem_append.mp hp with hp | hp
        · rcases List.mem_cons.mp hp with rfl | hp
          · exact ⟨xne (N _ nI).1, xne (N _ nC).1, xne (N _ nD).1⟩
          · exact off' p (List.mem_append_left _ hp)
        · rcases List.mem_cons.mp hp with rfl | hp
          · exact (show L1 ≠ I ∧ L1 ≠ C ∧ L1 ≠ D from off' _ mL1)
          · exact off' p (List.mem_append_right _ (.tail _ hp))
      · obtain ⟨c, hc⟩ := hax
        exact .inr ⟨_, List.mem_append_right _ (.tail _ hc), rfl, c, rfl⟩
      · show LCg.CompRest prog w A h₀ L m env elt x1 scope cl s (LCg.SrcAt h₀ ax its) P Fin j (i + 1) (rs.map (fun r => Value.ref r.a) ++ [Value.ref X]) (((X, r'.obj) :: res) ++ (L1, { o1 with slots := sl' }) :: news0)
        rw [ey]
        refine ih (i + 1) (rs ++ [r']) ((X, r'.obj) :: res) sl' (by omega) ?_ ?_ ?_
        · rw [List.map_append, hrs, List.take_add_one, List.getElem?_eq_getElem hlt, Option.toList_some, List.map_append]
          rfl
        · intro r hr
          rcases List.mem_append.mp hr with hr | hr
          · exact .tail _ (hres r hr)
          · rw [List.mem_singleton.mp hr]; exact .head _
        · intro p hp
          rcases List.mem_cons.mp hp with rfl | hp
          · exact hXL1
          · exact hne p hp
theorem reads_rows {h : Heap} : ∀ {rs : List Row2}, (∀ r ∈ rs, h.get? r.a = some r.obj) → ∃ as, ReadsAll h (rs.map (fun r => Value.ref r.a)) (rs.map Row2.dat) as
  | [], _ => ⟨_, ReadsAll.nil⟩
  | r :: rs, hr => by
    obtain ⟨as, q⟩ := reads_rows (rs := rs) fun r' hr' => hr r' (.tail _ hr')
    exact ⟨_, ReadsAll.cons (reads_list_at (hr r (.head _)) rfl rfl (ReadsAll.cons (Reads.str _ _) (ReadsAll.cons (Reads.str _ _) ReadsAll.nil))) q⟩
/-- a list comp whose turns call a def that may catch, over rows that lie -/
theorem comp_calls {s₁ : Shared} {Q : Value → Shared → Prop} {lit : List (Addr × Obj)} (rows : List Row2) {c : Nat} (hh : A.handled = none) (F : Fr h₀ L s₁.heap m) (N : News h₀ L s₁.heap lit) (hits : its.toList = rows.map (fun r => Value.ref r.a)) (hsz : its.size ≤ sizeLine)
    (hm1 : (L1, o1) ∈ lit) (hrow : ∀ r ∈ rows, (r.a, r.obj) ∈ news0) (hax : (ax, ({ cls := .type "list", data := .seq its c } : Obj)) ∈ news0) (hsub : ∀ p ∈ news0, p ∈ lit) (hL1 : ∀ p ∈ news0, p.1 ≠ L1)
    (turn : ∀ (s₂ : Shared), (∃ g, s₂ = { s₁ with heap := g }) → ∀ r ∈ rows, TurnOk prog w A h₀ L m env elt x1 scope cl s₂ L1 o1 r)
    (fin : ∀ D ys as h tk sl, Fr h₀ L h m → News h₀ L h ((D, LCg.lst ys) :: (L1, { o1 with slots := sl }) :: news0) → ReadsAll h ys (rows.map Row2.dat) as → LCg.Off1 D ((L1, { o1 with slots := sl }) :: news0) → Q (.ref D) { s₁ with heap := h, toks := tk }) :
    LCg.CompSrc prog w A h₀ L m env elt x1 scope cl (fun s₂ => LCg.FinE h₀ L m s₂ Q) (.ref ax) s₁ := by
  refine .inl ⟨ax, its, (L1, { o1 with slots := o1.slots }) :: news0, rfl, hh, F, fun p hp => ?_, .inr ⟨_, .tail _ hax, rfl, c, rfl⟩, hsz, fun s₂ hs₂ => ?_⟩
  · rcases List.mem_cons.mp hp with rfl | hp
    · exact N _ hm1
    · exact N p (hsub p hp)
  · obtain ⟨g, rfl⟩ := hs₂
    have hlen : its.size = rows.length := by have := congrArg List.length hits; simpa using this
    have := calls_rest (Fin := LCg.FinE h₀ L m { s₁ with heap := g } Q) (P := fun i v => its[i]? = some v) (fun _ _ h => h) rows hits hrow ⟨c, hax⟩ hL1 (turn _ ⟨g, rfl⟩) (fun rs res sl hrs hres D h tk F' N' o' => ?_) its.size 0 [] [] o1.slots (by omega) rfl (fun _ h => nomatch h) (fun _ h => nomatch h)
    · exact this
    · obtain ⟨as, q⟩ := reads_rows (h := h) (rs := rs) fun r hr => (N' _ (.tail _ (List.mem_append_left _ (hres r hr)))).1
      rw [hrs] at q
      refine fin D _ as h tk sl F' (fun p hp => ?_) q (off1_of fun p hp => ?_)
      · rcases List.mem_cons.mp hp with rfl | hp
        · exact N' _ (.head _)
        · exact N' p (.tail _ (List.mem_append_right _ hp))
      · have hmem : p ∈ res ++ (L1, ({ o1 with slots := sl } : Obj)) :: news0 := List.mem_append_right _ hp
        exact off1_mem o' p hmem
theorem comp_callsAt {s₁ : Shared} {Q : Value → Shared → Prop} {lit : List (Addr × Obj)} (pos : Nat) (rows : List Row2) {c : Nat} (hh : A.handled = none) (F : Fr h₀ L s₁.heap m) (N : News h₀ L s₁.heap lit)
    (hm1 : (L1, o1) ∈ lit) (hax : (ax, ({ cls := .type "list", data := .seq its c } : Obj)) ∈ lit.take pos ++ lit.drop (pos + 1)) (hits : its.toList = rows.map (fun r => Value.ref r.a)) (hsz : its.size ≤ sizeLine) (hrow : ∀ r ∈ rows, (r.a, r.obj) ∈ lit.take pos ++ lit.drop (pos + 1)) (hL1 : ∀ p ∈ lit.take pos ++ lit.drop (pos + 1), p.1 ≠ L1)
    (turn : ∀ (s₂ : Shared), (∃ g, s₂ = { s₁ with heap := g }) → ∀ r ∈ rows, TurnOk prog w A h₀ L m env elt x1 scope cl s₂ L1 o1 r)
    (fin : ∀ D ys as h tk sl, Fr h₀ L h m → News h₀ L h ((D, LCg.lst ys) :: (L1, { o1 with slots := sl }) :: (lit.take pos ++ lit.drop (pos + 1))) → ReadsAll h ys (rows.map Row2.dat) as → LCg.Off1 D ((L1, { o1 with slots := sl }) :: (lit.take pos ++ lit.drop (pos + 1))) → Q (.ref D) { s₁ with heap := h, toks := tk }) :
    LCg.CompSrc prog w A h₀ L m env elt x1 scope cl (fun s₂ => LCg.FinE h₀ L m s₂ Q) (.ref ax) s₁ :=
  comp_calls rows hh F N hits hsz hm1 hrow hax (fun p hp => (List.mem_append.mp hp).elim List.mem_of_mem_take List.mem_of_mem_drop) hL1 turn fin
end
theorem strOk_app (a b : Str) : PyData.strOk (a ++ b) = (PyData.strOk a && PyData.strOk b) := by
  show (a.cps ++ b.cps).all _ = _
  simp [PyData.strOk]
theorem strOk_one {c : Nat} (h : c ≤ 1114111) : PyData.strOk ⟨#[c]⟩ = true := by
  simp [PyData.strOk]; omega
theorem shaped_two {l : List PyData} (h : ∀ d ∈ l, PyData.canLay0 d = true ∧ PyData.depth d ≤ 2) : SeqAt.shaped (.list l) = true := by
  have key : PyData.canLayAll0 l = true ∧ PyData.depthAll l ≤ 2 := by
    induction l with
    | nil => simp [PyData.canLayAll0, PyData.depthAll]
    | cons d ds ih =>
      have h1 := h d (.head _)
      have h2 := ih fun e he => h e (.tail _ he)
      simp only [PyData.canLayAll0, PyData.depthAll, h1.1, h2.1, Bool.and_self, true_and]
      have a1 := h1.2
      have a2 := h2.2
      omega
  unfold SeqAt.shaped
  simp only [PyData.canLay0, PyData.depth, key.1, Bool.true_and]
  exact decide_eq_true (by have := key.2; omega)
theorem lay_row {a b : Str} (ha : PyData.strOk a = true) (hb : PyData.strOk b = true) : PyData.canLay0 (.list [.str a, .str b]) = true ∧ PyData.depth (.list [.str a, .str b]) ≤ 2 := by
  simp [PyData.canLay0, PyData.canLayAll0, PyData.depth, PyData.depthAll, ha, hb]
end

-- Calls2
section
/-- what a turn takes, the objects it stands on, and the row that it gives -/
structure Src where
  v : Value
  objs : List (Addr × Obj)
  k : Str
  x : Str
def Src.dat (r : Src) : PyData := .list [.str r.k, .str r.x]
section
variable {prog : Program} {w : World} {A : Around} {h₀ : Heap} {L : Addr} {m : Str → Option Value} {env : Env} {elt : Expr} {x1 : Str} {scope : Scope} {cl : List (Str × Addr)} {s : Shared} {ax L1 : Addr} {o1 : Obj} {its : Array Value} {news0 : List (Addr × Obj)} {Fin : List Value → List (Addr × Obj) → Prop}
/-- what the turn is asked -/
def TurnOk2 (prog : Program) (w : World) (A : Around) (h₀ : Heap) (L : Addr) (m : Str → Option Value) (env : Env) (elt : Expr) (x1 : Str) (scope : Scope) (cl : List (Str × Addr)) (s : Shared) (L1 : Addr) (o1 : Obj) (r : Src) : Prop :=
  ∀ (C : Addr) (oC : Obj) (m₂ : Str → Option Value) (h : Heap) (tk : Nat) (sl : Array (Option Value)) (E' : Value → Shared → Prop), LCg.NsObj oC m₂ → m₂ x1 = some r.v → Fr h₀ L h m →
    News h₀ L h ((C, oC) :: (L1, { o1 with slots := sl }) :: r.objs) →
    wpAny (model prog w) A (eval elt (compEnvC scope cl C env)) (TurnEnd h₀ L m L1 { o1 with slots := sl } h { s with heap := h, toks := tk } r.k r.x) E' { s with heap := h, toks := tk }
theorem calls_rest2 {P : Nat → Value → Prop} (hP : ∀ i v, P i v → its[i]? = some v) (rows : List Src) (hits : its.toList = rows.map (fun r => r.v)) (hrow : ∀ r ∈ rows, ∀ p ∈ r.objs, p ∈ news0)
    (hax : ∃ c, (ax, ({ cls := .type "list", data := .seq its c } : Obj)) ∈ news0) (hL1 : ∀ p ∈ news0, p.1 ≠ L1)
    (turn : ∀ r ∈ rows, TurnOk2 prog w A h₀ L m env elt x1 scope cl s L1 o1 r)
    (fin : ∀ (rs : List Row2) (res : List (Addr × Obj)) (sl : Array (Option Value)), rs.map Row2.dat = rows.map Src.dat → (∀ r ∈ rs, (r.a, r.obj) ∈ res) → Fin (rs.map (fun r => Value.ref r.a)) (res ++ (L1, { o1 with slots := sl }) :: news0)) :
    ∀ (j i : Nat) (rs : List Row2) (res : List (Addr × Obj)) (sl : Array (Option Value)), i + j = rows.length → rs.map Row2.dat = (rows.take i).map Src.dat → (∀ r ∈ rs, (r.a, r.obj) ∈ res) → (∀ p ∈ res, p.1 ≠ L1) →
      LCg.CompRest prog w A h₀ L m env elt x1 scope cl s (LCg.SrcAt h₀ ax its) P Fin j i (rs.map (fun r => Value.ref r.a)) (res ++ (L1, { o1 with slots := sl }) :: news0) := by
  intro j
  induction j with
  | zero =>
    intro i rs res sl hi hrs hres _
    have e : i = rows.length := by omega
    subst e
    rw [List.take_length] at hrs
    exact LCg.CompRest.zero (fin rs res sl hrs hres)
  | succ j ih =>
    intro i rs res sl hi hrs hres hne
    refine LCg.CompRest.succ ?_
    intro v I oI C oC D m₂ h tk E' hv hC hx F N off ne
    have hlt : i < rows.length := by omega
    have hv' : v = rows[i].v := by
      have h1 := hP i v hv
      have h2 : its.toList[i]? = some v := by rw [← h1]; simp
      rw [hits, List.getElem?_map, List.getElem?_eq_getElem hlt] at h2
      exact (Option.some.inj h2).symm
    have hmr : rows[i] ∈ rows := List.getElem_mem hlt
    rw [hv'] at hx
    have off' := off.mem
    have mL1 : (L1, ({ o1 with slots := sl } : Obj)) ∈ res ++ (L1, { o1 with slots := sl }) :: news0 := List.mem_append_right _ (.head _)
    have mr : ∀ p ∈ rows[i].objs, p ∈ res ++ (L1, ({ o1 with slots := sl } : Obj)) :: news0 := fun p hp => List.mem_append_right _ (.tail _ (hrow _ hmr p hp))
    have nI : (I, oI) ∈ (I, oI) :: (C, oC) :: (D, LCg.lst (rs.map (fun r => Value.ref r.a))) :: (res ++ (L1, { o1 with slots := sl }) :: news0) := .head _
    have nC : (C, oC) ∈ (I, oI) :: (C, oC) :: (D, LCg.lst (rs.map (fun r => Value.ref r.a))) :: (res ++ (L1, { o1 with slots := sl }) :: news0) := .tail _ (.head _)
    have nD : (D, LCg.lst (rs.map (fun r => Value.ref r.a))) ∈ (I, oI) :: (C, oC) :: (D, LCg.lst (rs.map (fun r => Value.ref r.a))) :: (res ++ (L1, { o1 with slots := sl }) :: news0) := .tail _ (.tail _ (.head _))
    refine wpAny_mono (turn rows[i] hmr C oC m₂ h tk sl E' hC hx F (fun p hp => ?_)) (fun y s₂ hy => ?_) fun _ _ e => e
    · rcases List.mem_cons.mp hp with rfl | hp
      · exact N _ nC
      rcases List.mem_cons.mp hp with rfl | hp
      · exact N _ (.tail _ (.tail _ (.tail _ mL1)))
      · exact N _ (.tail _ (.tail _ (.tail _ (mr p hp))))
    · obtain ⟨h', tk', sl', X, zn, t1, t2, rfl, rfl, F', other, hL1', hX0, hX⟩ := hy
      have keep : ∀ p : Addr × Obj, h.get? p.1 = some p.2 ∧ p.1 ≠ L ∧ h₀.get? p.1 = none → p.1 ≠ L1 → h'.get? p.1 = some p.2 ∧ p.1 ≠ L ∧ h₀.get? p.1 = none := fun p z n1 => ⟨other _ _ z.1 z.2.1 n1, z.2⟩
      have xne : ∀ {b : Addr} {o : Obj}, h.get? b = some o → X ≠ b := fun e q => by rw [q, e] at hX0; cases hX0
      have zL1 := (N _ (.tail _ (.tail _ (.tail _ mL1))))
      have hXL1 : X ≠ L1 := xne zL1.1
      obtain ⟨oL, _, _, hoL, _⟩ := F.ns
      have hX₀ : h₀.get? X = none := by
        cases q : h₀.get? X with
        | none => rfl
        | some o => rw [F.keep _ _ q] at hX0; cases hX0
      let r' : Row2 := ⟨X, rows[i].k, rows[i].x, t1, t2, zn⟩
      have ey : rs.map (fun r => Value.ref r.a) ++ [Value.ref X] = (rs ++ [r']).map (fun r => Value.ref r.a) := by simp [r']
      refine ⟨h', tk', ((X, r'.obj) :: res) ++ (L1, { o1 with slots := sl' }) :: news0, rfl, F', fun p hp => ?_, LCg.Off3.of fun p hp => ?_, ?_, ?_⟩
      · rcases List.mem_cons.mp hp with rfl | hp
        · exact keep _ (N _ nI) (fun e => (off' _ mL1).1 e.symm)
        rcases List.mem_cons.mp hp with rfl | hp
        · exact keep _ (N _ nC) (fun e => (off' _ mL1).2.1 e.symm)
        rcases List.mem_cons.mp hp with rfl | hp
        · exact keep _ (N _ nD) (fun e => (off' _ mL1).2.2 e.symm)
        rcases List.mem_append.mp hp with hp | hp
        · rcases List.mem_cons.mp hp with rfl | hp
          · exact ⟨hX, xne hoL, hX₀⟩
          · exact keep _ (N p (.tail _ (.tail _ (.tail _ (List.mem_append_left _ hp))))) (hne p hp)
        · rcases List.mem_cons.mp hp with rfl | hp
          · exact ⟨hL1', zL1.2⟩
          · exact keep _ (N p (.tail _ (.tail _ (.tail _ (List.mem_append_right _ (.tail _ hp)))))) (hL1 p hp)
      · rcases List.mem_append.mp hp with hp | hp
        · rcases List.mem_cons.mp hp with rfl | hp
          · exact ⟨xne (N _ nI).1, xne (N _ nC).1, xne (N _ nD).1⟩
          · exact off' p (List.mem_append_left _ hp)
        · rcases List.mem_cons.mp hp with rfl | hp
          · exact (show L1 ≠ I ∧ L1 ≠ C ∧ L1 ≠ D from off' _ mL1)
          · exact off' p (List.mem_append_right _ (.tail _ hp))
      · obtain ⟨c, hc⟩ := hax
        exact .inr ⟨_, List.mem_append_right _ (.tail _ hc), rfl, c, rfl⟩
      · show LCg.CompRest prog w A h₀ L m env elt x1 scope cl s (LCg.SrcAt h₀ ax its) P Fin j (i + 1) (rs.map (fun r => Value.ref r.a) ++ [Value.ref X]) (((X, r'.obj) :: res) ++ (L1, { o1 with slots := sl' }) :: news0)
        rw [ey]
        refine ih (i + 1) (rs ++ [r']) ((X, r'.obj) :: res) sl' (by omega) ?_ ?_ ?_
        · rw [List.map_append, hrs, List.take_add_one, List.getElem?_eq_getElem hlt, Option.toList_some, List.map_append]
          rfl
        · intro r hr
          rcases List.mem_append.mp hr with hr | hr
          · exact .tail _ (hres r hr)
          · rw [List.mem_singleton.mp hr]; exact .head _
        · intro p hp
          rcases List.mem_cons.mp hp with rfl | hp
          · exact hXL1
          · exact hne p hp
/-- a list comp whose turns call a def that may catch, over rows that lie -/
theorem comp_calls3 {s₁ : Shared} {Q : Value → Shared → Prop} {lit : List (Addr × Obj)} (rows : List Src) {c : Nat} (hh : A.handled = none) (F : Fr h₀ L s₁.heap m) (N : News h₀ L s₁.heap lit) (hits : its.toList = rows.map (fun r => r.v)) (hsz : its.size ≤ sizeLine)
    (hm1 : (L1, o1) ∈ lit) (hrow : ∀ r ∈ rows, ∀ p ∈ r.objs, p ∈ news0) (hax : (ax, ({ cls := .type "list", data := .seq its c } : Obj)) ∈ news0) (hsub : ∀ p ∈ news0, p ∈ lit) (hL1 : ∀ p ∈ news0, p.1 ≠ L1)
    (turn : ∀ (s₂ : Shared), (∃ g, s₂ = { s₁ with heap := g }) → ∀ r ∈ rows, TurnOk2 prog w A h₀ L m env elt x1 scope cl s₂ L1 o1 r)
    (fin : ∀ D (rs : List Row2) h tk sl, Fr h₀ L h m → News h₀ L h ((D, LCg.lst (rs.map (fun r => Value.ref r.a))) :: (L1, { o1 with slots := sl }) :: (rs.map (fun r => (r.a, r.obj)) ++ news0)) → rs.map Row2.dat = rows.map Src.dat → LCg.Off1 D ((L1, { o1 with slots := sl }) :: news0) → Q (.ref D) { s₁ with heap := h, toks := tk }) :
    LCg.CompSrc prog w A h₀ L m env elt x1 scope cl (fun s₂ => LCg.FinE h₀ L m s₂ Q) (.ref ax) s₁ := by
  refine .inl ⟨ax, its, (L1, { o1 with slots := o1.slots }) :: news0, rfl, hh, F, fun p hp => ?_, .inr ⟨_, .tail _ hax, rfl, c, rfl⟩, hsz, fun s₂ hs₂ => ?_⟩
  · rcases List.mem_cons.mp hp with rfl | hp
    · exact N _ hm1
    · exact N p (hsub p hp)
  · obtain ⟨g, rfl⟩ := hs₂
    have hlen : its.size = rows.length := by have := congrArg List.length hits; simpa using this
    have := calls_rest2 (Fin := LCg.FinE h₀ L m { s₁ with heap := g } Q) (P := fun i v => its[i]? = some v) (fun _ _ h => h) rows hits hrow ⟨c, hax⟩ hL1 (turn _ ⟨g, rfl⟩) (fun rs res sl hrs hres D h tk F' N' o' => ?_) its.size 0 [] [] o1.slots (by omega) rfl (fun _ h => nomatch h) (fun _ h => nomatch h)
    · exact this
    · refine fin D rs h tk sl F' (fun p hp => ?_) hrs (off1_of fun p hp => ?_)
      · rcases List.mem_cons.mp hp with rfl | hp
        · exact N' _ (.head _)
        rcases List.mem_cons.mp hp with rfl | hp
        · exact N' _ (.tail _ (List.mem_append_right _ (.head _)))
        rcases List.mem_append.mp hp with hp | hp
        · obtain ⟨r, hr, rfl⟩ := List.mem_map.mp hp
          exact N' _ (.tail _ (List.mem_append_left _ (hres r hr)))
        · exact N' p (.tail _ (List.mem_append_right _ (.tail _ hp)))
      · have hmem : p ∈ res ++ (L1, ({ o1 with slots := sl } : Obj)) :: news0 := List.mem_append_right _ hp
        exact off1_mem o' p hmem
end
section
variable {prog : Program} {w : World} {A : Around} {E : Value → Shared → Prop} {s : Shared} {h₀ : Heap} {L D D2 : Addr} {news : List (Addr × Obj)} {Q : Value → Shared → Prop} {ys its : List Value} {c : Nat} {ds : List PyData} {as bs : List Addr}
theorem eq_rows (N : News h₀ L s.heap news) (hm : (D, LCg.lst ys) ∈ news) (R : ReadsAll s.heap ys ds as) (hm2 : (D2, listOf its.toArray c) ∈ news) (R2 : ReadsAll s.heap its ds bs)
    (hok : ∀ d ∈ ds, PyData.canLay0 d = true ∧ PyData.depth d ≤ 2) (hself : PyData.eqv (.list ds) (.list ds) = true) (hu : A.units + 64 < cLine) (h : Q (.bool true) s) : wpAny (model prog w) A (compareOp .Eq (.ref D) (.ref D2)) Q E s := by
  refine eq_dataH (reads_list_at (N _ hm).1 rfl rfl R) (reads_list_at (N _ hm2).1 rfl rfl R2) (shaped_two hok) (shaped_two hok) hu ?_
  rw [hself]; exact h
theorem eqv_rows : ∀ {l : List PyData}, (∀ d ∈ l, ∃ a b, d = .list [.str a, .str b]) → PyData.eqvAll l l = true
  | [], _ => by simp [PyData.eqvAll]
  | d :: l, h => by
    obtain ⟨a, b, rfl⟩ := h _ (.head _)
    have := eqv_rows (l := l) fun e he => h e (.tail _ he)
    simp [PyData.eqvAll, PyData.eqv, this]
end
end

-- Calls3
section
/-- a row of two strs that lies as a list object -/
def Src.Row (r : Src) : Prop := ∃ a t u c, r.v = .ref a ∧ r.objs = [(a, listOf [.str r.k t, .str r.x u].toArray c)]
def Src.Fit (r : Src) : Prop := PyData.strOk r.k = true ∧ PyData.strOk r.x = true
def isL (o : Obj) : Prop := ∃ vs c, o = listOf vs c
theorem fit_rows {rows : List Src} (h : ∀ r ∈ rows, r.Fit) : ∀ d ∈ rows.map Src.dat, PyData.canLay0 d = true ∧ PyData.depth d ≤ 2 := fun d hd => by
  obtain ⟨r, hr, rfl⟩ := List.mem_map.mp hd
  exact lay_row (h r hr).1 (h r hr).2
theorem self_rows (rows : List Src) : PyData.eqv (.list (rows.map Src.dat)) (.list (rows.map Src.dat)) = true := by
  have := eqv_rows (l := rows.map Src.dat) fun d hd => by
    obtain ⟨r, _, rfl⟩ := List.mem_map.mp hd
    exact ⟨_, _, rfl⟩
  simp [PyData.eqv, this]
theorem reads_src {h₀ h : Heap} {L : Addr} {news : List (Addr × Obj)} (N : News h₀ L h news) : ∀ {rows : List Src}, (∀ r ∈ rows, r.Row) → (∀ r ∈ rows, ∀ p ∈ r.objs, p ∈ news) → ∃ as, ReadsAll h (rows.map (fun r => r.v)) (rows.map Src.dat) as
  | [], _, _ => ⟨_, ReadsAll.nil⟩
  | r :: rows, h1, h2 => by
    obtain ⟨as, q⟩ := reads_src N (rows := rows) (fun r' hr => h1 r' (.tail _ hr)) (fun r' hr => h2 r' (.tail _ hr))
    obtain ⟨a, t, u, c, hv, ho⟩ := h1 r (.head _)
    have hm : (a, listOf [.str r.k t, .str r.x u].toArray c) ∈ news := h2 r (.head _) _ (by rw [ho]; exact .head _)
    refine ⟨_, ReadsAll.cons (as := [a]) (bs := as) ?_ q⟩
    show Reads h r.v r.dat [a]
    rw [hv]
    exact reads_list_at (N _ hm).1 rfl rfl (ReadsAll.cons (Reads.str _ _) (ReadsAll.cons (Reads.str _ _) ReadsAll.nil))
theorem isL_ne {h₀ h : Heap} {L L1 : Addr} {o1 : Obj} {es : Array DictEntry} {n : Nat} {news : List (Addr × Obj)} (N : News h₀ L h news) (e1 : h.get? L1 = some o1) (hd : o1.data = .dict es n) {p : Addr × Obj} (hp : p ∈ news) (hl : isL p.2) : p.1 ≠ L1 := fun e => by
  obtain ⟨vs, c, hl⟩ := hl
  have := (N p hp).1
  rw [e, e1, hl] at this
  obtain rfl := Option.some.inj this
  cases hd
def Row2.src (r : Row2) : Src := ⟨.ref r.a, [(r.a, r.obj)], r.k, r.x⟩
theorem row_src (r : Row2) : r.src.Row := ⟨r.a, r.t, r.u, r.c, rfl, rfl⟩
abbrev GivesRow (w : World) (mean : ExcName → Option Value) (mg mb : Str → Option Value) (f : Addr) (d u : Nat) (y k x : Str) : Prop :=
  ∀ ta, SpecX w mean mg mb f d u [.str y ta] (fun _ => True) (fun hh h' v => ∃ D zn t1 t2, v = .ref D ∧ h'.get? D = some (listOf [.str k t1, .str x t2].toArray zn) ∧ hh.get? D = none)
/-- the rows of a frame's list are taken out of the ledger, as an abstract list -/
theorem abs_rows {P : Prop} {w : World} {mean : ExcName → Option Value} {mg mb : Str → Option Value} {f : Addr} {d u : Nat} {h₀ h : Heap} {L L1 ax : Addr} {o1 : Obj} {m : Str → Option Value} {y : Str} {its : List Value} {c : Nat} {es : Array DictEntry} {n : Nat} {news keep : List (Addr × Obj)} (l : List Row2) (_F : Fr h₀ L h m) (N : News h₀ L h news) (_hy : m y = some (.ref ax))
    (hax : (ax, listOf its.toArray c) ∈ news) (hits : its = l.map (fun r => Value.ref r.a)) (hrow : ∀ r ∈ l, (r.a, r.obj) ∈ news) (h1 : (L1, o1) ∈ news) (hd : o1.data = .dict es n) (hkeep : ∀ p ∈ keep, p ∈ news) (hkL : ∀ p ∈ keep, isL p.2)
    (hlen : l.length ≤ 16)
    (hspec : ∀ q ∈ l.map (fun r => (r.k, r.x)), GivesRow w mean mg mb f d u q.2 q.1 q.2 ∧ (PyData.strOk q.1 = true ∧ PyData.strOk q.2 = true))
    (k : ∀ (rows : List Src) (c : Nat) (news0 : List (Addr × Obj)), rows.length ≤ 16 → News h₀ L h ((L1, o1) :: news0) → (∀ p ∈ news0, p.1 ≠ L1) → (ax, listOf (rows.map (fun r => r.v)).toArray c) ∈ news0 → (∀ r ∈ rows, ∀ p ∈ r.objs, p ∈ news0) → (∀ p ∈ keep, p ∈ news0) → (∀ r ∈ rows, r.Row) →
      (∀ r ∈ rows, GivesRow w mean mg mb f d u r.x r.k r.x) → (∀ r ∈ rows, r.Fit) → P) : P := by
  subst hits
  have sub : ∀ p ∈ keep ++ (ax, listOf (l.map (fun r => Value.ref r.a)).toArray c) :: l.map (fun r => (r.a, r.obj)), p ∈ news ∧ isL p.2 := fun p hp => by
    rcases List.mem_append.mp hp with hp | hp
    · exact ⟨hkeep p hp, hkL p hp⟩
    rcases List.mem_cons.mp hp with rfl | hp
    · exact ⟨hax, _, _, rfl⟩
    · obtain ⟨r, hr, rfl⟩ := List.mem_map.mp hp
      exact ⟨hrow r hr, _, _, rfl⟩
  have hv : (l.map Row2.src).map (fun r => r.v) = l.map (fun r => Value.ref r.a) := by rw [List.map_map]; rfl
  refine k (l.map Row2.src) c (keep ++ (ax, listOf (l.map (fun r => Value.ref r.a)).toArray c) :: l.map (fun r => (r.a, r.obj))) (by rw [List.length_map]; exact hlen) (fun p hp => ?_) (fun p hp => isL_ne N (N _ h1).1 hd (sub p hp).1 (sub p hp).2)
    (by rw [hv]; exact List.mem_append_right _ (.head _)) (fun r hr p hp => ?_) (fun p hp => List.mem_append_left _ hp) (fun r hr => ?_) (fun r hr => ?_) (fun r hr => ?_)
  · rcases List.mem_cons.mp hp with rfl | hp
    · exact N _ h1
    · exact N p (sub p hp).1
  · obtain ⟨r, hr', rfl⟩ := List.mem_map.mp hr
    rw [List.mem_singleton.mp hp]
    exact List.mem_append_right _ (.tail _ (List.mem_map_of_mem (f := fun r : Row2 => (r.a, r.obj)) hr'))
  · obtain ⟨r, hr', rfl⟩ := List.mem_map.mp hr
    exact row_src r
  · obtain ⟨r, hr', rfl⟩ := List.mem_map.mp hr
    exact (hspec _ (List.mem_map_of_mem (f := fun r : Row2 => (r.k, r.x)) hr')).1
  · obtain ⟨r, hr', rfl⟩ := List.mem_map.mp hr
    exact (hspec _ (List.mem_map_of_mem (f := fun r : Row2 => (r.k, r.x)) hr')).2
theorem reads_row2 {h₀ h : Heap} {L : Addr} {news : List (Addr × Obj)} (N : News h₀ L h news) {rs : List Row2} (hrs : ∀ r ∈ rs, (r.a, r.obj) ∈ news) : ∃ as, ReadsAll h (rs.map (fun r => Value.ref r.a)) (rs.map Row2.dat) as := reads_rows fun r hr => (N _ (hrs r hr)).1
section
variable {prog : Program} {w : World} {A : Around} {E : Value → Shared → Prop} {s : Shared} {h₀ : Heap} {L D D2 : Addr} {news : List (Addr × Obj)} {Q : Value → Shared → Prop} {its : List Value} {c : Nat} {bs : List Addr} {rows : List Src} {rs : List Row2}
theorem eq_A (N : News h₀ L s.heap news) (hm : (D, LCg.lst (rs.map (fun r => Value.ref r.a))) ∈ news) (hrs : ∀ r ∈ rs, (r.a, r.obj) ∈ news) (e : rs.map Row2.dat = rows.map Src.dat) (hm2 : (D2, listOf (rows.map (fun r => r.v)).toArray c) ∈ news)
    (hrow : ∀ r ∈ rows, ∀ p ∈ r.objs, p ∈ news) (hR : ∀ r ∈ rows, r.Row) (hok : ∀ r ∈ rows, r.Fit) (hu : A.units + 64 < cLine) (h : Q (.bool true) s) : wpAny (model prog w) A (compareOp .Eq (.ref D) (.ref D2)) Q E s := by
  obtain ⟨bs, R2⟩ := reads_src N hR hrow
  obtain ⟨as, R⟩ := reads_row2 N hrs
  rw [e] at R
  exact eq_rows N hm R hm2 R2 (fit_rows hok) (self_rows rows) hu h
theorem eq_B (N : News h₀ L s.heap news) (hm : (D, LCg.lst (rs.map (fun r => Value.ref r.a))) ∈ news) (hrs : ∀ r ∈ rs, (r.a, r.obj) ∈ news) (e : rs.map Row2.dat = rows.map Src.dat) (hm2 : (D2, listOf its.toArray c) ∈ news)
    (R2 : ReadsAll s.heap its (rows.map Src.dat) bs) (hok : ∀ r ∈ rows, r.Fit) (hu : A.units + 64 < cLine) (h : Q (.bool true) s) : wpAny (model prog w) A (compareOp .Eq (.ref D) (.ref D2)) Q E s := by
  obtain ⟨as, R⟩ := reads_row2 N hrs
  rw [e] at R
  exact eq_rows N hm R hm2 R2 (fit_rows hok) (self_rows rows) hu h
end
end

-- X_refused
section
set_option maxHeartbeats 4000000 in
theorem sp_refused (w : World) (mean : ExcName → Option Value) (mg mb : Str → Option Value) (x : Str) (ta : Tok) (hx : x.length ≤ 400) (hc : (Txt.slice x none (some 3) != Str.ofString "229") = true) :
    SpecX w mean mg mb 163 3 20 [.str x ta] (fun _ => True) (fun h h' v => ∃ D zn t1 t2, v = .ref D ∧ h'.get? D = some (listOf [.str (Str.ofString "reply") t1, .str x t2].toArray zn) ∧ h.get? D = none) := by
  k_with_none
  w_top off
  k_with "own call ref" => (k_here; k_dflt (refine wpAny_call ?_; (refine' code_def ?k1 ?k2 ?k3 ?k4 ?k5 ?kA ?kF ?kK ?k6 ?k7 ?k8 ?k9 ?kB ?_ ?c2 ?c3 ?c4 ?c5; (case kA => exact rfl); (case kF => exact rfl); (case kK => exact rfl); (case k1 => k_asm); (case k2 => k_asm); (case k3 => k_asm); (case k4 => k_asm); (case k5 => k_asm); (case k6 => k_is); (case k7 => k_is); (case k8 => first | omega | ((try dsimp only [topA, Around.deeper, Around.in1]); omega)); (case k9 => exact BindsTo.of_eq rfl); (case c5 => decide); (case kB => exact locs rfl); (case c2 => exact rfl); (case c3 => exact rfl); (case c4 => exact rfl); k_whole; intro g' L' h' FG' F' N' B' X' T'; (try dsimp only); (try k_lift B'); (try k_fold))))
  k_with "own ite" => (k_here; first | refine ite_t (by assumption) ?_ | refine ite_f (by assumption) ?_ | refine ite_fb (by assumption) ?_)
  k_with "own call type:str" => (k_here; (with_reducible show wpAny _ _ (call (Value.type "str") [Value.ref _]) _ _ _); k_dflt (refine' str_of_got ?F ?X ?N ?G ?hb ?hf ?hu ?_; (case G => assumption); (case N => assumption); (case F => assumption); (case X => assumption); (case hb => kernel_rfl); (case hf => kernel_rfl); (case hu => first | omega | ((try dsimp only [topA, Around.deeper, Around.in1, Around.mark]); omega)); k_whole))
  unfold SpecX
  intro dp un gd outer base s R B X T XB TB D hd hu hpre hret
  k_dflt (refine' enter ?k1 ?k2 ?k3 ?k6 ?k7 ?k8 ?k9 ?kB ?_ ?c2 ?c3 ?c4 ?c5; (case k1 => exact B); (case k2 => exact X); (case k3 => exact T); (case k6 => k_is); (case k7 => k_is); (case k8 => ktr_room); (case k9 => exact BindsTo.of_eq rfl); (case c5 => decide); (case kB => exact locs rfl); (case c2 => exact rfl); (case c3 => exact rfl); (case c4 => exact rfl); k_whole)
  clear B X T
  intro g' L' h' hg B' X' T' F' N'
  w_binds F'
  (try dsimp only)
  (try dsimp only at hpre)
  (try rw [hg] at hpre)
  rw [hg] at D
  (try k_fold)
  k_steps
  all_goals (subst hg; refine hret _ _ _ _ (by assumption) (Fr.keep (by assumption)) ?_)
  all_goals (refine' ⟨_, _, _, _, rfl, ?gg, ?ff⟩; (case gg => exact got_new (by assumption) rfl); (case ff => exact turn_none_back (by assumption) (new_none (by assumption))))
end

-- X_refused2
section
set_option maxHeartbeats 4000000 in
theorem sp_refused2 (w : World) (mean : ExcName → Option Value) (mg mb : Str → Option Value) (x : Str) (ta : Tok) (hx : x.length ≤ 400) (hc : (Txt.slice x none (some 3) != Str.ofString "229") = false) (h2 : Txt.find x (Str.ofString "(") < 0) :
    SpecX w mean mg mb 163 3 20 [.str x ta] (fun _ => True) (fun h h' v => ∃ D zn t1 t2, v = .ref D ∧ h'.get? D = some (listOf [.str (Str.ofString "proto") t1, .str x t2].toArray zn) ∧ h.get? D = none) := by
  k_with_none
  w_top off
  k_with "own call ref" => (k_here; k_dflt (refine wpAny_call ?_; (refine' code_def ?k1 ?k2 ?k3 ?k4 ?k5 ?kA ?kF ?kK ?k6 ?k7 ?k8 ?k9 ?kB ?_ ?c2 ?c3 ?c4 ?c5; (case kA => exact rfl); (case kF => exact rfl); (case kK => exact rfl); (case k1 => k_asm); (case k2 => k_asm); (case k3 => k_asm); (case k4 => k_asm); (case k5 => k_asm); (case k6 => k_is); (case k7 => k_is); (case k8 => first | omega | ((try dsimp only [topA, Around.deeper, Around.in1]); omega)); (case k9 => exact BindsTo.of_eq rfl); (case c5 => decide); (case kB => exact locs rfl); (case c2 => exact rfl); (case c3 => exact rfl); (case c4 => exact rfl); k_whole; intro g' L' h' FG' F' N' B' X' T'; (try dsimp only); (try k_lift B'); (try k_fold))))
  k_with "own ite" => (k_here; first | refine ite_t (by assumption) ?_ | refine ite_f (by assumption) ?_ | refine ite_fb (by assumption) ?_)
  k_with "own noteFrame ref" => (k_here; k_dflt (refine' caught2 ?R ?F ?K ?U ?XB ?TB ?D ?T0 ?ex1 ?q1 ?qm ?ex ?q ?_; (case R => assumption); (case F => assumption); (case K => assumption); (case U => assumption); (case XB => assumption); (case TB => assumption); (case D => assumption); (case T0 => first | assumption | exact KtsTurn.refl); (case ex1 => k_is); (case q1 => kts_isx); (case qm => rfl); (case ex => k_is); (case q => kts_isx); k_whole); intro h' g' n₂ tk' T' F' N₂ G' N' K' X' P' D'; (try k_lift K'); (try k_sweep))
  k_with "own call type:str" => (k_here; (with_reducible show wpAny _ _ (call (Value.type "str") [Value.ref _]) _ _ _); k_dflt (refine' str_of_got ?F ?X ?N ?G ?hb ?hf ?hu ?_; (case G => assumption); (case N => assumption); (case F => assumption); (case X => assumption); (case hb => kernel_rfl); (case hf => kernel_rfl); (case hu => first | omega | ((try dsimp only [topA, Around.deeper, Around.in1, Around.mark]); omega)); k_whole))
  unfold SpecX
  intro dp un gd outer base s R B X T XB TB D hd hu hpre hret
  k_dflt (refine' enter ?k1 ?k2 ?k3 ?k6 ?k7 ?k8 ?k9 ?kB ?_ ?c2 ?c3 ?c4 ?c5; (case k1 => exact B); (case k2 => exact X); (case k3 => exact T); (case k6 => k_is); (case k7 => k_is); (case k8 => ktr_room); (case k9 => exact BindsTo.of_eq rfl); (case c5 => decide); (case kB => exact locs rfl); (case c2 => exact rfl); (case c3 => exact rfl); (case c4 => exact rfl); k_whole)
  clear B X T
  intro g' L' h' hg B' X' T' F' N'
  w_binds F'
  (try dsimp only)
  (try dsimp only at hpre)
  (try rw [hg] at hpre)
  rw [hg] at D
  (try k_fold)
  k_steps
  all_goals (subst hg; refine hret _ _ _ _ (by assumption) (Fr.keep (by assumption)) ?_)
  all_goals (refine' ⟨_, _, _, _, rfl, ?gg, ?ff⟩; (case gg => exact got_new (by assumption) rfl); (case ff => exact turn_none_back (by assumption) (new_none (by assumption))))
end

-- Rf
section
theorem item_own2 {prog : Program} {w : World} {A : Around} {E : Value → Shared → Prop} {s : Shared} {value slice : Expr} {x : Str} {t u : Tok} {i : Int} {Q : Value → Shared → Prop} (h0 : 0 ≤ i) (h1 : i < x.length) (hx : x.length ≤ 400) (h : Q (.str (Txt.item x i) s.toks) { s with toks := s.toks + 1 })
    (hs : subscripted slice false (.str x t) (.int i u) = operate [.str x t, .int i u] (getItem (.str x t) (.int i u)) := by with_unfolding_all rfl)
    (ht : ∀ r, letTemporaryGo value (.str x t) r = pure () := by intro _; with_unfolding_all rfl) :
    wpAny (model prog w) A (subscriptTail value slice (.str x t) (.int i u)) Q E s :=
  item_str (fitsSsize_of (N := 9223372036854775808) (by omega) (by omega) (Int.le_refl _)) (by omega) (by omega) (fun _ => h) hs ht
theorem len_ne {l : List (Str × Tok)} {ss : List Str} (hm : List.map (fun x => x.1) l = ss) (h6 : ss.length ≠ 5) : ((l.length : Int) != 5) = true := bne_iff_ne.mpr fun e => by
  have := congrArg List.length hm
  rw [List.length_map] at this
  omega
end

-- X_refused3
section
set_option maxHeartbeats 4000000 in
theorem sp_refused3 (w : World) (mean : ExcName → Option Value) (mg mb : Str → Option Value) (x : Str) (ta : Tok) (hx : x.length ≤ 400) (hc : (Txt.slice x none (some 3) != Str.ofString "229") = false) (h2 : 0 ≤ Txt.find x (Str.ofString "(")) (h2b : ¬ Txt.find x (Str.ofString "(") < 0) (h3 : Txt.find3 x (Str.ofString ")") (Txt.find x (Str.ofString "(") + 1) < 0) :
    SpecX w mean mg mb 163 3 20 [.str x ta] (fun _ => True) (fun h h' v => ∃ D zn t1 t2, v = .ref D ∧ h'.get? D = some (listOf [.str (Str.ofString "proto") t1, .str x t2].toArray zn) ∧ h.get? D = none) := by
  k_with_none
  w_top off
  k_with "own call ref" => (k_here; k_dflt (refine wpAny_call ?_; (refine' code_def ?k1 ?k2 ?k3 ?k4 ?k5 ?kA ?kF ?kK ?k6 ?k7 ?k8 ?k9 ?kB ?_ ?c2 ?c3 ?c4 ?c5; (case kA => exact rfl); (case kF => exact rfl); (case kK => exact rfl); (case k1 => k_asm); (case k2 => k_asm); (case k3 => k_asm); (case k4 => k_asm); (case k5 => k_asm); (case k6 => k_is); (case k7 => k_is); (case k8 => first | omega | ((try dsimp only [topA, Around.deeper, Around.in1]); omega)); (case k9 => exact BindsTo.of_eq rfl); (case c5 => decide); (case kB => exact locs rfl); (case c2 => exact rfl); (case c3 => exact rfl); (case c4 => exact rfl); k_whole; intro g' L' h' FG' F' N' B' X' T'; (try dsimp only); (try k_lift B'); (try k_fold))))
  k_with "own ite" => (k_here; first | refine ite_t (by assumption) ?_ | refine ite_f (by assumption) ?_ | refine ite_fb (by assumption) ?_)
  k_with "own noteFrame ref" => (k_here; k_dflt (refine' caught2 ?R ?F ?K ?U ?XB ?TB ?D ?T0 ?ex1 ?q1 ?qm ?ex ?q ?_; (case R => assumption); (case F => assumption); (case K => assumption); (case U => assumption); (case XB => assumption); (case TB => assumption); (case D => assumption); (case T0 => first | assumption | exact KtsTurn.refl); (case ex1 => k_is); (case q1 => kts_isx); (case qm => rfl); (case ex => k_is); (case q => kts_isx); k_whole); intro h' g' n₂ tk' T' F' N₂ G' N' K' X' P' D'; (try k_lift K'); (try k_sweep))
  k_with "own call type:str" => (k_here; (with_reducible show wpAny _ _ (call (Value.type "str") [Value.ref _]) _ _ _); k_dflt (refine' str_of_got ?F ?X ?N ?G ?hb ?hf ?hu ?_; (case G => assumption); (case N => assumption); (case F => assumption); (case X => assumption); (case hb => kernel_rfl); (case hf => kernel_rfl); (case hu => first | omega | ((try dsimp only [topA, Around.deeper, Around.in1, Around.mark]); omega)); k_whole))
  unfold SpecX
  intro dp un gd outer base s R B X T XB TB D hd hu hpre hret
  k_dflt (refine' enter ?k1 ?k2 ?k3 ?k6 ?k7 ?k8 ?k9 ?kB ?_ ?c2 ?c3 ?c4 ?c5; (case k1 => exact B); (case k2 => exact X); (case k3 => exact T); (case k6 => k_is); (case k7 => k_is); (case k8 => ktr_room); (case k9 => exact BindsTo.of_eq rfl); (case c5 => decide); (case kB => exact locs rfl); (case c2 => exact rfl); (case c3 => exact rfl); (case c4 => exact rfl); k_whole)
  clear B X T
  intro g' L' h' hg B' X' T' F' N'
  w_binds F'
  (try dsimp only)
  (try dsimp only at hpre)
  (try rw [hg] at hpre)
  rw [hg] at D
  (try k_fold)
  k_steps
  all_goals (subst hg; (try dsimp only); first | refine hret _ _ _ _ (by first | assumption | exact KtsTurn.refl) (Fr.keep (by assumption)) ?_ | (show R (Except.ok (Flow.ret (Value.ref _))) _; refine hret _ _ _ _ (by first | assumption | exact KtsTurn.refl) (Fr.keep (by assumption)) ?_))
  all_goals (refine' ⟨_, _, _, _, rfl, ?gg, ?ff⟩; (case gg => exact got_new (by assumption) rfl); (case ff => first | exact turn_none_back (by assumption) (new_none (by assumption)) | exact new_none (h := _) (by assumption)))
end

-- X_refused4
section
set_option maxHeartbeats 4000000 in
theorem sp_refused4 (w : World) (mean : ExcName → Option Value) (mg mb : Str → Option Value) (x : Str) (ta : Tok) (hx : x.length ≤ 400) (hc : (Txt.slice x none (some 3) != Str.ofString "229") = false) (h2 : 0 ≤ Txt.find x (Str.ofString "(")) (h2b : ¬ Txt.find x (Str.ofString "(") < 0) (h3 : Txt.find x (Str.ofString "(") + 1 ≤ Txt.find3 x (Str.ofString ")") (Txt.find x (Str.ofString "(") + 1)) (h3a : ¬ Txt.find3 x (Str.ofString ")") (Txt.find x (Str.ofString "(") + 1) < 0) (h3b : Txt.find3 x (Str.ofString ")") (Txt.find x (Str.ofString "(") + 1) < x.length) (h4 : (Txt.item x (Txt.find x (Str.ofString "(") + 1) != Txt.item x (Txt.find3 x (Str.ofString ")") (Txt.find x (Str.ofString "(") + 1) - 1)) = true) :
    SpecX w mean mg mb 163 3 20 [.str x ta] (fun _ => True) (fun h h' v => ∃ D zn t1 t2, v = .ref D ∧ h'.get? D = some (listOf [.str (Str.ofString "proto") t1, .str x t2].toArray zn) ∧ h.get? D = none) := by
  k_with_none
  w_top off
  k_with "own call ref" => (k_here; k_dflt (refine wpAny_call ?_; (refine' code_def ?k1 ?k2 ?k3 ?k4 ?k5 ?kA ?kF ?kK ?k6 ?k7 ?k8 ?k9 ?kB ?_ ?c2 ?c3 ?c4 ?c5; (case kA => exact rfl); (case kF => exact rfl); (case kK => exact rfl); (case k1 => k_asm); (case k2 => k_asm); (case k3 => k_asm); (case k4 => k_asm); (case k5 => k_asm); (case k6 => k_is); (case k7 => k_is); (case k8 => first | omega | ((try dsimp only [topA, Around.deeper, Around.in1]); omega)); (case k9 => exact BindsTo.of_eq rfl); (case c5 => decide); (case kB => exact locs rfl); (case c2 => exact rfl); (case c3 => exact rfl); (case c4 => exact rfl); k_whole; intro g' L' h' FG' F' N' B' X' T'; (try dsimp only); (try k_lift B'); (try k_fold))))
  k_with "own ite" => (k_here; first | refine ite_t (by assumption) ?_ | refine ite_f (by assumption) ?_ | refine ite_fb (by assumption) ?_)
  k_with "own noteFrame ref" => (k_here; k_dflt (refine' caught2 ?R ?F ?K ?U ?XB ?TB ?D ?T0 ?ex1 ?q1 ?qm ?ex ?q ?_; (case R => assumption); (case F => assumption); (case K => assumption); (case U => assumption); (case XB => assumption); (case TB => assumption); (case D => assumption); (case T0 => first | assumption | exact KtsTurn.refl); (case ex1 => k_is); (case q1 => kts_isx); (case qm => rfl); (case ex => k_is); (case q => kts_isx); k_whole); intro h' g' n₂ tk' T' F' N₂ G' N' K' X' P' D'; (try k_lift K'); (try k_sweep))
  k_with "own call type:str" => (k_here; (with_reducible show wpAny _ _ (call (Value.type "str") [Value.ref _]) _ _ _); k_dflt (refine' str_of_got ?F ?X ?N ?G ?hb ?hf ?hu ?_; (case G => assumption); (case N => assumption); (case F => assumption); (case X => assumption); (case hb => kernel_rfl); (case hf => kernel_rfl); (case hu => first | omega | ((try dsimp only [topA, Around.deeper, Around.in1, Around.mark]); omega)); k_whole))
  k_with "own subscriptTail Name BinOp str int" => (k_here; refine item_own2 (by omega) (by omega) (by assumption) ?_)
  unfold SpecX
  intro dp un gd outer base s R B X T XB TB D hd hu hpre hret
  k_dflt (refine' enter ?k1 ?k2 ?k3 ?k6 ?k7 ?k8 ?k9 ?kB ?_ ?c2 ?c3 ?c4 ?c5; (case k1 => exact B); (case k2 => exact X); (case k3 => exact T); (case k6 => k_is); (case k7 => k_is); (case k8 => ktr_room); (case k9 => exact BindsTo.of_eq rfl); (case c5 => decide); (case kB => exact locs rfl); (case c2 => exact rfl); (case c3 => exact rfl); (case c4 => exact rfl); k_whole)
  clear B X T
  intro g' L' h' hg B' X' T' F' N'
  w_binds F'
  (try dsimp only)
  (try dsimp only at hpre)
  (try rw [hg] at hpre)
  rw [hg] at D
  (try k_fold)
  k_steps
  all_goals (subst hg; (try dsimp only); first | refine hret _ _ _ _ (by first | assumption | exact KtsTurn.refl) (Fr.keep (by assumption)) ?_ | (show R (Except.ok (Flow.ret (Value.ref _))) _; refine hret _ _ _ _ (by first | assumption | exact KtsTurn.refl) (Fr.keep (by assumption)) ?_))
  all_goals (refine' ⟨_, _, _, _, rfl, ?gg, ?ff⟩; (case gg => exact got_new (by assumption) rfl); (case ff => first | exact turn_none_back (by assumption) (new_none (by assumption)) | exact new_none (h := _) (by assumption)))
end

-- X_refused5
section
set_option maxHeartbeats 4000000 in
theorem sp_refused5 (w : World) (mean : ExcName → Option Value) (mg mb : Str → Option Value) (x : Str) (c : Nat) (ta : Tok) (hx : x.length ≤ 400) (hc : (Txt.slice x none (some 3) != Str.ofString "229") = false) (h2 : 0 ≤ Txt.find x (Str.ofString "(")) (h2b : ¬ Txt.find x (Str.ofString "(") < 0) (h3 : Txt.find x (Str.ofString "(") + 1 ≤ Txt.find3 x (Str.ofString ")") (Txt.find x (Str.ofString "(") + 1)) (h3a : ¬ Txt.find3 x (Str.ofString ")") (Txt.find x (Str.ofString "(") + 1) < 0) (h3b : Txt.find3 x (Str.ofString ")") (Txt.find x (Str.ofString "(") + 1) < x.length) (h4 : (Txt.item x (Txt.find x (Str.ofString "(") + 1) != Txt.item x (Txt.find3 x (Str.ofString ")") (Txt.find x (Str.ofString "(") + 1) - 1)) = false) (h1 : Txt.item x (Txt.find x (Str.ofString "(") + 1) = ⟨#[c]⟩) (h6 : (Txt.split (Txt.slice x (some (Txt.find x (Str.ofString "(") + 1)) (some (Txt.find3 x (Str.ofString ")") (Txt.find x (Str.ofString "(") + 1)))) (Txt.item x (Txt.find x (Str.ofString "(") + 1))).length ≠ 5) :
    SpecX w mean mg mb 163 3 20 [.str x ta] (fun _ => True) (fun h h' v => ∃ D zn t1 t2, v = .ref D ∧ h'.get? D = some (listOf [.str (Str.ofString "proto") t1, .str x t2].toArray zn) ∧ h.get? D = none) := by
  k_with_none
  w_top off
  k_with "own call ref" => (k_here; k_dflt (refine wpAny_call ?_; (refine' code_def ?k1 ?k2 ?k3 ?k4 ?k5 ?kA ?kF ?kK ?k6 ?k7 ?k8 ?k9 ?kB ?_ ?c2 ?c3 ?c4 ?c5; (case kA => exact rfl); (case kF => exact rfl); (case kK => exact rfl); (case k1 => k_asm); (case k2 => k_asm); (case k3 => k_asm); (case k4 => k_asm); (case k5 => k_asm); (case k6 => k_is); (case k7 => k_is); (case k8 => first | omega | ((try dsimp only [topA, Around.deeper, Around.in1]); omega)); (case k9 => exact BindsTo.of_eq rfl); (case c5 => decide); (case kB => exact locs rfl); (case c2 => exact rfl); (case c3 => exact rfl); (case c4 => exact rfl); k_whole; intro g' L' h' FG' F' N' B' X' T'; (try dsimp only); (try k_lift B'); (try k_fold))))
  k_with "own ite" => (k_here; first | refine ite_t (by assumption) ?_ | refine ite_f (by assumption) ?_ | refine ite_fb (by assumption) ?_)
  k_with "own noteFrame ref" => (k_here; k_dflt (refine' caught2 ?R ?F ?K ?U ?XB ?TB ?D ?T0 ?ex1 ?q1 ?qm ?ex ?q ?_; (case R => assumption); (case F => assumption); (case K => assumption); (case U => assumption); (case XB => assumption); (case TB => assumption); (case D => assumption); (case T0 => first | assumption | exact KtsTurn.refl); (case ex1 => k_is); (case q1 => kts_isx); (case qm => rfl); (case ex => k_is); (case q => kts_isx); k_whole); intro h' g' n₂ tk' T' F' N₂ G' N' K' X' P' D'; (try k_lift K'); (try k_sweep))
  k_with "own call type:str" => (k_here; (with_reducible show wpAny _ _ (call (Value.type "str") [Value.ref _]) _ _ _); k_dflt (refine' str_of_got ?F ?X ?N ?G ?hb ?hf ?hu ?_; (case G => assumption); (case N => assumption); (case F => assumption); (case X => assumption); (case hb => kernel_rfl); (case hf => kernel_rfl); (case hu => first | omega | ((try dsimp only [topA, Around.deeper, Around.in1, Around.mark]); omega)); k_whole))
  k_with "own subscriptTail Name BinOp str int" => (k_here; refine item_own2 (by omega) (by omega) (by assumption) ?_)
  k_with "own ite" => (k_here; refine ite_t (len_ne (by assumption) (by assumption)) ?_)
  unfold SpecX
  intro dp un gd outer base s R B X T XB TB D hd hu hpre hret
  k_dflt (refine' enter ?k1 ?k2 ?k3 ?k6 ?k7 ?k8 ?k9 ?kB ?_ ?c2 ?c3 ?c4 ?c5; (case k1 => exact B); (case k2 => exact X); (case k3 => exact T); (case k6 => k_is); (case k7 => k_is); (case k8 => ktr_room); (case k9 => exact BindsTo.of_eq rfl); (case c5 => decide); (case kB => exact locs rfl); (case c2 => exact rfl); (case c3 => exact rfl); (case c4 => exact rfl); k_whole)
  clear B X T
  intro g' L' h' hg B' X' T' F' N'
  w_binds F'
  (try dsimp only)
  (try dsimp only at hpre)
  (try rw [hg] at hpre)
  rw [hg] at D
  (try k_fold)
  k_steps
  all_goals (subst hg; (try dsimp only); first | refine hret _ _ _ _ (by first | assumption | exact KtsTurn.refl) (Fr.keep (by assumption)) ?_ | (show R (Except.ok (Flow.ret (Value.ref _))) _; refine hret _ _ _ _ (by first | assumption | exact KtsTurn.refl) (Fr.keep (by assumption)) ?_))
  all_goals (refine' ⟨_, _, _, _, rfl, ?gg, ?ff⟩; (case gg => exact got_new (by assumption) rfl); (case ff => first | exact turn_none_back (by assumption) (new_none (by assumption)) | exact new_none (h := _) (by assumption)))
end

-- RefS
section
theorem fits20 {x : Str} {k : Nat} (h : x.length ≤ 20) (hk : Nat.ble 20 k = true) : x.length ≤ k := Nat.le_trans h (Nat.le_of_ble_eq_true hk)
theorem e40 : Str.ofString "(" = ⟨#[40]⟩ := by decide +kernel
theorem e41 : Str.ofString ")" = ⟨#[41]⟩ := by decide +kernel
abbrev numS (n : Int) : Str := Str.ofString (toString n)
abbrev innerS (n : Int) (c : Nat) : Str := ⟨#[c]⟩ ++ Str.ofString "7" ++ ⟨#[c]⟩ ++ Str.ofString "9" ++ ⟨#[c]⟩ ++ numS n ++ ⟨#[c]⟩
theorem inner_list (n : Int) (c : Nat) : (innerS n c).cps.toList = c :: 55 :: c :: 57 :: c :: ((numS n).cps.toList ++ [c]) := by
  simp only [app_list]; rfl
theorem num_no {n : Int} {k : Nat} (h : k ≠ 45 ∧ (k < 48 ∨ 57 < k)) : k ∉ (numS n).cps.toList := int_text_free' k h n
theorem slice_from {x : Str} {i : Nat} (h : i ≤ x.length) : (Txt.slice x (some (i : Int)) none).cps.toList = x.cps.toList.drop i := by
  rw [beq_iff_eq.mp (slice_closes_fromL (b := x.length) (by omega) (by omega) rfl)]
  show ((x.cps.toList.drop (i : Int).toNat).take ((x.length : Int) - (i : Int)).toNat) = _
  rw [show (i : Int).toNat = i by omega]
  refine List.take_of_length_le ?_
  rw [List.length_drop, ← len_toList]; omega
section
variable (w : World) (mean : ExcName → Option Value) (mg mb : Str → Option Value)
theorem code_at {x y : Str} {r : List Nat} (e : x.cps.toList = y.cps.toList ++ r) (hy : y.length = 3) : (Txt.slice x none (some 3) != y) = false := by
  refine code_eq ?_ ?_
  · rw [e, ← hy, len_toList, List.take_left]
  · rw [len_toList, e, List.length_append, ← len_toList, hy]; omega
/-- no closing bracket behind the opening one -/
theorem row3 {x : Str} {pre post : List Nat} (e : x.cps.toList = (50 :: 50 :: 57 :: pre) ++ 40 :: post) (h0 : 40 ∉ pre) (h1 : 41 ∉ post) (hx : x.length ≤ 400) : GivesRow w mean mg mb 163 3 20 x (Str.ofString "proto") x := by
  have hf : Txt.find x (Str.ofString "(") = ((pre.length + 3 : Nat) : Int) := by
    rw [e40, find_at e (by simp [h0])]; rfl
  have h3 : Txt.find3 x (Str.ofString ")") (Txt.find x (Str.ofString "(") + 1) = -1 := by
    rw [hf, e41, show ((pre.length + 3 : Nat) : Int) + 1 = ((pre.length + 4 : Nat) : Int) by omega]
    refine find3_none (pre := (50 :: 50 :: 57 :: pre) ++ [40]) (post := post) (by rw [e]; simp) (by simp) h1
  intro ta
  exact sp_refused3 w mean mg mb x ta hx (code_at (r := pre ++ 40 :: post) (by rw [e]; rfl) rfl) (by rw [hf]; omega) (by rw [hf]; omega) (by rw [h3]; decide)
/-- both brackets; the sign behind the first, the sign ahead of the second -/
theorem both {x : Str} {pre mid post : List Nat} (e : x.cps.toList = (50 :: 50 :: 57 :: pre) ++ 40 :: (mid ++ 41 :: post)) (h0 : 40 ∉ pre) (h1 : 41 ∉ mid) :
    Txt.find x (Str.ofString "(") = ((pre.length + 3 : Nat) : Int) ∧ Txt.find3 x (Str.ofString ")") (Txt.find x (Str.ofString "(") + 1) = ((pre.length + 4 + mid.length : Nat) : Int) ∧ (Txt.slice x none (some 3) != Str.ofString "229") = false ∧ pre.length + 4 + mid.length < x.length := by
  have hf : Txt.find x (Str.ofString "(") = ((pre.length + 3 : Nat) : Int) := by
    rw [e40, find_at e (by simp [h0])]; rfl
  refine ⟨hf, ?_, code_at (r := pre ++ 40 :: (mid ++ 41 :: post)) (by rw [e]; rfl) rfl, by rw [len_toList, e]; simp only [List.length_append, List.length_cons]; omega⟩
  rw [hf, e41, show ((pre.length + 3 : Nat) : Int) + 1 = ((pre.length + 4 : Nat) : Int) by omega]
  exact find3_at (pre := (50 :: 50 :: 57 :: pre) ++ [40]) (post := post) (by rw [e]; simp) (by simp) h1
theorem one_ne {a b : Nat} (h : a ≠ b) : ((⟨#[a]⟩ : Str) != ⟨#[b]⟩) = true := bne_iff_ne.mpr fun e => h (by have := congrArg (fun y : Str => y.cps.toList) e; simpa using this)
theorem row4 {x : Str} {pre mid post : List Nat} {a b : Nat} (e : x.cps.toList = (50 :: 50 :: 57 :: pre) ++ 40 :: ((a :: (mid ++ [b])) ++ 41 :: post)) (h0 : 40 ∉ pre) (h1 : 41 ∉ (a :: (mid ++ [b]))) (hab : a ≠ b) (hx : x.length ≤ 400) : GivesRow w mean mg mb 163 3 20 x (Str.ofString "proto") x := by
  obtain ⟨hf, hr, hc, hl⟩ := both e h0 h1
  have i1 : Txt.item x (Txt.find x (Str.ofString "(") + 1) = ⟨#[a]⟩ := by
    rw [hf, show ((pre.length + 3 : Nat) : Int) + 1 = ((pre.length + 4 : Nat) : Int) by omega]
    exact item_at (pre := (50 :: 50 :: 57 :: pre) ++ [40]) (post := mid ++ [b] ++ 41 :: post) (by rw [e]; simp) (by simp)
  have i2 : Txt.item x (Txt.find3 x (Str.ofString ")") (Txt.find x (Str.ofString "(") + 1) - 1) = ⟨#[b]⟩ := by
    rw [hr, show ((pre.length + 4 + (a :: (mid ++ [b])).length : Nat) : Int) - 1 = ((pre.length + 5 + mid.length : Nat) : Int) by simp only [List.length_cons, List.length_append, List.length_nil]; omega]
    exact item_at (pre := (50 :: 50 :: 57 :: pre) ++ 40 :: a :: mid) (post := 41 :: post) (by rw [e]; simp) (by simp only [List.length_append, List.length_cons]; omega)
  simp only [List.length_cons, List.length_append, List.length_nil] at hr hl
  intro ta
  refine sp_refused4 w mean mg mb x ta hx hc (by rw [hf]; omega) (by rw [hf]; omega) ?_ ?_ ?_ ?_
  · rw [hr, hf]; omega
  · rw [hr]; omega
  · rw [hr]; omega
  · rw [i1, i2]; exact one_ne hab
theorem row4e {x : Str} (e : x = Str.ofString "229 ()") : GivesRow w mean mg mb 163 3 20 x (Str.ofString "proto") x := by
  subst e
  intro ta
  exact sp_refused4 w mean mg mb _ ta (by decide +kernel) (by decide +kernel) (by decide +kernel) (by decide +kernel) (by decide +kernel) (by decide +kernel) (by decide +kernel) (by decide +kernel)
theorem row5 {x : Str} {pre mid post : List Nat} {a : Nat} (e : x.cps.toList = (50 :: 50 :: 57 :: pre) ++ 40 :: ((a :: (mid ++ [a])) ++ 41 :: post)) (h0 : 40 ∉ pre) (h1 : 41 ∉ (a :: (mid ++ [a]))) (h5 : (splitA a [] (a :: (mid ++ [a]))).length ≠ 5) (hx : x.length ≤ 400) : GivesRow w mean mg mb 163 3 20 x (Str.ofString "proto") x := by
  obtain ⟨hf, hr, hc, hl⟩ := both e h0 h1
  have i1 : Txt.item x (Txt.find x (Str.ofString "(") + 1) = ⟨#[a]⟩ := by
    rw [hf, show ((pre.length + 3 : Nat) : Int) + 1 = ((pre.length + 4 : Nat) : Int) by omega]
    exact item_at (pre := (50 :: 50 :: 57 :: pre) ++ [40]) (post := mid ++ [a] ++ 41 :: post) (by rw [e]; simp) (by simp)
  have i2 : Txt.item x (Txt.find3 x (Str.ofString ")") (Txt.find x (Str.ofString "(") + 1) - 1) = ⟨#[a]⟩ := by
    rw [hr, show ((pre.length + 4 + (a :: (mid ++ [a])).length : Nat) : Int) - 1 = ((pre.length + 5 + mid.length : Nat) : Int) by simp only [List.length_cons, List.length_append, List.length_nil]; omega]
    exact item_at (pre := (50 :: 50 :: 57 :: pre) ++ 40 :: a :: mid) (post := 41 :: post) (by rw [e]; simp) (by simp only [List.length_append, List.length_cons]; omega)
  have hs : (Txt.slice x (some (Txt.find x (Str.ofString "(") + 1)) (some (Txt.find3 x (Str.ofString ")") (Txt.find x (Str.ofString "(") + 1)))).cps.toList = a :: (mid ++ [a]) := by
    rw [hr, hf, show ((pre.length + 3 : Nat) : Int) + 1 = ((pre.length + 4 : Nat) : Int) by omega]
    exact slice_at (pre := (50 :: 50 :: 57 :: pre) ++ [40]) (post := 41 :: post) (by rw [e]; simp) (by simp) rfl
  have h6 : (Txt.split (Txt.slice x (some (Txt.find x (Str.ofString "(") + 1)) (some (Txt.find3 x (Str.ofString ")") (Txt.find x (Str.ofString "(") + 1)))) (Txt.item x (Txt.find x (Str.ofString "(") + 1))).length ≠ 5 := by
    rw [i1]
    have := split_at (x := Txt.slice x (some (Txt.find x (Str.ofString "(") + 1)) (some (Txt.find3 x (Str.ofString ")") (Txt.find x (Str.ofString "(") + 1)))) (c := a) (by rw [hs]; exact .head _)
    rw [hs] at this
    rw [← this, List.length_map] at h5
    exact h5
  simp only [List.length_cons, List.length_append, List.length_nil] at hr hl
  intro ta
  refine sp_refused5 w mean mg mb x a ta hx hc (by rw [hf]; omega) (by rw [hf]; omega) ?_ ?_ ?_ ?_ i1 h6
  · rw [hr, hf]; omega
  · rw [hr]; omega
  · rw [hr]; omega
  · rw [i1, i2]; simp
theorem rowR {x : Str} (t : List Nat) (h : x.cps.toList.take 3 = t) (hne : t ≠ [50, 50, 57]) (hl : 3 ≤ x.length) (hx : x.length ≤ 400) : GivesRow w mean mg mb 163 3 20 x (Str.ofString "reply") x := by
  intro ta
  exact sp_refused w mean mg mb x ta hx (code_ne t h hl hne)
end
theorem num_len14 {n : Int} (h0 : -(2^40) < n) (h1 : n < 2^40) : (numS n).cps.toList.length ≤ 14 := by rw [← len_toList]; exact num_len h0 h1
set_option maxHeartbeats 2000000 in
theorem refusals_spec (w : World) (mean : ExcName → Option Value) (mg mb : Str → Option Value) (n : Int) (c : Nat) (h0 : -(2^40) < n) (h1 : n < 2^40) (hc : 64 ≤ c) (hc2 : c ≤ 1114111) (hx : c ≠ 120) :
    ∀ q ∈ ([(Str.ofString "proto", Str.ofString "229" ++ Str.ofString " 272)"), (Str.ofString "proto", Str.ofString "229" ++ (Str.ofString " ) (" ++ innerS n c ++ Str.ofString "x")), (Str.ofString "proto", Str.ofString "229" ++ (Str.ofString " (" ++ innerS n c ++ Str.ofString "x)")),
      (Str.ofString "proto", Str.ofString "229" ++ (Str.ofString " (" ++ ⟨#[c]⟩ ++ innerS n c ++ Str.ofString ")")), (Str.ofString "proto", Str.ofString "229" ++ (Str.ofString " (" ++ Txt.slice (innerS n c) (some 2) none ++ Str.ofString ")")), (Str.ofString "proto", Str.ofString "229" ++ Str.ofString " ()"),
      (Str.ofString "reply", Str.ofString "228" ++ (Str.ofString " (" ++ innerS n c ++ Str.ofString ")")), (Str.ofString "reply", Str.ofString "228" ++ Str.ofString " 272)"), (Str.ofString "reply", Str.ofString "129" ++ (Str.ofString " (" ++ innerS n c ++ Str.ofString ")")), (Str.ofString "reply", Str.ofString "129" ++ Str.ofString " 272)"),
      (Str.ofString "reply", Str.ofString "239" ++ (Str.ofString " (" ++ innerS n c ++ Str.ofString ")")), (Str.ofString "reply", Str.ofString "239" ++ Str.ofString " 272)")] : List (Str × Str)), GivesRow w mean mg mb 163 3 20 q.2 q.1 q.2 ∧ (PyData.strOk q.1 = true ∧ PyData.strOk q.2 = true) := by
  have hD := num_len14 h0 h1
  have d40 : (40 : Nat) ∉ (numS n).cps.toList := num_no (by decide)
  have d41 : (41 : Nat) ∉ (numS n).cps.toList := num_no (by decide)
  have dc : c ∉ (numS n).cps.toList := num_no (by omega)
  have hI := inner_list n c
  have hSl : (Txt.slice (innerS n c) (some 2) none).cps.toList = c :: 57 :: c :: ((numS n).cps.toList ++ [c]) := by
    have := slice_from (x := innerS n c) (i := 2) (by rw [len_toList, hI]; simp)
    rw [hI] at this
    exact this
  have okI : PyData.strOk (innerS n c) = true := by
    have key : ∀ y : Str, (∀ a ∈ y.cps.toList, a ≤ 1114111) → PyData.strOk y = true := fun y hy => by
      unfold PyData.strOk
      rw [← Array.all_toList, List.all_eq_true]
      intro a ha
      have := hy a ha
      exact decide_eq_true (by omega)
    refine key _ fun a ha => ?_
    rw [hI] at ha
    simp only [List.mem_cons, List.mem_append, List.not_mem_nil, or_false] at ha
    rcases ha with rfl | rfl | rfl | rfl | rfl | ha | rfl
    · exact hc2
    · omega
    · exact hc2
    · omega
    · exact hc2
    · by_cases q : a ≤ 1114111
      · exact q
      · exact absurd ha (num_no (by omega))
    · exact hc2
  have okS : PyData.strOk (Txt.slice (innerS n c) (some 2) none) = true := by
    have key : ∀ y : Str, (∀ a ∈ y.cps.toList, a ≤ 1114111) → PyData.strOk y = true := fun y hy => by
      unfold PyData.strOk
      rw [← Array.all_toList, List.all_eq_true]
      intro a ha
      have := hy a ha
      exact decide_eq_true (by omega)
    refine key _ fun a ha => ?_
    rw [hSl] at ha
    simp only [List.mem_cons, List.mem_append, List.not_mem_nil, or_false] at ha
    rcases ha with rfl | rfl | rfl | ha | rfl
    · exact hc2
    · omega
    · exact hc2
    · by_cases q : a ≤ 1114111
      · exact q
      · exact absurd ha (num_no (by omega))
    · exact hc2
  have ok1 : PyData.strOk ⟨#[c]⟩ = true := strOk_one hc2
  have cl : ∀ s : String, PyData.strOk (Str.ofString s) = true → PyData.strOk (Str.ofString s) = true := fun _ h => h
  have hlx : ∀ {y : Str} {k : Nat}, y.cps.toList.length = k → k ≤ 400 → y.length ≤ 400 := fun h1 h2 => by rw [len_toList, h1]; exact h2
  have n40 : (40 : Nat) ≠ c := by omega
  have n41 : (41 : Nat) ≠ c := by omega
  have n55 : (55 : Nat) ≠ c := by omega
  have n57 : (57 : Nat) ≠ c := by omega
  have n41' : ¬ (41 : Nat) = c := n41
  have okp : PyData.strOk (Str.ofString "proto") = true := by decide +kernel
  have okr : PyData.strOk (Str.ofString "reply") = true := by decide +kernel
  have hIl : (innerS n c).length ≤ 20 := by rw [len_toList, hI]; simp only [List.length_cons, List.length_append, List.length_nil]; omega
  have hSn : (Txt.slice (innerS n c) (some 2) none).length ≤ 20 := len_slice_le hIl
  refine List.forall_mem_cons.mpr ⟨⟨?_, by decide +kernel, by decide +kernel⟩, List.forall_mem_cons.mpr ⟨⟨?_, okp, ?_⟩, List.forall_mem_cons.mpr ⟨⟨?_, okp, ?_⟩, List.forall_mem_cons.mpr ⟨⟨?_, okp, ?_⟩, List.forall_mem_cons.mpr ⟨⟨?_, okp, ?_⟩, List.forall_mem_cons.mpr ⟨⟨?_, by decide +kernel, by decide +kernel⟩,
    List.forall_mem_cons.mpr ⟨⟨?_, okr, ?_⟩, List.forall_mem_cons.mpr ⟨⟨?_, by decide +kernel, by decide +kernel⟩, List.forall_mem_cons.mpr ⟨⟨?_, okr, ?_⟩, List.forall_mem_cons.mpr ⟨⟨?_, by decide +kernel, by decide +kernel⟩, List.forall_mem_cons.mpr ⟨⟨?_, okr, ?_⟩, List.forall_mem_cons.mpr ⟨⟨?_, by decide +kernel, by decide +kernel⟩, List.forall_mem_nil _⟩⟩⟩⟩⟩⟩⟩⟩⟩⟩⟩⟩
  · intro ta
    exact sp_refused2 w mean mg mb _ ta (by decide +kernel) (by decide +kernel) (by decide +kernel)
  · refine row3 w mean mg mb (pre := [32, 41, 32]) (post := c :: 55 :: c :: 57 :: c :: ((numS n).cps.toList ++ [c]) ++ [120]) ?_ (by decide) ?_ ?_
    · simp only [app_list, hI]; rfl
    · simp only [List.cons_append, List.append_assoc, List.mem_cons, List.mem_append, List.not_mem_nil, or_false, d41, n41, false_or]; simp; try omega
    · (repeat' first | exact fits20 (by with_reducible assumption) rfl | (with_reducible refine len_half ?_ ?_) | exact Nat.le_of_ble_eq_true rfl)
  · dsimp only; rw [strOk_app, strOk_app, strOk_app, okI]; decide +kernel
  · refine row4 w mean mg mb (pre := [32]) (a := c) (b := 120) (mid := 55 :: c :: 57 :: c :: ((numS n).cps.toList ++ [c])) (post := []) ?_ (by decide) ?_ hx ?_
    · simp only [app_list, hI]; simp; rfl
    · simp only [List.cons_append, List.append_assoc, List.mem_cons, List.mem_append, List.not_mem_nil, or_false, d41, n41, false_or]; simp; try omega
    · (repeat' first | exact fits20 (by with_reducible assumption) rfl | (with_reducible refine len_half ?_ ?_) | exact Nat.le_of_ble_eq_true rfl)
  · dsimp only; rw [strOk_app, strOk_app, strOk_app, okI]; decide +kernel
  · refine row5 w mean mg mb (pre := [32]) (a := c) (mid := c :: 55 :: c :: 57 :: c :: (numS n).cps.toList) (post := []) ?_ (by decide) ?_ ?_ ?_
    · simp only [app_list, hI]; simp; rfl
    · simp only [List.cons_append, List.append_assoc, List.mem_cons, List.mem_append, List.not_mem_nil, or_false, d41, n41, false_or]; simp; try omega
    · simp only [List.cons_append, splitA_sign]
      rw [splitA, if_neg n55, splitA_sign, splitA, if_neg n57, splitA_sign, splitA_app _ _ dc, splitA_sign, splitA]
      simp
    · (repeat' first | exact fits20 (by with_reducible assumption) rfl | (with_reducible refine len_half ?_ ?_) | exact Nat.le_of_ble_eq_true rfl)
  · dsimp only; rw [strOk_app, strOk_app, strOk_app, strOk_app, okI, ok1]; decide +kernel
  · refine row5 w mean mg mb (pre := [32]) (a := c) (mid := 57 :: c :: (numS n).cps.toList) (post := []) ?_ (by decide) ?_ ?_ ?_
    · simp only [app_list, hSl]; simp; rfl
    · simp only [List.cons_append, List.append_assoc, List.mem_cons, List.mem_append, List.not_mem_nil, or_false, d41, n41, false_or]; simp; try omega
    · simp only [List.cons_append, splitA_sign]
      rw [splitA, if_neg n57, splitA_sign, splitA_app _ _ dc, splitA_sign, splitA]
      simp
    · (repeat' first | exact fits20 (by with_reducible assumption) rfl | (with_reducible refine len_half ?_ ?_) | exact Nat.le_of_ble_eq_true rfl)
  · dsimp only; rw [strOk_app, strOk_app, strOk_app, okS]; decide +kernel
  · exact row4e w mean mg mb rfl
  · refine rowR w mean mg mb [50, 50, 56] (by simp only [app_list]; rfl) (by decide) (by rw [len_app]; exact Nat.le_add_right_of_le (by decide +kernel)) ?_
    (repeat' first | exact fits20 (by with_reducible assumption) rfl | (with_reducible refine len_half ?_ ?_) | exact Nat.le_of_ble_eq_true rfl)
  · dsimp only; rw [strOk_app, strOk_app, strOk_app, okI]; decide +kernel
  · exact rowR w mean mg mb [50, 50, 56] (by decide +kernel) (by decide) (by decide +kernel) (by decide +kernel)
  · refine rowR w mean mg mb [49, 50, 57] (by simp only [app_list]; rfl) (by decide) (by rw [len_app]; exact Nat.le_add_right_of_le (by decide +kernel)) ?_
    (repeat' first | exact fits20 (by with_reducible assumption) rfl | (with_reducible refine len_half ?_ ?_) | exact Nat.le_of_ble_eq_true rfl)
  · dsimp only; rw [strOk_app, strOk_app, strOk_app, okI]; decide +kernel
  · exact rowR w mean mg mb [49, 50, 57] (by decide +kernel) (by decide) (by decide +kernel) (by decide +kernel)
  · refine rowR w mean mg mb [50, 51, 57] (by simp only [app_list]; rfl) (by decide) (by rw [len_app]; exact Nat.le_add_right_of_le (by decide +kernel)) ?_
    (repeat' first | exact fits20 (by with_reducible assumption) rfl | (with_reducible refine len_half ?_ ?_) | exact Nat.le_of_ble_eq_true rfl)
  · dsimp only; rw [strOk_app, strOk_app, strOk_app, okI]; decide +kernel
  · exact rowR w mean mg mb [50, 51, 57] (by decide +kernel) (by decide) (by decide +kernel) (by decide +kernel)
end

-- SV0
section
/-- where a word fails, if it fails anywhere -/
noncomputable def eps {α : Type} (i : α) (P : α → Prop) : α := @Classical.epsilon α ⟨i⟩ fun a => ¬ P a
theorem eps_all {α : Type} {i : α} {P : α → Prop} (h : P (eps i P)) (a : α) : P a :=
  Classical.byContradiction fun n => @Classical.epsilon_spec_aux α ⟨i⟩ (fun a => ¬ P a) ⟨a, n⟩ h
def aWorld : World := ⟨fun _ _ => 0, { strHash := fun _ => 0, shareClass := fun _ => 0, mergeTok := id, idOf := fun _ => 0, idOfShared := fun _ _ => 0, followText := fun _ => false, idOfImm := fun _ => 0 }⟩
end

-- EnterE
section
section
variable {prog : Program} {w : World} {A : Around} {K : Frag} {s : Shared} {base : Heap} {outer : List Env} {p : Program} {loose : List Str} {mean : ExcName → Option Value} {mg mb : Str → Option Value}
  {R : Result → Shared → Prop} {name qual : Str} {params : Arguments} {body : List Stmt} {scope : Scope} {dV kV doc pm cdv ct oc : Value} {an od : Option Addr} {osl : Array (Option Value)} {f : Addr} {args : Args} {binds : List (Str × Value)}
theorem enterE (B : Below A base outer s.heap) (X : K.In s.heap) (T : Top p loose mean mg mb s.heap)
    (ho : K.lookup f = some ⟨oc, od, .func (fnOf name qual params body scope dV kV doc pm an cdv ct), osl⟩) (hcd : codeIn K cdv qual = true) (hroom : A.depth < recursionLimit)
    (hbind : BindsTo s (fnOf name qual params body scope dV kV doc pm an cdv ct) args binds) (hloc : ∀ y ∈ binds, scope.names.lookup y.1 = some .local)
    (h : ∀ h₁, Below A base outer s.heap → K.In s.heap → Top p loose mean mg mb s.heap → Fr s.heap s.heap.objs.size h₁ (fun y => binds.reverse.lookup y) → News s.heap s.heap.objs.size h₁ [] →
      wpAny (model prog w) (A.deeper (envOf qual scope s.heap.objs.size f cdv)) (execs body (envOf qual scope s.heap.objs.size f cdv))
        (fun fl s' => R (.ok (.ret (match fl with | .ret v => v | _ => .none))) s')
        (fun e s' => wpAny (model prog w) (A.deeper (envOf qual scope s.heap.objs.size f cdv)) (leaving (envOf qual scope s.heap.objs.size f cdv) e) (fun _ s'' => R (.error e) s'') (fun e' s'' => R (.error e') s'') s')
        { s with heap := h₁, toks := s.toks + binds.length })
    (hco : scope.isCoroutine = false) (hgen : scope.isGenerator = false) (hk : scope.kind = .function)
    (hcell : ∀ x ∈ scope.names, x.2 ≠ .cell) : codeAny (model prog w) A (.call (.ref f) args) R s := by
  refine codeAny_call_def (fd := fnOf name qual params body scope dV kV doc pm an cdv ct) (body := body) (binds := binds) hroom (X _ _ ho) rfl T.nolimit (codeRec_of X hcd) rfl hbind hcell hloc (fun h₁ hns hk₁ => ?_) hco hgen hk
  exact h h₁ B X T ⟨hns, hk₁, Nat.le_refl _⟩ News.nil
theorem enterCE (B : Below A base outer s.heap) (X : K.In s.heap) (T : Top p loose mean mg mb s.heap)
    (ho : K.lookup f = some ⟨oc, od, .func (fnOf name qual params body scope dV kV doc pm an cdv ct), osl⟩) (hcd : codeIn K cdv qual = true) (hroom : A.depth < recursionLimit)
    (hbind : BindsTo s (fnOf name qual params body scope dV kV doc pm an cdv ct) args binds) (hkind : (binds.all fun y => scope.names.lookup y.1 == some .local || scope.names.lookup y.1 == some .cell) = true)
    (hnd : ((cellsFrom 0 scope.names []).map (·.1)).Nodup)
    (h : ∀ h₁ tk cells, Below A base outer s.heap → K.In s.heap → Top p loose mean mg mb s.heap → Fr s.heap s.heap.objs.size h₁ (bindL (envOfC qual scope s.heap.objs.size f cdv).kindOf binds fun _ => none) → News s.heap s.heap.objs.size h₁ cells →
      CellsAre (bindC (envOfC qual scope s.heap.objs.size f cdv).kindOf binds fun _ => none) (cellsFrom (s.heap.objs.size + 1) scope.names []) cells →
      wpAny (model prog w) (A.deeper (envOfC qual scope s.heap.objs.size f cdv)) (execs body (envOfC qual scope s.heap.objs.size f cdv))
        (fun fl s' => R (.ok (.ret (match fl with | .ret v => v | _ => .none))) s')
        (fun e s' => wpAny (model prog w) (A.deeper (envOfC qual scope s.heap.objs.size f cdv)) (leaving (envOfC qual scope s.heap.objs.size f cdv) e) (fun _ s'' => R (.error e) s'') (fun e' s'' => R (.error e') s'') s')
        { s with heap := h₁, toks := tk })
    (hco : scope.isCoroutine = false) (hgen : scope.isGenerator = false) (hk : scope.kind = .function) : codeAny (model prog w) A (.call (.ref f) args) R s := by
  refine codeAny_call_function hroom (X _ _ ho) rfl hco hgen rfl (codeRec_of X hcd) (hbind _ _ _ _ ?_)
  refine wpAny_newFunctionEnv_cells hk (kindsX hkind _) fun env' he s' x => ?_
  subst he
  refine ⟨T.nolimit.keeps x.toInCall.keep, codeAny_func ?_⟩
  obtain ⟨h₁, tk, rfl, _⟩ := x.done
  have hk₁ := x.toInCall.keep
  obtain ⟨cells, NC, Y⟩ := Cl.news (h₀ := s.heap) (Nat.le_refl _) fun n c hm => ⟨x.cell n c (lookup_of_mem_nodup (cellsFrom_names scope.names 0 (s.heap.objs.size + 1) [] [] rfl ▸ hnd) hm), x.above n c hm⟩
  exact h h₁ tk cells B X T ⟨x.toInCall.ns, hk₁, Nat.le_refl _⟩ NC Y
end
end

-- X_due
section
set_option genInjectivity false in
structure ZVdue where
  w : World
  mean : ExcName → Option Value
  mg : Str → Option Value
  mb : Str → Option Value
  n : Int
  e : Int
  ta : Tok
  tb : Tok
  dp : Nat
  un : Nat
  gd : Option (List Code)
  outer : List Env
  base : Heap
  s : Shared
  R : Result → Shared → Prop
def PZdue (zv : ZVdue) : Prop := (-2^40 < zv.n) → (zv.n < 2^40) → (0 ≤ zv.e) → (zv.e < 64) → Below (topA zv.dp zv.un zv.gd zv.outer) zv.base zv.outer zv.s.heap → Frag.In (Mine.hd.heap_39 zv.w.params) zv.s.heap → Top Mine.hd.view_39 (looseW Mine.hd.view_39 []) zv.mean zv.mg zv.mb zv.s.heap →
    zv.dp + 1 < recursionLimit → zv.un + 3 < cLine → (fun _ => True) zv.s.heap →
    (∀ r h' tk', (∀ b o, zv.s.heap.get? b = some o → h'.get? b = some o) → (fun h h' v => ∃ D zn, v = .ref D ∧ h'.get? D = some (listOf [.bool (decide (zv.n % 4 = 1)), .bool (decide (zv.e / 1 % 2 = 0)), .bool (decide (zv.e / 2 % 2 = 0)), .bool (decide (zv.e / 4 % 2 = 0)), .bool (decide (zv.e / 8 % 2 = 0)), .bool (decide (zv.e / 16 % 2 = 0)), .bool (decide (zv.e / 32 % 2 = 0))].toArray zn) ∧ h.get? D = none) zv.s.heap h' r → zv.R (.ok (.ret r)) (Shared.mk h' zv.s.gens zv.s.drawn tk' zv.s.os)) →
    codeAny (model PySem.Challenge.pw_yf0007_01 zv.w) (topA zv.dp zv.un zv.gd zv.outer) (.call (.ref 216) ⟨[.int zv.n zv.ta, .int zv.e zv.tb], []⟩) zv.R zv.s
def aZVdue : ZVdue where
  w := aWorld
  mean := fun _ => none
  mg := fun _ => none
  mb := fun _ => none
  n := 0
  e := 0
  ta := 0
  tb := 0
  dp := 0
  un := 0
  gd := none
  outer := []
  base := {}
  s := {}
  R := fun _ _ => True
@[irreducible] noncomputable def cZdue : ZVdue := eps aZVdue PZdue
theorem lt6 {i : Nat} (h : i < 6) : i = 0 ∨ i = 1 ∨ i = 2 ∨ i = 3 ∨ i = 4 ∨ i = 5 := by revert i; decide
theorem pow_fact (e : Int) {i : Nat} (h : i < 6) : 1 ≤ (2 : Int) ^ (0 + (i : Int)).toNat ∧ (2 : Int) ^ (0 + (i : Int)).toNat ≤ 32 ∧ [decide (e / 1 % 2 = 0), decide (e / 2 % 2 = 0), decide (e / 4 % 2 = 0), decide (e / 8 % 2 = 0), decide (e / 16 % 2 = 0), decide (e / 32 % 2 = 0)].getD i false = decide (e / (2 : Int) ^ (0 + (i : Int)).toNat % 2 = 0) := by
  rcases lt6 h with rfl | rfl | rfl | rfl | rfl | rfl <;> exact ⟨by decide, by decide, rfl⟩
set_option maxHeartbeats 4000000 in
theorem st_due : PZdue cZdue := by
  k_with_none
  w_top off
  k_with "own binaryOp Mod int int" => (k_here; (with_reducible refine mod_e ?_ ?_); (focus (first | decide | omega)); intro k')
  k_with "own binaryOp FloorDiv int int" => (k_here; (with_reducible refine div_e ?_ ?_ ?_); (focus (first | decide | omega)); (focus (exact PyProof.noPylong_small (by first | decide | omega))); intro k')
  k_with "own eval ListComp" => (k_here; (with_reducible show wpAny _ _ (eval (Expr.ListComp _ _ _ _) _) _ _ _); lcf_look; lcg_calm; k_dflt (refine LCg.ListComp_U (F₀ := by k_asm) (by with_unfolding_all rfl) (by decide) (by rfl) (by decide) (by rfl) ?_); k_dflt lcg_toSrc)
  k_with "own CompSrc" => (k_dflt (k_extra "my CompSrc"))
  k_with "my CompSrc" => (
    (rename Fr _ _ _ _ => F8); (rename News _ _ _ _ => N8)
    refine' CompSrc.ownR 6 (TB [decide (cZdue.e / 1 % 2 = 0), decide (cZdue.e / 2 % 2 = 0), decide (cZdue.e / 4 % 2 = 0), decide (cZdue.e / 8 % 2 = 0), decide (cZdue.e / 16 % 2 = 0), decide (cZdue.e / 32 % 2 = 0)]) ?ch F8 N8 ?chr ?csm ?chn ?csz ?cturn ?cfin
    case ch => exact rfl
    case chr => assumption
    case csm => exact rfl
    case chn => exact rfl
    case csz => exact rfl
    case cturn =>
      clear F8 N8
      intro g9 i9 v9 hi9 hv9
      obtain ⟨t9, rfl⟩ := hv9
      obtain ⟨p0, p1, p2⟩ := pow_fact cZdue.e hi9
      have p3 : (0 : Int) + (i9 : Int) ≤ 5 := by omega
      have p4 : (0 : Int) ≤ 0 + (i9 : Int) := by omega
      intro C9 oC9 m9 h9 tk9 E9 extra9 hC9 hx9 F9 N9
      simp only [List.cons_append, List.nil_append] at N9
      k_steps
      (rename Fr _ _ _ _ => F7); (rename News _ _ _ _ => N7)
      exact TEnd.val F7 N7 (fun p hp => hp) ⟨congrArg Value.bool (by rw [p2]; simp [beqd]), rfl⟩
    case' cfin =>
      intro g9 ys9 res9 hr9 hy9
      obtain ⟨rfl, rfl⟩ := rows_bools hr9 hy9
      clear F8 N8 hr9 hy9
      (first | unfold LCg.FinE | unfold LCg.FinA)
      intro D9 h9 tk9 F9 N9 o9
      (try simp only [List.cons_append, List.nil_append, List.append_nil, List.map_cons, List.map_nil] at N9))
  unfold PZdue
  intro h0 h1 h2 h3 B X T hd hu hpre hret
  k_dflt (refine' enterCE ?k1 ?k2 ?k3 ?k6 ?k7 ?k8 ?k9 ?kB ?kD ?_ ?c2 ?c3 ?c4; (case k1 => exact B); (case k2 => exact X); (case k3 => exact T); (case k6 => k_is); (case k7 => k_is); (case k8 => ktr_room); (case k9 => exact BindsTo.of_eq rfl); (case kB => exact rfl); (case kD => decide +kernel); (case c2 => exact rfl); (case c3 => exact rfl); (case c4 => exact rfl); k_whole)
  clear B X T
  intro h' tk' cells' B' X' T' F' N' Y'
  k_cells Y'
  (try simp only [List.cons_append, List.nil_append] at N')
  (try dsimp only)
  (try dsimp only at hpre)
  (try k_fold)
  k_steps
  all_goals ((try dsimp only); refine hret _ _ _ (Fr.keep (by assumption)) ?_)
  all_goals (refine' ⟨_, _, rfl, ?gg, ?ff⟩; (case ff => exact new_none (h := _) (by assumption)); (case gg => refine got_new (by assumption) (lst_eq ?_ rfl); simp [beqd]; done))
theorem sp_due (w : World) (mean : ExcName → Option Value) (mg mb : Str → Option Value) (n e : Int) (ta tb : Tok) (h0 : -2^40 < n) (h1 : n < 2^40) (h2 : 0 ≤ e) (h3 : e < 64) :
    Spec w mean mg mb 216 1 3 [.int n ta, .int e tb] (fun _ => True) (fun h h' v => ∃ D zn, v = .ref D ∧ h'.get? D = some (listOf [.bool (decide (n % 4 = 1)), .bool (decide (e / 1 % 2 = 0)), .bool (decide (e / 2 % 2 = 0)), .bool (decide (e / 4 % 2 = 0)), .bool (decide (e / 8 % 2 = 0)), .bool (decide (e / 16 % 2 = 0)), .bool (decide (e / 32 % 2 = 0))].toArray zn) ∧ h.get? D = none) := by
  have eZ : cZdue = eps aZVdue PZdue := by unfold cZdue; rfl
  have hZ := st_due
  rw [eZ] at hZ
  unfold Spec
  intro dp un gd outer base s R
  exact eps_all hZ (ZVdue.mk w mean mg mb n e ta tb dp un gd outer base s R) h0 h1 h2 h3
end

-- X_need
section
set_option genInjectivity false in
structure ZVneed where
  w : World
  mean : ExcName → Option Value
  mg : Str → Option Value
  mb : Str → Option Value
  n : Int
  b : Int
  e : Int
  rest : List Int
  ta : Tok
  tb : Tok
  dp : Nat
  un : Nat
  gd : Option (List Code)
  outer : List Env
  base : Heap
  s : Shared
  R : Result → Shared → Prop
def PZneed (zv : ZVneed) : Prop := (-2^40 < zv.n) → (zv.n < 2^40) → (-2^10 < zv.b) → (zv.b < 2^10) → (needL zv.n zv.b = zv.e :: zv.rest) → Below (topA zv.dp zv.un zv.gd zv.outer) zv.base zv.outer zv.s.heap → Frag.In (Mine.hd.heap_39 zv.w.params) zv.s.heap → Top Mine.hd.view_39 (looseW Mine.hd.view_39 []) zv.mean zv.mg zv.mb zv.s.heap →
    zv.dp + 1 < recursionLimit → zv.un + 3 < cLine → (fun _ => True) zv.s.heap →
    (∀ r h' tk', (∀ b o, zv.s.heap.get? b = some o → h'.get? b = some o) → (fun _ _ v => ∃ t, v = .int zv.e t) zv.s.heap h' r → zv.R (.ok (.ret r)) (Shared.mk h' zv.s.gens zv.s.drawn tk' zv.s.os)) →
    codeAny (model PySem.Challenge.pw_yf0007_01 zv.w) (topA zv.dp zv.un zv.gd zv.outer) (.call (.ref 211) ⟨[.int zv.n zv.ta, .int zv.b zv.tb], []⟩) zv.R zv.s
def aZVneed : ZVneed where
  w := aWorld
  mean := fun _ => none
  mg := fun _ => none
  mb := fun _ => none
  n := 0
  b := 0
  e := 0
  rest := []
  ta := 0
  tb := 0
  dp := 0
  un := 0
  gd := none
  outer := []
  base := {}
  s := {}
  R := fun _ _ => True
@[irreducible] noncomputable def cZneed : ZVneed := eps aZVneed PZneed
set_option maxHeartbeats 1600000 in
theorem st_need : PZneed cZneed := by
  k_with_none
  w_top off
  k_with "own binaryOp Mod int int" => (k_here; (with_reducible refine mod_e ?_ ?_); (focus (first | decide | omega)); intro k')
  k_with "own CompEnd" => (k_here; (first | refine' comp_el ?F ?N ?sub ?off ?S ?e | refine' comp_no ?F ?N ?sub ?off ?S ?e); (case F => assumption); (case N => assumption); (case sub => exact fun p hp => .tail _ hp); (case off => ((try simp only [LCg.Off3, and_true]); first | assumption | simp_all)); (case S => exact trivial); (case e => kpf_eq))
  k_with "own subscriptTail Name Constant ref int" => (k_here; (refine' item_need ?N ?m ?i ?e ?_; (case N => k_asm); (case m => k_mem); (case i => assumption); (case e => assumption)); intro t')
  unfold PZneed
  intro h0 h1 h2 h3 hG B X T hd hu hpre hret
  k_dflt (refine' enterCE ?k1 ?k2 ?k3 ?k6 ?k7 ?k8 ?k9 ?kB ?kD ?_ ?c2 ?c3 ?c4; (case k1 => exact B); (case k2 => exact X); (case k3 => exact T); (case k6 => k_is); (case k7 => k_is); (case k8 => ktr_room); (case k9 => exact BindsTo.of_eq rfl); (case kB => exact rfl); (case kD => decide +kernel); (case c2 => exact rfl); (case c3 => exact rfl); (case c4 => exact rfl); k_whole)
  clear B X T
  intro h' tk' cells' B' X' T' F' N' Y'
  k_cells Y'
  (try simp only [List.cons_append, List.nil_append] at N')
  (try dsimp only)
  (try dsimp only at hpre)
  (try k_fold)
  k_steps
  all_goals ((try dsimp only); refine hret _ _ _ (Fr.keep (by assumption)) ?_)
  all_goals (exact ⟨_, rfl⟩)
theorem sp_need (w : World) (mean : ExcName → Option Value) (mg mb : Str → Option Value) (n b e : Int) (rest : List Int) (ta tb : Tok) (h0 : -2^40 < n) (h1 : n < 2^40) (h2 : -2^10 < b) (h3 : b < 2^10) (hG : needL n b = e :: rest) :
    Spec w mean mg mb 211 1 3 [.int n ta, .int b tb] (fun _ => True) (fun _ _ v => ∃ t, v = .int e t) := by
  have eZ : cZneed = eps aZVneed PZneed := by unfold cZneed; rfl
  have hZ := st_need
  rw [eZ] at hZ
  unfold Spec
  intro dp un gd outer base s R
  exact eps_all hZ (ZVneed.mk w mean mg mb n b e rest ta tb dp un gd outer base s R) h0 h1 h2 h3 hG
end

-- LawE
section
section
variable {prog : Program} {w : World} {A : Around} {E : Value → Shared → Prop} {s : Shared} {Q : Value → Shared → Prop} {h₀ h : Heap} {L D D' X0 X1 X2 X3 Y0 Y1 Y2 Y3 : Addr} {m : Str → Option Value} {news : List (Addr × Obj)} {z z' : Nat} {p0 p1 p2 p3 : Int} {w0 w1 w2 w3 v0 v1 v2 v3 w0' w1' w2' w3' v0' v1' v2' v3' : Tok}
def tupD (n : Int) : PyData := .tuple [.str (Str.ofString "h" ++ Str.ofString (toString n)), .int n]
theorem reads_tupO {X : Addr} {n : Int} {t u : Tok} (e : h.get? X = some (tupO n t u)) : Reads h (.ref X) (tupD n) [] :=
  .tuple e rfl rfl (by
    have := ReadsAll.cons (h := h) (Reads.str (Str.ofString "h" ++ Str.ofString (toString n)) t) (ReadsAll.cons (Reads.int n u) ReadsAll.nil)
    simpa using this)
theorem reads_told (e : h.get? D = some (listOf [.ref X0, .ref X1, .ref X2, .ref X3].toArray z)) (e0 : h.get? X0 = some (tupO p0 w0 v0)) (e1 : h.get? X1 = some (tupO p1 w1 v1)) (e2 : h.get? X2 = some (tupO p2 w2 v2)) (e3 : h.get? X3 = some (tupO p3 w3 v3)) :
    Reads h (.ref D) (.list [tupD p0, tupD p1, tupD p2, tupD p3]) [D] :=
  reads_list_at e rfl rfl (by
    have := ReadsAll.cons (reads_tupO e0) (ReadsAll.cons (reads_tupO e1) (ReadsAll.cons (reads_tupO e2) (ReadsAll.cons (reads_tupO e3) ReadsAll.nil)))
    simpa using this)
theorem eqv_told : PyData.eqv (.list [tupD p0, tupD p1, tupD p2, tupD p3]) (.list [tupD p0, tupD p1, tupD p2, tupD p3]) = true := by
  simp [tupD, PyData.eqv, PyData.eqvAll]
theorem strOk_h (n : Int) : PyData.strOk (Str.ofString "h" ++ Str.ofString (toString n)) = true := by
  unfold PyData.strOk
  rw [← Array.all_toList, app_list, List.all_append, Bool.and_eq_true]
  refine ⟨by decide, ?_⟩
  rw [List.all_eq_true]
  intro c hc
  by_cases h : c < 1114112
  · exact decide_eq_true h
  · exact absurd hc (num_no (by omega))
theorem shaped_told : SeqAt.shaped (.list [tupD p0, tupD p1, tupD p2, tupD p3]) = true := by
  have a := strOk_h p0
  have b := strOk_h p1
  have c := strOk_h p2
  have d := strOk_h p3
  simp only [SeqAt.shaped, tupD, PyData.canLay0, PyData.canLayAll0, PyData.depth, PyData.depthAll, a, b, c, d, Bool.and_self, Bool.true_and]
  decide
theorem ne_told (N : News h₀ L s.heap news) (e : (D, listOf [.ref X0, .ref X1, .ref X2, .ref X3].toArray z) ∈ news) (e0 : (X0, tupO p0 w0 v0) ∈ news) (e1 : (X1, tupO p1 w1 v1) ∈ news) (e2 : (X2, tupO p2 w2 v2) ∈ news) (e3 : (X3, tupO p3 w3 v3) ∈ news)
    (e' : (D', listOf [.ref Y0, .ref Y1, .ref Y2, .ref Y3].toArray z') ∈ news) (e0' : (Y0, tupO p0 w0' v0') ∈ news) (e1' : (Y1, tupO p1 w1' v1') ∈ news) (e2' : (Y2, tupO p2 w2' v2') ∈ news) (e3' : (Y3, tupO p3 w3' v3') ∈ news) (hu : A.units + 64 < cLine) (h : Q (.bool false) s) :
    wpAny (model prog w) A (compareOp .NotEq (.ref D) (.ref D')) Q E s := by
  refine ne_dataH (reads_told (N _ e).1 (N _ e0).1 (N _ e1).1 (N _ e2).1 (N _ e3).1) (reads_told (N _ e').1 (N _ e0').1 (N _ e1').1 (N _ e2').1 (N _ e3').1) shaped_told shaped_told hu ?_
  rw [eqv_told]; exact h
/-- a row of two ints -/
def pairO (a b : Int) (t u : Tok) (z : Nat) : Obj := listOf [.int a t, .int b u].toArray z
def pairD (a b : Int) : PyData := .list [.int a, .int b]
theorem reads_pairO {X : Addr} {a b : Int} {t u : Tok} (e : h.get? X = some (pairO a b t u z)) : Reads h (.ref X) (pairD a b) [X] :=
  reads_list_at e rfl rfl (by
    have := ReadsAll.cons (h := h) (Reads.int a t) (ReadsAll.cons (Reads.int b u) ReadsAll.nil)
    simpa using this)
theorem reads_pairs {a0 a1 a2 a3 : Int} {z0 z1 z2 z3 : Nat} (e : h.get? D = some (listOf [.ref X0, .ref X1, .ref X2, .ref X3].toArray z)) (e0 : h.get? X0 = some (pairO a0 p0 w0 v0 z0)) (e1 : h.get? X1 = some (pairO a1 p1 w1 v1 z1)) (e2 : h.get? X2 = some (pairO a2 p2 w2 v2 z2)) (e3 : h.get? X3 = some (pairO a3 p3 w3 v3 z3)) :
    Reads h (.ref D) (.list [pairD a0 p0, pairD a1 p1, pairD a2 p2, pairD a3 p3]) [D, X0, X1, X2, X3] :=
  reads_list_at e rfl rfl (by
    have := ReadsAll.cons (reads_pairO e0) (ReadsAll.cons (reads_pairO e1) (ReadsAll.cons (reads_pairO e2) (ReadsAll.cons (reads_pairO e3) ReadsAll.nil)))
    simpa using this)
theorem ne_pairs {a0 a1 a2 a3 : Int} {z0 z1 z2 z3 y0 y1 y2 y3 : Nat} (N : News h₀ L s.heap news) (e : (D, listOf [.ref X0, .ref X1, .ref X2, .ref X3].toArray z) ∈ news) (e0 : (X0, pairO a0 p0 w0 v0 z0) ∈ news) (e1 : (X1, pairO a1 p1 w1 v1 z1) ∈ news) (e2 : (X2, pairO a2 p2 w2 v2 z2) ∈ news) (e3 : (X3, pairO a3 p3 w3 v3 z3) ∈ news)
    (e' : (D', listOf [.ref Y0, .ref Y1, .ref Y2, .ref Y3].toArray z') ∈ news) (e0' : (Y0, pairO a0 p0 w0' v0' y0) ∈ news) (e1' : (Y1, pairO a1 p1 w1' v1' y1) ∈ news) (e2' : (Y2, pairO a2 p2 w2' v2' y2) ∈ news) (e3' : (Y3, pairO a3 p3 w3' v3' y3) ∈ news) (hu : A.units + 64 < cLine) (h : Q (.bool false) s) :
    wpAny (model prog w) A (compareOp .NotEq (.ref D) (.ref D')) Q E s := by
  refine ne_dataH (reads_pairs (N _ e).1 (N _ e0).1 (N _ e1).1 (N _ e2).1 (N _ e3).1) (reads_pairs (N _ e').1 (N _ e0').1 (N _ e1').1 (N _ e2').1 (N _ e3').1) rfl rfl hu ?_
  have : PyData.eqv (.list [pairD a0 p0, pairD a1 p1, pairD a2 p2, pairD a3 p3]) (.list [pairD a0 p0, pairD a1 p1, pairD a2 p2, pairD a3 p3]) = true := by simp [pairD, PyData.eqv, PyData.eqvAll]
  rw [this]; exact h
/-- two lists of bools that are alike -/
theorem ne_bools {bs cs : List Bool} {k k' : Nat} (N : News h₀ L s.heap news) (e : (D, listOf (bs.map Value.bool).toArray k) ∈ news) (e' : (D', listOf (cs.map Value.bool).toArray k') ∈ news) (hu : A.units + 64 < cLine) (h : Q (.bool (!decide (bs = cs))) s) :
    wpAny (model prog w) A (compareOp .NotEq (.ref D) (.ref D')) Q E s := by
  refine ne_dataH (reads_bl ⟨_, (N _ e).1, rfl, _, rfl⟩) (reads_bl ⟨_, (N _ e').1, rfl, _, rfl⟩) (shaped_bools bs) (shaped_bools cs) hu ?_
  have : PyData.eqv (bd bs) (bd cs) = decide (bs = cs) := by
    unfold bd
    rw [← eqv_bools]
    simp [PyData.eqv]
  rw [this]; exact h
end
def TPair (ps : List Int) (i : Nat) (y : Value) (objs : List (Addr × Obj)) : Prop := ∃ X t u z, y = .ref X ∧ objs = [(X, pairO (ps.getD i 0 % 256) (ps.getD i 0) t u z)]
def TRow (ps : List Int) (b : Int) (i : Nat) (y : Value) (objs : List (Addr × Obj)) : Prop := ∃ X z, y = .ref X ∧ objs = [(X, listOf (bl (rowD (ps.getD i 0) (needE (ps.getD i 0) b))) z)]
def TNeed (ps : List Int) (b : Int) (i : Nat) (y : Value) (objs : List (Addr × Obj)) : Prop := (∃ t, y = .int (needE (ps.getD i 0) b : Int) t) ∧ objs = []
theorem lt3 {i : Nat} (h : i < 3) : i = 0 ∨ i = 1 ∨ i = 2 := by revert i; decide
theorem lt5 {i : Nat} (h : i < 5) : i = 0 ∨ i = 1 ∨ i = 2 ∨ i = 3 ∨ i = 4 := by revert i; decide
theorem lt7 {i : Nat} (h : i < 7) : i = 0 ∨ i = 1 ∨ i = 2 ∨ i = 3 ∨ i = 4 ∨ i = 5 ∨ i = 6 := by revert i; decide
section
variable {M : Model} {A : Around} {E : Value → Shared → Prop} {s : Shared} {h₀ : Heap} {L : Addr} {m : Str → Option Value} {news : List (Addr × Obj)} {vs : List Value} {Q : Value → Shared → Prop}
theorem newList_ne (F : Fr h₀ L s.heap m) (N : News h₀ L s.heap news) (hs : Nat.ble vs.length sizeLine = true)
    (h : ∀ l h', Fr h₀ L h' m → News h₀ L h' ((l, listOf vs.toArray 0) :: news) → AllNe l news → Q (.ref l) { s with heap := h' }) : wpAny M A (newList vs) Q E s :=
  newList_own F N hs fun l h' F' N' lt => h l h' F' N' (allNe_lt lt)
theorem newTuple_ne (F : Fr h₀ L s.heap m) (N : News h₀ L s.heap news) (hs : Nat.ble vs.length sizeLine = true)
    (h : ∀ D h', Fr h₀ L h' m → News h₀ L h' ((D, ({ cls := .type "tuple", data := .seq vs.toArray } : Obj)) :: news) → AllNe D news → Q (.ref D) { s with heap := h' }) : wpAny M A (newTuple vs) Q E s :=
  kup_newTuple F N (fun D h' F' N' lt => h D h' F' N' fun p hp => Nat.ne_of_lt (lt p hp)) (Nat.le_of_ble_eq_true hs)
end
section
variable {w : World} {mean : ExcName → Option Value} {mg mb : Str → Option Value}
def RowP (l : List Bool) (o : Obj) : Prop := ∃ z, o = listOf (bl l) z
theorem spN_answers (n b turn : Int) (ta tb tc : Tok) (hn : n % 2 = 1) (hb : b % 8 = 5) (h0 : -2^40 < n) (h1 : n < 2^40) (h2 : -2^40 < b) (h3 : b < 2^40) :
    Spec w mean mg mb 194 5 15 [.int n ta, .int b tb, .int turn tc] (fun _ => True) (NewP (RowP (rowD n (needE n b)))) :=
  spec_weak (sp_answers w mean mg mb n b turn ta tb tc h0 h1 h2 h3) fun h h' v q => by
    obtain ⟨D, z, rfl, hD, hf⟩ := q
    obtain ⟨-, -, -, e0, e1, e2, e3, e4, e5, e6⟩ := need_law hn hb
    refine ⟨D, _, rfl, hD, hf, z, ?_⟩
    rw [e0, e1, e2, e3, e4, e5, e6]; rfl
theorem spI_need (n b : Int) (ta tb : Tok) (hn : n % 2 = 1) (hb : b % 8 = 5) (h0 : -2^40 < n) (h1 : n < 2^40) (h2 : -2^10 < b) (h3 : b < 2^10) :
    Spec w mean mg mb 211 1 3 [.int n ta, .int b tb] (fun _ => True) (fun _ _ v => ∃ t, v = .int (needE n b : Int) t) := by
  obtain ⟨-, ⟨rest, e⟩, -⟩ := need_law hn hb
  exact sp_need w mean mg mb n b _ rest ta tb h0 h1 h2 h3 e
theorem spN_due (n : Int) (e : Nat) (ta tb : Tok) (h0 : -2^40 < n) (h1 : n < 2^40) (h2 : e < 64) :
    Spec w mean mg mb 216 1 3 [.int n ta, .int (e : Int) tb] (fun _ => True) (NewP (RowP (rowD n e))) :=
  spec_weak (sp_due w mean mg mb n e ta tb h0 h1 (by omega) (by omega)) fun h h' v q => by
    obtain ⟨D, z, rfl, hD, hf⟩ := q
    exact ⟨D, _, rfl, hD, hf, z, rfl⟩
end
theorem need_lt {n b : Int} (hn : n % 2 = 1) (hb : b % 8 = 5) : needE n b < 64 := (need_law hn hb).1
theorem off1_addrs {D : Addr} : ∀ {l : List (Addr × Obj)}, LCg.Off1 D l → ∀ x ∈ l.map Prod.fst, x ≠ D
  | [], _, _, h => nomatch h
  | _ :: _, h, x, hx => by
    rcases List.mem_cons.mp hx with rfl | hx
    · exact h.1
    · exact off1_addrs h.2 x hx
end

-- X_same7
section
theorem item_b {l : List Bool} {i : Nat} (h : i < l.length) : (l.map Value.bool)[(0 + (i : Int)).toNat]? = some (.bool (l.getD i false)) := by
  rw [Int.zero_add, Int.toNat_natCast, List.getElem?_map, List.getD_eq_getElem?_getD, List.getElem?_eq_getElem h]; rfl
theorem same_b : ∀ (l k : List Bool), l.length = k.length → ∀ {i : Nat}, i < l.length → (l.getD i false == k.getD i false) = ((l.zip k).map fun p => p.1 == p.2).getD i false
  | [], _, _, _, h => absurd h (Nat.not_lt_zero _)
  | _ :: _, [], e, _, _ => nomatch e
  | _ :: _, _ :: _, _, 0, _ => rfl
  | _ :: l, _ :: k, e, i + 1, h => same_b l k (Nat.succ.inj e) (Nat.lt_of_succ_lt_succ h)
set_option genInjectivity false in
structure ZVsame7 where
  w : World
  mean : ExcName → Option Value
  mg : Str → Option Value
  mb : Str → Option Value
  l : Addr
  k : Addr
  a0 : Bool
  a1 : Bool
  a2 : Bool
  a3 : Bool
  a4 : Bool
  a5 : Bool
  a6 : Bool
  b0 : Bool
  b1 : Bool
  b2 : Bool
  b3 : Bool
  b4 : Bool
  b5 : Bool
  b6 : Bool
  dp : Nat
  un : Nat
  gd : Option (List Code)
  outer : List Env
  base : Heap
  s : Shared
  R : Result → Shared → Prop
def PZsame7 (zv : ZVsame7) : Prop := Below (topA zv.dp zv.un zv.gd zv.outer) zv.base zv.outer zv.s.heap → Frag.In (Mine.hd.heap_39 zv.w.params) zv.s.heap → Top Mine.hd.view_39 (looseW Mine.hd.view_39 []) zv.mean zv.mg zv.mb zv.s.heap →
    zv.dp + 3 < recursionLimit → zv.un + 100 < cLine → (fun h => h.IsList zv.l #[.bool zv.a0, .bool zv.a1, .bool zv.a2, .bool zv.a3, .bool zv.a4, .bool zv.a5, .bool zv.a6] ∧ h.IsList zv.k #[.bool zv.b0, .bool zv.b1, .bool zv.b2, .bool zv.b3, .bool zv.b4, .bool zv.b5, .bool zv.b6]) zv.s.heap →
    (∀ r h' tk', (∀ b o, zv.s.heap.get? b = some o → h'.get? b = some o) → (fun _ _ v => v = .bool ((zv.a0 == zv.b0) && (zv.a1 == zv.b1) && (zv.a2 == zv.b2) && (zv.a3 == zv.b3) && (zv.a4 == zv.b4) && (zv.a5 == zv.b5) && (zv.a6 == zv.b6))) zv.s.heap h' r → zv.R (.ok (.ret r)) (Shared.mk h' zv.s.gens zv.s.drawn tk' zv.s.os)) →
    codeAny (model PySem.Challenge.pw_yf0007_01 zv.w) (topA zv.dp zv.un zv.gd zv.outer) (.call (.ref 221) ⟨[.ref zv.l, .ref zv.k], []⟩) zv.R zv.s
def aZVsame7 : ZVsame7 where
  w := aWorld
  mean := fun _ => none
  mg := fun _ => none
  mb := fun _ => none
  l := 0
  k := 0
  a0 := false
  a1 := false
  a2 := false
  a3 := false
  a4 := false
  a5 := false
  a6 := false
  b0 := false
  b1 := false
  b2 := false
  b3 := false
  b4 := false
  b5 := false
  b6 := false
  dp := 0
  un := 0
  gd := none
  outer := []
  base := {}
  s := {}
  R := fun _ _ => True
@[irreducible] noncomputable def cZsame7 : ZVsame7 := eps aZVsame7 PZsame7
set_option maxHeartbeats 4000000 in
theorem st_same7 : PZsame7 cZsame7 := by
  k_with_none
  w_top off
  k_with "own eval ListComp" => (k_here; (with_reducible show wpAny _ _ (eval (Expr.ListComp _ _ _ _) _) _ _ _); lcf_look; lcg_calm; k_dflt (refine LCg.ListComp_U (F₀ := by k_asm) (by with_unfolding_all rfl) (by decide) (by rfl) (by decide) (by rfl) ?_); k_dflt lcg_toSrc)
  k_with "own CompSrc" => (k_dflt (k_extra "my CompSrc"))
  k_with "my CompSrc" => (
    (rename Fr _ _ _ _ => F8); (rename News _ _ _ _ => N8)
    refine' CompSrc.ownR 7 (TB [(cZsame7.a0 == cZsame7.b0), (cZsame7.a1 == cZsame7.b1), (cZsame7.a2 == cZsame7.b2), (cZsame7.a3 == cZsame7.b3), (cZsame7.a4 == cZsame7.b4), (cZsame7.a5 == cZsame7.b5), (cZsame7.a6 == cZsame7.b6)]) ?ch F8 N8 ?chr ?csm ?chn ?csz ?cturn ?cfin
    case ch => exact rfl
    case chr => assumption
    case csm => exact rfl
    case chn => exact rfl
    case csz => exact rfl
    case cturn =>
      clear F8 N8
      intro g9 i9 v9 hi9 hv9
      obtain ⟨t9, rfl⟩ := hv9
      have q1 := item_b (l := [cZsame7.a0, cZsame7.a1, cZsame7.a2, cZsame7.a3, cZsame7.a4, cZsame7.a5, cZsame7.a6]) hi9
      have q2 := item_b (l := [cZsame7.b0, cZsame7.b1, cZsame7.b2, cZsame7.b3, cZsame7.b4, cZsame7.b5, cZsame7.b6]) hi9
      have p4 : (0 : Int) ≤ 0 + (i9 : Int) := by omega
      have p5 : (0 : Int) + (i9 : Int) < 2 ^ 63 := by omega
      intro C9 oC9 m9 h9 tk9 E9 extra9 hC9 hx9 F9 N9
      simp only [List.cons_append, List.nil_append] at N9
      k_steps
      (rename Fr _ _ _ _ => F7); (rename News _ _ _ _ => N7)
      refine TEnd.val F7 N7 (fun p hp => hp) ?_
      exact ⟨congrArg Value.bool (same_b [cZsame7.a0, cZsame7.a1, cZsame7.a2, cZsame7.a3, cZsame7.a4, cZsame7.a5, cZsame7.a6] [cZsame7.b0, cZsame7.b1, cZsame7.b2, cZsame7.b3, cZsame7.b4, cZsame7.b5, cZsame7.b6] rfl hi9), rfl⟩
    case' cfin =>
      intro g9 ys9 res9 hr9 hy9
      obtain ⟨rfl, rfl⟩ := rows_bools hr9 hy9
      clear F8 N8 hr9 hy9
      (first | unfold LCg.FinE | unfold LCg.FinA)
      intro D9 h9 tk9 F9 N9 o9
      (try simp only [List.cons_append, List.nil_append, List.append_nil, List.map_cons, List.map_nil] at N9))
  k_with "own call builtin:len" => (k_here; (with_reducible show wpAny _ _ (call (Value.builtin _) [Value.ref _]) _ _ _); k_dflt (refine len_lit (by is_list) (by (simp only [List.size_toArray, List.length_cons, List.length_nil, Nat.reduceAdd, Int.cast_ofNat_Int]; exact rfl)) (by decide) ?_); intro k')
  k_with "own binaryOp Mult ref int" => (k_here; (with_reducible show wpAny _ _ (binaryOp Operator.Mult (Value.ref _) (Value.int _ _)) _ _ _); k_dflt (refine mul_lit (by k_asm) (by k_asm) (by k_mem) (by decide) (by decide) (by decide) (by first | exact (rfl : _ = #[_, _, _]) | exact (rfl : _ = #[_, _, _, _, _]) | exact (rfl : _ = #[_, _, _, _, _, _, _])) ?_); intro D' h' F' N' lt')
  k_with "own compareOp Eq ref ref" => (k_here; (with_reducible show wpAny _ _ (compareOp CmpOp.Eq (Value.ref _) (Value.ref _)) _ _ _); k_dflt (refine eq_dataH (by exact reads_list_at (News.get (by k_asm) (by k_mem)) rfl rfl (by ked_reads)) (by exact reads_list_at (News.get (by k_asm) (by k_mem)) rfl rfl (by ked_reads)) (by rfl) (by rfl) (by ke_room) ?_))
  k_with "own subscriptTail Name Name ref int" => (k_here; (with_reducible show wpAny _ _ (subscriptTail _ _ (Value.ref _) (Value.int _ _)) _ _ _); k_dflt (refine item_litK (by is_list) p4 p5 (by first | exact q1 | exact q2) ?_ (by with_unfolding_all rfl)))
  k_with "own call ref" => (k_here; k_dflt (refine call_aB (sp_is_b _ _ _ _ _ _) ?_; intro h' tk' F' N'; (try k_sweep); (try dsimp only); (try k_fold)))
  unfold PZsame7
  intro  B X T hd hu hpre hret
  k_dflt (refine' enterCE ?k1 ?k2 ?k3 ?k6 ?k7 ?k8 ?k9 ?kB ?kD ?_ ?c2 ?c3 ?c4; (case k1 => exact B); (case k2 => exact X); (case k3 => exact T); (case k6 => k_is); (case k7 => k_is); (case k8 => ktr_room); (case k9 => exact BindsTo.of_eq rfl); (case kB => exact rfl); (case kD => decide +kernel); (case c2 => exact rfl); (case c3 => exact rfl); (case c4 => exact rfl); k_whole)
  clear B X T
  intro h' tk' cells' B' X' T' F' N' Y'
  k_cells Y'
  (try simp only [List.cons_append, List.nil_append] at N')
  (try dsimp only)
  (try dsimp only at hpre)
  (try k_fold)
  obtain ⟨hp1, hp2⟩ := hpre
  k_steps
  all_goals ((try dsimp only); refine hret _ _ _ (Fr.keep (by assumption)) ?_)
  all_goals (refine congrArg Value.bool ?_; simp [PyData.eqv, PyData.eqvAll, Bool.and_assoc])
theorem sp_same7 (w : World) (mean : ExcName → Option Value) (mg mb : Str → Option Value) (l k : Addr) (a0 a1 a2 a3 a4 a5 a6 b0 b1 b2 b3 b4 b5 b6 : Bool) :
    Spec w mean mg mb 221 3 100 [.ref l, .ref k] (fun h => h.IsList l #[.bool a0, .bool a1, .bool a2, .bool a3, .bool a4, .bool a5, .bool a6] ∧ h.IsList k #[.bool b0, .bool b1, .bool b2, .bool b3, .bool b4, .bool b5, .bool b6]) (fun _ _ v => v = .bool ((a0 == b0) && (a1 == b1) && (a2 == b2) && (a3 == b3) && (a4 == b4) && (a5 == b5) && (a6 == b6))) := by
  have eZ : cZsame7 = eps aZVsame7 PZsame7 := by unfold cZsame7; rfl
  have hZ := st_same7
  rw [eZ] at hZ
  unfold Spec
  intro dp un gd outer base s R
  exact eps_all hZ (ZVsame7.mk w mean mg mb l k a0 a1 a2 a3 a4 a5 a6 b0 b1 b2 b3 b4 b5 b6 dp un gd outer base s R) 
end

-- X_same5
section
set_option genInjectivity false in
structure ZVsame5 where
  w : World
  mean : ExcName → Option Value
  mg : Str → Option Value
  mb : Str → Option Value
  l : Addr
  k : Addr
  a0 : Bool
  a1 : Bool
  a2 : Bool
  a3 : Bool
  a4 : Bool
  b0 : Bool
  b1 : Bool
  b2 : Bool
  b3 : Bool
  b4 : Bool
  dp : Nat
  un : Nat
  gd : Option (List Code)
  outer : List Env
  base : Heap
  s : Shared
  R : Result → Shared → Prop
def PZsame5 (zv : ZVsame5) : Prop := Below (topA zv.dp zv.un zv.gd zv.outer) zv.base zv.outer zv.s.heap → Frag.In (Mine.hd.heap_39 zv.w.params) zv.s.heap → Top Mine.hd.view_39 (looseW Mine.hd.view_39 []) zv.mean zv.mg zv.mb zv.s.heap →
    zv.dp + 3 < recursionLimit → zv.un + 100 < cLine → (fun h => h.IsList zv.l #[.bool zv.a0, .bool zv.a1, .bool zv.a2, .bool zv.a3, .bool zv.a4] ∧ h.IsList zv.k #[.bool zv.b0, .bool zv.b1, .bool zv.b2, .bool zv.b3, .bool zv.b4]) zv.s.heap →
    (∀ r h' tk', (∀ b o, zv.s.heap.get? b = some o → h'.get? b = some o) → (fun _ _ v => v = .bool ((zv.a0 == zv.b0) && (zv.a1 == zv.b1) && (zv.a2 == zv.b2) && (zv.a3 == zv.b3) && (zv.a4 == zv.b4))) zv.s.heap h' r → zv.R (.ok (.ret r)) (Shared.mk h' zv.s.gens zv.s.drawn tk' zv.s.os)) →
    codeAny (model PySem.Challenge.pw_yf0007_01 zv.w) (topA zv.dp zv.un zv.gd zv.outer) (.call (.ref 221) ⟨[.ref zv.l, .ref zv.k], []⟩) zv.R zv.s
def aZVsame5 : ZVsame5 where
  w := aWorld
  mean := fun _ => none
  mg := fun _ => none
  mb := fun _ => none
  l := 0
  k := 0
  a0 := false
  a1 := false
  a2 := false
  a3 := false
  a4 := false
  b0 := false
  b1 := false
  b2 := false
  b3 := false
  b4 := false
  dp := 0
  un := 0
  gd := none
  outer := []
  base := {}
  s := {}
  R := fun _ _ => True
@[irreducible] noncomputable def cZsame5 : ZVsame5 := eps aZVsame5 PZsame5
set_option maxHeartbeats 4000000 in
theorem st_same5 : PZsame5 cZsame5 := by
  k_with_none
  w_top off
  k_with "own eval ListComp" => (k_here; (with_reducible show wpAny _ _ (eval (Expr.ListComp _ _ _ _) _) _ _ _); lcf_look; lcg_calm; k_dflt (refine LCg.ListComp_U (F₀ := by k_asm) (by with_unfolding_all rfl) (by decide) (by rfl) (by decide) (by rfl) ?_); k_dflt lcg_toSrc)
  k_with "own CompSrc" => (k_dflt (k_extra "my CompSrc"))
  k_with "my CompSrc" => (
    (rename Fr _ _ _ _ => F8); (rename News _ _ _ _ => N8)
    refine' CompSrc.ownR 5 (TB [(cZsame5.a0 == cZsame5.b0), (cZsame5.a1 == cZsame5.b1), (cZsame5.a2 == cZsame5.b2), (cZsame5.a3 == cZsame5.b3), (cZsame5.a4 == cZsame5.b4)]) ?ch F8 N8 ?chr ?csm ?chn ?csz ?cturn ?cfin
    case ch => exact rfl
    case chr => assumption
    case csm => exact rfl
    case chn => exact rfl
    case csz => exact rfl
    case cturn =>
      clear F8 N8
      intro g9 i9 v9 hi9 hv9
      obtain ⟨t9, rfl⟩ := hv9
      have q1 := item_b (l := [cZsame5.a0, cZsame5.a1, cZsame5.a2, cZsame5.a3, cZsame5.a4]) hi9
      have q2 := item_b (l := [cZsame5.b0, cZsame5.b1, cZsame5.b2, cZsame5.b3, cZsame5.b4]) hi9
      have p4 : (0 : Int) ≤ 0 + (i9 : Int) := by omega
      have p5 : (0 : Int) + (i9 : Int) < 2 ^ 63 := by omega
      intro C9 oC9 m9 h9 tk9 E9 extra9 hC9 hx9 F9 N9
      simp only [List.cons_append, List.nil_append] at N9
      k_steps
      (rename Fr _ _ _ _ => F7); (rename News _ _ _ _ => N7)
      refine TEnd.val F7 N7 (fun p hp => hp) ?_
      exact ⟨congrArg Value.bool (same_b [cZsame5.a0, cZsame5.a1, cZsame5.a2, cZsame5.a3, cZsame5.a4] [cZsame5.b0, cZsame5.b1, cZsame5.b2, cZsame5.b3, cZsame5.b4] rfl hi9), rfl⟩
    case' cfin =>
      intro g9 ys9 res9 hr9 hy9
      obtain ⟨rfl, rfl⟩ := rows_bools hr9 hy9
      clear F8 N8 hr9 hy9
      (first | unfold LCg.FinE | unfold LCg.FinA)
      intro D9 h9 tk9 F9 N9 o9
      (try simp only [List.cons_append, List.nil_append, List.append_nil, List.map_cons, List.map_nil] at N9))
  k_with "own call builtin:len" => (k_here; (with_reducible show wpAny _ _ (call (Value.builtin _) [Value.ref _]) _ _ _); k_dflt (refine len_lit (by is_list) (by (simp only [List.size_toArray, List.length_cons, List.length_nil, Nat.reduceAdd, Int.cast_ofNat_Int]; exact rfl)) (by decide) ?_); intro k')
  k_with "own binaryOp Mult ref int" => (k_here; (with_reducible show wpAny _ _ (binaryOp Operator.Mult (Value.ref _) (Value.int _ _)) _ _ _); k_dflt (refine mul_lit (by k_asm) (by k_asm) (by k_mem) (by decide) (by decide) (by decide) (by first | exact (rfl : _ = #[_, _, _]) | exact (rfl : _ = #[_, _, _, _, _]) | exact (rfl : _ = #[_, _, _, _, _, _, _])) ?_); intro D' h' F' N' lt')
  k_with "own compareOp Eq ref ref" => (k_here; (with_reducible show wpAny _ _ (compareOp CmpOp.Eq (Value.ref _) (Value.ref _)) _ _ _); k_dflt (refine eq_dataH (by exact reads_list_at (News.get (by k_asm) (by k_mem)) rfl rfl (by ked_reads)) (by exact reads_list_at (News.get (by k_asm) (by k_mem)) rfl rfl (by ked_reads)) (by rfl) (by rfl) (by ke_room) ?_))
  k_with "own subscriptTail Name Name ref int" => (k_here; (with_reducible show wpAny _ _ (subscriptTail _ _ (Value.ref _) (Value.int _ _)) _ _ _); k_dflt (refine item_litK (by is_list) p4 p5 (by first | exact q1 | exact q2) ?_ (by with_unfolding_all rfl)))
  k_with "own call ref" => (k_here; k_dflt (refine call_aB (sp_is_b _ _ _ _ _ _) ?_; intro h' tk' F' N'; (try k_sweep); (try dsimp only); (try k_fold)))
  unfold PZsame5
  intro  B X T hd hu hpre hret
  k_dflt (refine' enterCE ?k1 ?k2 ?k3 ?k6 ?k7 ?k8 ?k9 ?kB ?kD ?_ ?c2 ?c3 ?c4; (case k1 => exact B); (case k2 => exact X); (case k3 => exact T); (case k6 => k_is); (case k7 => k_is); (case k8 => ktr_room); (case k9 => exact BindsTo.of_eq rfl); (case kB => exact rfl); (case kD => decide +kernel); (case c2 => exact rfl); (case c3 => exact rfl); (case c4 => exact rfl); k_whole)
  clear B X T
  intro h' tk' cells' B' X' T' F' N' Y'
  k_cells Y'
  (try simp only [List.cons_append, List.nil_append] at N')
  (try dsimp only)
  (try dsimp only at hpre)
  (try k_fold)
  obtain ⟨hp1, hp2⟩ := hpre
  k_steps
  all_goals (refine hret _ _ _ (Fr.keep (by assumption)) ?_)
  all_goals (refine congrArg Value.bool ?_; simp [PyData.eqv, PyData.eqvAll, Bool.and_assoc])
theorem sp_same5 (w : World) (mean : ExcName → Option Value) (mg mb : Str → Option Value) (l k : Addr) (a0 a1 a2 a3 a4 b0 b1 b2 b3 b4 : Bool) :
    Spec w mean mg mb 221 3 100 [.ref l, .ref k] (fun h => h.IsList l #[.bool a0, .bool a1, .bool a2, .bool a3, .bool a4] ∧ h.IsList k #[.bool b0, .bool b1, .bool b2, .bool b3, .bool b4]) (fun _ _ v => v = .bool ((a0 == b0) && (a1 == b1) && (a2 == b2) && (a3 == b3) && (a4 == b4))) := by
  have eZ : cZsame5 = eps aZVsame5 PZsame5 := by unfold cZsame5; rfl
  have hZ := st_same5
  rw [eZ] at hZ
  unfold Spec
  intro dp un gd outer base s R
  exact eps_all hZ (ZVsame5.mk w mean mg mb l k a0 a1 a2 a3 a4 b0 b1 b2 b3 b4 dp un gd outer base s R) 
end

-- X_isref
section
set_option maxHeartbeats 4000000 in
theorem sp_is_same (w : World) (mean : ExcName → Option Value) (mg mb : Str → Option Value) (a : Addr) :
    Spec w mean mg mb 79 1 3 [.ref a, .ref a] (fun _ => True) (fun _ _ v => v = .bool true) := by
  k_with_none
  w_top off
  k_with "own compareOp Is ref ref" => (k_here; k_dflt (refine is_two (by k_asm) (by assumption) (by assumption) (by assumption) ?_))
  unfold Spec
  intro dp un gd outer base s R B X T hd hu hpre hret
  k_dflt (refine' enter ?k1 ?k2 ?k3 ?k6 ?k7 ?k8 ?k9 ?kB ?_ ?c2 ?c3 ?c4 ?c5; (case k1 => exact B); (case k2 => exact X); (case k3 => exact T); (case k6 => k_is); (case k7 => k_is); (case k8 => ktr_room); (case k9 => exact BindsTo.of_eq rfl); (case c5 => decide); (case kB => exact locs rfl); (case c2 => exact rfl); (case c3 => exact rfl); (case c4 => exact rfl); k_whole)
  clear B X T
  intro g' L' h' hg B' X' T' F' N'
  w_binds F'
  (try dsimp only)
  (try dsimp only at hpre)
  (try rw [hg] at hpre)
  (try k_fold)
  k_steps
  all_goals (subst hg; (try dsimp only); refine hret _ _ _ (Fr.keep (by assumption)) ?_)
  all_goals (rfl)
theorem is_two {prog : Program} {w : World} {A : Around} {E : Value → Shared → Prop} {s : Shared} {Q : Value → Shared → Prop} {p k : Addr} {xs : Array Value} {o' : Obj} {h₀ : Heap} {L : Addr} {m : Str → Option Value} (F : Fr h₀ L s.heap m) (h1 : h₀.IsList p xs) (h2 : h₀.get? k = some o') (ne : p ≠ k) (h : Q (.bool false) s) : wpAny (model prog w) A (compareOp .Is (.ref p) (.ref k)) Q E s := by
  obtain ⟨o, ho, hc, _⟩ := isList_keeps h1 F.keep
  exact wpAny_is_ref_other ne ho (F.keep _ _ h2) (by rw [hc]; decide) h
set_option maxHeartbeats 4000000 in
theorem sp_is_diff (w : World) (mean : ExcName → Option Value) (mg mb : Str → Option Value) (a b : Addr) (xs : Array Value) (o : Obj) (ne : a ≠ b) :
    Spec w mean mg mb 79 1 3 [.ref a, .ref b] (fun h => h.IsList a xs ∧ h.get? b = some o) (fun _ _ v => v = .bool false) := by
  k_with_none
  w_top off
  k_with "own compareOp Is ref ref" => (k_here; k_dflt (refine is_two (by k_asm) (by assumption) (by assumption) (by assumption) ?_))
  unfold Spec
  intro dp un gd outer base s R B X T hd hu hpre hret
  k_dflt (refine' enter ?k1 ?k2 ?k3 ?k6 ?k7 ?k8 ?k9 ?kB ?_ ?c2 ?c3 ?c4 ?c5; (case k1 => exact B); (case k2 => exact X); (case k3 => exact T); (case k6 => k_is); (case k7 => k_is); (case k8 => ktr_room); (case k9 => exact BindsTo.of_eq rfl); (case c5 => decide); (case kB => exact locs rfl); (case c2 => exact rfl); (case c3 => exact rfl); (case c4 => exact rfl); k_whole)
  clear B X T
  intro g' L' h' hg B' X' T' F' N'
  w_binds F'
  (try dsimp only)
  (try dsimp only at hpre)
  (try rw [hg] at hpre)
  (try k_fold)
  obtain ⟨hp1, hp2⟩ := hpre
  k_steps
  all_goals (subst hg; (try dsimp only); refine hret _ _ _ (Fr.keep (by assumption)) ?_)
  all_goals (rfl)
end

-- CntB
section
section
variable {prog : Program} {w : World} {A : Around} {E : Value → Shared → Prop} {s : Shared} {env : Env} {h₀ : Heap}
/-- a loop over a list of the ground -/
theorem for_list {Q : Flow → Shared → Prop} {v : Str} {px pos : Pos} {iter : Expr} {body : List Stmt} {ax : Addr} {its : Array Value} {m : Str → Option Value}
    (hh : A.handled = none) (hv : env.kindOf v = some .local)
    (hp : (env.scope.kind == .class || (env.scope.kind == .module && env.locals != env.globals)) = false)
    (F : Fr h₀ env.locals s.heap m) (hl : h₀.IsList ax its)
    (hiter : ∀ Q', Q' (.ref ax) s → wpAny (model prog w) A (eval iter env) Q' E s)
    (J : Nat → (Str → Option Value) → Prop) (h0 : J 0 m)
    (step : ∀ i x m₁ I oI h tk0, its[i]? = some x → J i m₁ → Fr h₀ env.locals h (fun y => if y = v then some x else m₁ y) → News h₀ env.locals h [(I, oI)] →
      wpAny (model prog w) A (execs body env) (fun f s₂ => f = .next ∧ ∃ h' tk' m₂, s₂ = { s with heap := h', toks := tk' } ∧ Fr h₀ env.locals h' m₂ ∧ News h₀ env.locals h' [(I, oI)] ∧ J (i + 1) m₂) E { s with heap := h, toks := tk0 })
    (hQ : ∀ h' tk m', Fr h₀ env.locals h' m' → J its.size m' → Q .next { s with heap := h', toks := tk })
    (hs : ∀ y, foldedSetIterable iter env y = pure y := by intro _; rfl)
    (hE : PassesOwn (model prog w) A env E := by passes_own) :
    wpAny (model prog w) A (exec (.For (.Name v px) iter body [] pos) env) Q E s := by
  have hL0 : h₀.get? env.locals = none := kts_self F
  have hI0 : h₀.get? s.heap.objs.size = none := next_is_new F
  have hIL : s.heap.objs.size ≠ env.locals := Ne.symm (Nat.ne_of_lt F.ns.lt)
  have hls : s.heap.IsList ax its := let ⟨o, ho, r⟩ := hl; ⟨o, F.keep _ _ ho, r⟩
  have hax : ax ≠ s.heap.objs.size := by obtain ⟨o, ho, _⟩ := hls; exact Nat.ne_of_lt (Heap.lt_size ho)
  have W := Walks.list (prog := prog) (w := w) hh s.heap.objs.size ax hax its
  refine wpAny_For (hiter _ (wpAny_pyIter_list hls ?_)) hs
  have up : ∀ b o, s.heap.get? b = some o → (s.heap.push { cls := .type "list_iterator", data := .fields #[.ref ax, .int 0 0] }).get? b = some o := fun b o e => Heap.get?_push_of_some _ e
  refine codeAny_forLoop (R := fun r s' => match r with | .ok f => Q f s' | .error e => cameBackBy (model prog w) A env E e s')
    (fun n s' => ∃ h' tk m' i, s' = { s with heap := h', toks := tk } ∧ h'.IsListIter s.heap.objs.size ax i ∧ Fr h₀ env.locals h' m' ∧ J i m' ∧ i ≤ its.size ∧ n = its.size + 1 - i) ?_ (its.size + 1)
    ⟨_, s.toks, m, 0, rfl, ⟨_, Heap.get?_push_size _ rfl, rfl, rfl⟩, F.push _, h0, Nat.zero_le _, rfl⟩
  rintro n s' ⟨h', tk, m', i, rfl, hit, F', hJ, hi, rfl⟩
  have hl' : h'.IsList ax its := let ⟨o, ho, r⟩ := hl; ⟨o, F'.keep _ _ ho, r⟩
  by_cases hlt : i < its.size
  · refine W.item i _ _ _ hlt ⟨hit, hl'⟩ fun x h₁ tk₁ hx hst hk => ?_
    have F₁ : Fr h₀ env.locals h₁ m' := LCg.fr_but F' hk (Ne.symm hIL) hI0
    refine wpAny_assign_Name (wpAny_storeName_local hv F₁.ns (fun h₂ hn₂ hs₂ => ?_) hp)
    have F₂ : Fr h₀ env.locals h₂ (fun y => if y = v then some x else m' y) := ⟨hn₂, fun b o e => hs₂.extBut b o (fun q => by rw [q, hL0] at e; cases e) (F₁.keep b o e), F₁.above⟩
    obtain ⟨oI, hoI, hrI⟩ := hst.1.extBut hs₂.extBut hIL
    have N₂ : News h₀ env.locals h₂ [(s.heap.objs.size, oI)] := fun p hp => by rw [List.mem_singleton.mp hp]; exact ⟨hoI, hIL, hI0⟩
    refine wpAny_mono (wpAny_passesOwn hE (step i x m' _ oI h₂ _ hx hJ F₂ N₂)) (fun f s₃ h₃ => ?_) fun _ _ e => e
    obtain ⟨rfl, h₃, tk₃, m₃, rfl, F₃, N₃, J₃⟩ := h₃
    exact ⟨its.size + 1 - (i + 1), meas hlt, h₃, tk₃, m₃, i + 1, rfl, ⟨oI, (N₃ _ (.head _)).1, hrI⟩, F₃, J₃, hlt, rfl⟩
  · obtain rfl : i = its.size := Nat.le_antisymm hi (Nat.not_lt.mp hlt)
    refine W.done _ _ _ ⟨hit, hl'⟩ fun h₁ tk₁ hk => wpAny_execs_nil ?_
    exact hQ h₁ tk₁ m' (LCg.fr_but F' hk (Ne.symm hIL) hI0) hJ
end
/-- how many of the lists are ld -/
def cntB (ls : List (List Bool)) (ld : List Bool) : Int := ((ls.filter (fun l => decide (l = ld))).length : Int)
theorem cntB_snoc (ls : List (List Bool)) (l ld : List Bool) : cntB (ls ++ [l]) ld = cntB ls ld + (if l = ld then 1 else 0) := by
  unfold cntB
  rw [List.filter_append, List.length_append]
  by_cases h : l = ld <;> simp [h]
def CntEndB (h₀ : Heap) (L : Addr) (s : Shared) (I : Addr) (oI : Obj) (k : Addr) (K : Int) (f : Flow) (s₂ : Shared) : Prop :=
  f = .next ∧ ∃ h' tk' m₂ t1, s₂ = { s with heap := h', toks := tk' } ∧ Fr h₀ L h' m₂ ∧ News h₀ L h' [(I, oI)] ∧ m₂ (Str.ofString "count") = some (.int K t1) ∧ m₂ (Str.ofString "b") = some (.ref k)
theorem for_cntB {prog : Program} {w : World} {A : Around} {E : Value → Shared → Prop} {s : Shared} {env : Env} {h₀ : Heap} {Q : Flow → Shared → Prop} {px pos : Pos} {iter : Expr} {body : List Stmt} {ax k : Addr} {t₀ : Tok} {m : Str → Option Value} (items : List (Addr × List Bool)) (ld : List Bool)
    (hh : A.handled = none) (hv : env.kindOf (Str.ofString "i") = some .local)
    (hp : (env.scope.kind == .class || (env.scope.kind == .module && env.locals != env.globals)) = false)
    (F : Fr h₀ env.locals s.heap m) (hm1 : m (Str.ofString "count") = some (.int 0 t₀)) (hm2 : m (Str.ofString "b") = some (.ref k))
    (hl : h₀.IsList ax (items.map (fun p => Value.ref p.1)).toArray) (hls : ∀ p ∈ items, h₀.IsList p.1 (bl p.2)) (hne : ∀ p ∈ items, p.1 ≠ k) (_hk : h₀.IsList k (bl ld))
    (hiter : ∀ Q', Q' (.ref ax) s → wpAny (model prog w) A (eval iter env) Q' E s)
    (step : ∀ (n : Int) (q : Addr) (l : List Bool) t0 (m₁ : Str → Option Value) I oI h tk0, h₀.IsList q (bl l) → q ≠ k → Fr h₀ env.locals h (fun y => if y = Str.ofString "i" then some (.ref q) else if y = Str.ofString "count" then some (.int n t0) else if y = Str.ofString "b" then some (.ref k) else m₁ y) → News h₀ env.locals h [(I, oI)] →
      wpAny (model prog w) A (execs body env) (CntEndB h₀ env.locals s I oI k (n + if l = ld then 1 else 0)) E { s with heap := h, toks := tk0 })
    (hQ : ∀ h' tk (m' : Str → Option Value) t1, Fr h₀ env.locals h' (fun y => if y = Str.ofString "count" then some (.int (cntB (items.map (·.2)) ld) t1) else m' y) → Q .next { s with heap := h', toks := tk })
    (hs : ∀ y, foldedSetIterable iter env y = pure y := by intro _; rfl)
    (hE : PassesOwn (model prog w) A env E := by passes_own) :
    wpAny (model prog w) A (exec (.For (.Name (Str.ofString "i") px) iter body [] pos) env) Q E s := by
  refine for_list hh hv hp F hl hiter (fun i m => ∃ t1, m (Str.ofString "count") = some (.int (cntB ((items.map (·.2)).take i) ld) t1) ∧ m (Str.ofString "b") = some (.ref k)) ⟨t₀, by rw [List.take_zero]; exact hm1, hm2⟩ ?_ ?_ hs hE
  · rintro i x m₁ I oI h tk0 hx ⟨t0, e1, e2⟩ F' N'
    have hlt : i < items.length := by
      have := (Array.getElem?_eq_some_iff.mp hx).1
      simpa using this
    have hxi : x = .ref items[i].1 := by
      rw [List.getElem?_toArray, List.getElem?_map, List.getElem?_eq_getElem hlt] at hx
      exact (Option.some.inj hx).symm
    have hmem : items[i] ∈ items := List.getElem_mem hlt
    subst hxi
    refine wpAny_mono (step (cntB ((items.map (·.2)).take i) ld) items[i].1 items[i].2 t0 m₁ I oI h tk0 (hls _ hmem) (hne _ hmem) ?_ N') (fun f s₂ hq => ?_) fun _ _ e => e
    · have e : (fun y => if y = Str.ofString "i" then some (Value.ref items[i].1) else if y = Str.ofString "count" then some (.int (cntB ((items.map (·.2)).take i) ld) t0) else if y = Str.ofString "b" then some (.ref k) else m₁ y) = (fun y => if y = Str.ofString "i" then some (Value.ref items[i].1) else m₁ y) := by
        funext y
        by_cases h0 : y = Str.ofString "i"
        · rw [if_pos h0, if_pos h0]
        rw [if_neg h0, if_neg h0]
        by_cases h1 : y = Str.ofString "count"
        · rw [if_pos h1, h1, e1]
        rw [if_neg h1]
        by_cases h2 : y = Str.ofString "b"
        · rw [if_pos h2, h2, e2]
        rw [if_neg h2]
      rw [e]; exact F'
    · obtain ⟨rfl, h', tk', m₂, t1, rfl, F₂, N₂, g1, g2⟩ := hq
      refine ⟨rfl, h', tk', m₂, rfl, F₂, N₂, t1, ?_, g2⟩
      rw [List.take_add_one, List.getElem?_map, List.getElem?_eq_getElem hlt, Option.map_some, Option.toList_some, cntB_snoc]
      exact g1
  · rintro h' tk m' F' ⟨t1, e1, e2⟩
    refine hQ h' tk m' t1 ?_
    have e : (fun y => if y = Str.ofString "count" then some (Value.int (cntB (items.map (·.2)) ld) t1) else m' y) = m' := by
      funext y
      by_cases h1 : y = Str.ofString "count"
      · rw [if_pos h1, h1, e1, List.take_of_length_le (by simp)]
      rw [if_neg h1]
    rw [e]; exact F'
theorem cntB_p {k : Int} {c : Prop} {_i : Decidable c} {t : Tok} (h : c) : some (Value.int (k + 1) t) = some (Value.int (k + if c then 1 else 0) t) := by rw [if_pos h]
theorem cntB_n {k : Int} {c : Prop} {_i : Decidable c} {t : Tok} (h : ¬ c) : some (Value.int k t) = some (Value.int (k + if c then 1 else 0) t) := by rw [if_neg h, Int.add_zero]
set_option maxHeartbeats 2000000 in
theorem sp_countB (w : World) (mean : ExcName → Option Value) (mg mb : Str → Option Value) (ax k : Addr) (items : List (Addr × List Bool)) (ld : List Bool) (hne : ∀ p ∈ items, p.1 ≠ k) :
    Spec w mean mg mb 100 1 200 [.ref ax, .ref k] (fun h => h.IsList ax (items.map (fun p => Value.ref p.1)).toArray ∧ (∀ p ∈ items, h.IsList p.1 (bl p.2)) ∧ h.IsList k (bl ld)) (fun _ _ v => ∃ t, v = .int (cntB (items.map (·.2)) ld) t) := by
  k_with_none
  w_top off
  k_with "own compareOp Eq ref ref" => (k_here; k_dflt (refine' eq_blB ?F ?h1 ?h2 ?hu ?_; (case F => k_asm); (case h1 => assumption); (case h2 => assumption); (case hu => ke_room)))
  k_with "own compareOp Is ref ref" => (k_here; k_dflt (refine' is_blB ?F ?h1 ?h2 ?ne ?_; (case F => k_asm); (case h1 => assumption); (case h2 => assumption); (case ne => assumption)))
  k_with "own exec For Name Name cons nil" => (k_here; k_dflt (refine' for_cntB _ _ ?hh ?hv ?hp ?F ?m1 ?m2 ?l1 ?l2 ?l3 ?l4 ?it ?step ?fin; (case hh => exact rfl); (case hv => exact rfl); (case hp => exact rfl); (case F => k_asm); (case m1 => exact rfl); (case m2 => exact rfl); (case l1 => assumption); (case l2 => assumption); (case l3 => assumption); (case l4 => assumption); (case it => (intro Q' hq; refine' nameX_L ?F2 ?v2 ?q2 ?a2 ?b2; (case a2 => exact rfl); (case b2 => exact rfl); (case F2 => k_asm); (case v2 => exact rfl); (case q2 => exact hq))); intros))
  unfold Spec
  intro dp un gd outer base s R B X T hd hu hpre hret
  obtain ⟨hp1, hp2, hp3⟩ := hpre
  k_dflt (refine' enter ?k1 ?k2 ?k3 ?k6 ?k7 ?k8 ?k9 ?kB ?_ ?c2 ?c3 ?c4 ?c5; (case k1 => exact B); (case k2 => exact X); (case k3 => exact T); (case k6 => k_is); (case k7 => k_is); (case k8 => ktr_room); (case k9 => exact BindsTo.of_eq rfl); (case c5 => decide); (case kB => exact locs rfl); (case c2 => exact rfl); (case c3 => exact rfl); (case c4 => exact rfl); k_whole)
  clear B X T
  intro g' L' h' hg B' X' T' F' N'
  rw [hg] at hp1 hp2 hp3
  w_binds F'
  (try dsimp only)
  (try k_fold)
  k_steps
  all_goals first
    | (refine' ⟨rfl, _, _, _, _, rfl, ?f, ?n, ?c, ?b⟩
       case f => assumption
       case n => assumption
       case c => first | (refine cntB_p ?_; assumption) | (refine cntB_n ?_; assumption)
       case b => exact rfl)
    | (subst hg; (try dsimp only); refine hret _ _ _ (Fr.keep (by assumption)) ⟨_, rfl⟩)
end

-- X_worth
section
def JAw (P : Prop) : Prop := P
def JBw (P : Prop) : Prop := P
def JTw (P1 P2 P3 : Prop) : Prop := P1 ∧ JAw P2 ∧ JBw P3
theorem if_gw {M : Model} {A : Around} {E : Value → Shared → Prop} {s : Shared} {env : Env} {h₀ : Heap} {L : Addr} {m : Str → Option Value} {news : List (Addr × Obj)} {test : Expr} {x : Str} {st : Stmt} {pos : Pos} {a p : Int} {t₀ t₁ : Tok} {Q : Flow → Shared → Prop} (y : Str) (g : Int → Int → Int)
    (hold : m x = some (.int a t₀)) (hold2 : m y = some (.int p t₁)) (_F : Fr h₀ L s.heap m) (_N : News h₀ L s.heap news)
    (h : wpAny M A (isTrue test env (eval test env)) (fun c s₂ => JTw (KJoinAt h₀ L m news s s₂)
      (c = true → ∀ s₂', KJoinAt h₀ L m news s s₂' → wpAny M A (exec st env) (fun f s₃ => KJoinV x (g a p) h₀ L m news s f s₃) E s₂')
      (∀ (r : Int) (t : Tok) (h' : Heap) (tk : Nat), r = (if c then g a p else a) → Fr h₀ L h' (fun z => if z = x then some (.int r t) else m z) → News h₀ L h' news → Q .next { s with heap := h', toks := tk })) E s) :
    wpAny M A (exec (.If test [st] [] pos) env) Q E s := by
  refine wpAny_If (wpAny_mono h (fun k s₂ hj => ?_) fun _ _ h => h)
  obtain ⟨hat, hv, hk⟩ := hj
  cases k with
  | true =>
    show wpAny M A (execs [st] env) Q E s₂
    refine wpAny_execs_cons (wpAny_mono (hv rfl s₂ hat) (fun f s₃ hf => ?_) fun _ _ h => h)
    obtain ⟨hf, t, ht⟩ := hf
    obtain ⟨h', tk, e', F'', N''⟩ := ht.at_
    subst hf e'
    exact wpAny_execs_nil (hk _ t h' tk rfl F'' N'')
  | false =>
    show wpAny M A (execs [] env) Q E s₂
    obtain ⟨h', tk, e', F'', N''⟩ := hat.at_
    subst e'
    refine wpAny_execs_nil (hk a t₀ h' tk rfl ?_ N'')
    have e : (fun z => if z = x then some (Value.int a t₀) else m z) = m := by
      funext z
      by_cases hz : z = x
      · rw [if_pos hz, hz, hold]
      · rw [if_neg hz]
    rw [e]
    exact F''

theorem ite_plus {c : Prop} [Decidable c] {x y : Int} : (if c then x + y else x) = x + (if c then y else 0) := by split <;> simp

theorem item_bl {prog : Program} {w : World} {A : Around} {E : Value → Shared → Prop} {s : Shared} {h₀ : Heap} {L l : Addr} {m : Str → Option Value} {as : List Bool} {k : Int} {u : Tok} {value slice : Expr} {Q : Value → Shared → Prop} (F : Fr h₀ L s.heap m) (hl : h₀.IsList l (bl as)) (h0 : 0 ≤ k) (h1 : k < as.length) (h2 : k < 1000) (h : Q (.bool (as.getD k.toNat false)) s)
    (hs : subscripted slice false (.ref l) (.int k u) = operate [.ref l, .int k u] (getItem (.ref l) (.int k u)) := by with_unfolding_all rfl) (hg : ∀ r, letTemporaryGo value (.ref l) r = pure () := by intro _; with_unfolding_all rfl) :
    wpAny (model prog w) A (subscriptTail value slice (.ref l) (.int k u)) Q E s :=
  item_list (isList_keeps hl F.keep) h0 (by omega) (by
    have hk : k.toNat < as.length := by omega
    simp [bl, List.getD_eq_getElem?_getD, List.getElem?_eq_getElem hk]) h hs hg
def wS (as : List Bool) : Nat → Int
  | 0 => 0
  | i + 1 => if (as.getD (i + 1) false == false) = true then wS as i + 1 * 2 ^ (0 + (i : Int)).toNat else wS as i
theorem fr_addw {h₀ h : Heap} {L : Addr} {m : Str → Option Value} {x : Str} {v : Value} (F : Fr h₀ L h m) (e : m x = some v) : Fr h₀ L h (fun y => if y = x then some v else m y) := by
  have q : (fun y => if y = x then some v else m y) = m := by
    funext y
    by_cases h : y = x
    · rw [h, if_pos rfl, e]
    · rw [if_neg h]
  rw [q]; exact F
def JWo (as : List Bool) (l : Addr) (i : Nat) (m : Str → Option Value) (news : List (Addr × Obj)) : Prop := ∃ t, m (Str.ofString "count") = some (.int (wS as i) t) ∧ m (Str.ofString "told") = some (.ref l) ∧ news = []
set_option maxHeartbeats 2000000 in
theorem sp_worth (w : World) (mean : ExcName → Option Value) (mg mb : Str → Option Value) (l : Addr) (a0 a1 a2 a3 a4 a5 a6 : Bool) :
    Spec w mean mg mb 201 5 15 [.ref l] (fun h => h.IsList l #[.bool a0, .bool a1, .bool a2, .bool a3, .bool a4, .bool a5, .bool a6]) (fun _ _ v => ∃ t, v = .int (0 + (if (a1 == false) = true then 1 * 2 ^ (0 : Int).toNat else 0) + (if (a2 == false) = true then 1 * 2 ^ (1 : Int).toNat else 0) + (if (a3 == false) = true then 1 * 2 ^ (2 : Int).toNat else 0) + (if (a4 == false) = true then 1 * 2 ^ (3 : Int).toNat else 0) + (if (a5 == false) = true then 1 * 2 ^ (4 : Int).toNat else 0) + (if (a6 == false) = true then 1 * 2 ^ (5 : Int).toNat else 0)) t) := by
  k_with_none
  w_top off
  k_with "own call ref" => (k_here; k_dflt (refine call_aB (sp_is_b _ _ _ _ _ _) ?_; intro h' tk' F' N'; (try k_sweep); (try dsimp only); (try k_fold)))
  k_with "own call ref" => (k_here; k_dflt (refine call_aI (sp_iadd _ _ _ _ _ _ _ _) ?_; intro t' h' tk' F' N'; (try k_sweep); (try dsimp only); (try k_fold)))
  k_with "own call ref" => (k_here; k_dflt (refine call_aI (sp_ilshift _ _ _ _ _ _ _ _ (by first | assumption | omega) (by first | assumption | omega) (by first | assumption | omega) (by first | assumption | omega)) ?_; intro t' h' tk' F' N'; (try k_sweep); (try dsimp only); (try k_fold)))
  k_with "own JTw" => (refine ⟨⟨⟨_, _, rfl, by assumption, by assumption⟩⟩, ?_, ?_⟩)
  k_with "own JAw" => ((show _ → ∀ _, _ → _); intro hc' s' hJ'; obtain ⟨h', tk', e', F'', N''⟩ := KJoinAt.at_ hJ'; subst e'; clear hc')
  k_with "own JBw" => ((show ∀ _ _ _ _, _ → _ → _ → _); intro r' t' h' tk' hr' F' N')
  k_with "own exec If" => (k_here; (with_reducible show wpAny _ _ (exec (Stmt.If _ [Stmt.Assign [Expr.Name _ _] (Expr.Call _ [_, _] _ _) _] [] _) _) _ _ _); (rename Fr _ _ _ _ => F'); (rename News _ _ _ _ => N'); (refine' if_gw (x := "count") "j" (fun a j => a + 1 * 2 ^ j.toNat) ?hold ?hold2 F' N' ?_; (case hold => with_unfolding_all rfl); (case hold2 => with_unfolding_all rfl)))
  k_with "own exec For Name Call cons nil" => (k_dflt (k_extra "my for"))
  k_with "own RItA" => (k_dflt (k_extra "my rit"))
  k_with "own subscriptTail Name BinOp ref int" => (k_here; k_dflt (refine item_bl (by k_asm) (by assumption) (by omega) (by assumption) (by omega) ?_))
  unfold Spec
  intro dp un gd outer base s R B X T hd hu hpre hret
  k_dflt (refine' enter ?k1 ?k2 ?k3 ?k6 ?k7 ?k8 ?k9 ?kB ?_ ?c2 ?c3 ?c4 ?c5; (case k1 => exact B); (case k2 => exact X); (case k3 => exact T); (case k6 => k_is); (case k7 => k_is); (case k8 => ktr_room); (case k9 => exact BindsTo.of_eq rfl); (case c5 => decide); (case kB => exact locs rfl); (case c2 => exact rfl); (case c3 => exact rfl); (case c4 => exact rfl); k_whole)
  clear B X T
  intro g' L' h' hg B' X' T' F' N'
  w_binds F'
  (try dsimp only)
  rw [hg] at hpre
  (try k_fold)
  have hbl : g'.IsList l (bl [a0, a1, a2, a3, a4, a5, a6]) := hpre
  clear hpre
  k_with "my rit" => (refine ⟨_, _, _, _, _, _, rfl, rfl, by assumption, by assumption, ?_⟩; assumption)
  k_with "my for" => (
    (rename Fr _ _ _ _ => F9); (rename News _ _ _ _ => N9)
    refine' for_rangeA (news := []) 0 6 6 (JWo [a0, a1, a2, a3, a4, a5, a6] l) ?hh ?hv ?hp F9 N9 ?h0 ?sm ?rs ?it ?step ?fin
    case hh => exact rfl
    case hv => exact rfl
    case hp => exact rfl
    case h0 => exact ⟨_, rfl, rfl, rfl⟩
    case sm => decide
    case rs => decide
    case it => k_steps
    case step =>
      clear F9 N9
      rintro i t m₁ news₁ I oI h tk0 hi htk0 ⟨t1, e1, e2, rfl⟩ ne9 F9 N9
      have F9 := fr_addw F9 ((if_neg (by decide)).trans e1)
      have F9 := fr_addw F9 ((if_neg (by decide)).trans ((if_neg (by decide)).trans e2))
      have F9 := fr_addw F9 (x := Str.ofString "j") (v := .int (0 + (i : Int)) t) rfl
      clear e1 e2
      have hlen : (0 + (i : Int) + 1) < ([a0, a1, a2, a3, a4, a5, a6].length : Int) := by simp only [List.length_cons, List.length_nil]; omega
      have hy : wS [a0, a1, a2, a3, a4, a5, a6] (i + 1) = if ([a0, a1, a2, a3, a4, a5, a6].getD (0 + (i : Int) + 1).toNat false == false) = true then wS [a0, a1, a2, a3, a4, a5, a6] i + 1 * 2 ^ (0 + (i : Int)).toNat else wS [a0, a1, a2, a3, a4, a5, a6] i := by
        rw [show (0 + (i : Int) + 1).toNat = i + 1 by omega]; rfl
      generalize wS [a0, a1, a2, a3, a4, a5, a6] i = x at *
      generalize [a0, a1, a2, a3, a4, a5, a6] = as at *
      k_steps
      (rename (_ = ite _ _ _) => q); have q' := q.trans hy.symm; clear q; subst q'
      (rename Fr _ _ _ _ => F8); (rename News _ _ _ _ => N8)
      exact ⟨rfl, _, _, _, [], rfl, F8, N8, (fun p hp => absurd hp List.not_mem_nil), _, rfl, rfl, rfl⟩
    case' fin =>
      clear F9 N9
      rintro h9 tk9 m9 news9 F9 N9 ⟨t1, e1, e2, rfl⟩
      have F9 := fr_addw F9 e1)
  k_steps
  subst hg
  (try dsimp only)
  refine hret _ _ _ (Fr.keep (by assumption)) ⟨_, congrArg₂ Value.int ?_ rfl⟩
  simp only [wS, ite_plus]
  rfl
end

-- X_readings
section
theorem call_specT {w : World} {A A₀ : Around} {s : Shared} {base h₀ : Heap} {outer : List Env} {mean : ExcName → Option Value} {mg mb : Str → Option Value} {env : Env} {f : Addr} {args : List Value} {L : Addr} {m : Str → Option Value} {news : List (Addr × Obj)} {d u : Nat} {pre : Shared → Prop} {post : Heap → Heap → Value → Prop} {Q E : Value → Shared → Prop}
    {dp un : Nat} {gd : Option (List Code)} (S : SpecT w mean mg mb f d u args pre post) (B : Below A₀ base outer h₀) (F : Fr h₀ L s.heap m) (X : Frag.In (Mine.hd.heap_39 w.params) h₀) (N : News h₀ L s.heap news) (T : Top Mine.hd.view_39 (looseW Mine.hd.view_39 []) mean mg mb h₀)
    (hA : A = topA dp un gd (env :: outer)) (hf : env.frame = some L) (hke : env.scope.kind = .function) (hd : dp + d < recursionLimit) (hu : un + u < cLine) (hp : pre s)
    (h : ∀ v h' tk', Fr h₀ L h' m → News h₀ L h' news → post s.heap h' v → Q v { s with heap := h', toks := tk' }) :
    wpAny (model PySem.Challenge.pw_yf0007_01 w) A (call (.ref f) args) Q E s := by
  subst hA
  refine wpAny_call ?_
  have B₁ := pushX B F hf hke
  refine S dp un gd (env :: outer) base s _ ⟨rfl, B₁.stays, B₁.frames⟩ (fun a o e => F.keep _ _ (X a o e)) (T.keeps F.keep) hd hu hp fun v h' tk' hk hpost => ?_
  exact h v h' tk' (fr_keeps F hk) (news_keeps N hk) hpost
theorem call_specM {w : World} {A : Around} {s : Shared} {h₀ : Heap} {outer : List Env} {mean : ExcName → Option Value} {mg mb : Str → Option Value} {env : Env} {f : Addr} {args : List Value} {L M : Addr} {o : Obj} {m : Str → Option Value} {rest : List (Addr × Obj)} {d u : Nat} {pre : Heap → Prop} {post : Heap → Value → Prop} {Q E : Value → Shared → Prop}
    {dp un : Nat} {gd : Option (List Code)} (S : SpecM w mean mg mb f d u args M pre post) (F : Fr h₀ L s.heap m) (X : Frag.In (Mine.hd.heap_39 w.params) h₀) (N : News h₀ L s.heap ((M, o) :: rest)) (ne : AllNe M rest) (T : Top Mine.hd.view_39 (looseW Mine.hd.view_39 []) mean mg mb h₀)
    (hA : A = topA dp un gd (env :: outer)) (hd : dp + d < recursionLimit) (hu : un + u < cLine) (hp : pre s.heap)
    (h : ∀ v h' tk' o', Fr h₀ L h' m → h'.get? M = some o' → News h₀ L h' ((M, o') :: rest) → post h' v → Q v { s with heap := h', toks := tk' }) (hpost : ∀ h' v, post h' v → ∃ o', h'.get? M = some o') :
    wpAny (model PySem.Challenge.pw_yf0007_01 w) A (call (.ref f) args) Q E s := by
  subst hA
  refine wpAny_call ?_
  have nM := N _ (.head _)
  refine S dp un gd (env :: outer) s _ (fun a o e => F.keep _ _ (X a o e)) (T.keeps F.keep) hd hu hp fun v h' tk' hk hq => ?_
  obtain ⟨o', ho'⟩ := hpost h' v hq
  have F' : Fr h₀ L h' m := by
    obtain ⟨oL, es, ep, hoL, r⟩ := F.ns
    exact ⟨⟨oL, es, ep, hk _ _ (Ne.symm nM.2.1) hoL, r⟩, fun b ob e => hk b ob (fun q => by rw [q, nM.2.2] at e; cases e) (F.keep b ob e), F.above⟩
  refine h v h' tk' o' F' ho' (fun p hp => ?_) hq
  rcases List.mem_cons.mp hp with rfl | hp
  · exact ⟨ho', nM.2⟩
  · have z := N p (.tail _ hp)
    exact ⟨hk _ _ (ne p hp) z.1, z.2⟩
theorem fr_look {h₀ h : Heap} {L : Addr} {m : Str → Option Value} {z x : Str} {a v : Value} (F : Fr h₀ L h (fun y => if y = z then some a else m y)) (e : m x = some v) : Fr h₀ L h (fun y => if y = z then some a else (fun y => if y = x then some v else m y) y) := by
  have q : (fun y => if y = z then some a else (fun y => if y = x then some v else m y) y) = fun y => if y = z then some a else m y := by
    funext y
    by_cases h1 : y = z
    · rw [if_pos h1, if_pos h1]
    rw [if_neg h1, if_neg h1]
    by_cases h2 : y = x
    · show (if y = x then some v else m y) = m y
      rw [if_pos h2, h2, e]
    · show (if y = x then some v else m y) = m y
      rw [if_neg h2]
  rw [q]; exact F
theorem append_own {prog : Program} {w : World} {A : Around} {E : Value → Shared → Prop} {s : Shared} {Q : Value → Shared → Prop} {h₀ : Heap} {L S : Addr} {m : Str → Option Value} {news : List (Addr × Obj)} {g : Obj → List (Addr × Obj)} {ys : List Value} {x : Value} (F : Fr h₀ L s.heap m) (N : News h₀ L s.heap news) (U : UpdF S (LCg.lst ys) news g) (hl : ys.length ≤ 1000)
    (h : ∀ h', Fr h₀ L h' m → News h₀ L h' (g (LCg.lst (ys ++ [x]))) → Q .none { s with heap := h' }) : wpAny (model prog w) A (call (.builtin "list.append") [.ref S, x]) Q E s := by
  obtain ⟨own, rest, rfl, hg, h1, h2⟩ := U.split
  have hmem := N (S, LCg.lst ys) (List.mem_append_right _ (.head _))
  have hz : (1000 : Nat) ≤ sizeLine := by decide
  refine append_at (hsz := by rw [List.size_toArray]; omega) hmem.1 fun h' hs hS => ?_
  have hS' : h'.get? S = some (LCg.lst (ys ++ [x])) := hS.trans (congrArg some (LCg.lst_snoc ys x))
  refine h h' ⟨F.ns.sameBut hs (Ne.symm hmem.2.1), fun b ob e => (hs.2 b (fun q => ?_)).trans (F.keep b ob e), F.above⟩ (hg _ ▸ N.setAt h1 h2 hs hS')
  rw [q, hmem.2.2] at e; cases e
theorem cnt_some {y : Str} {m c : Nat} {ev : Bool} {t : Tok} (hc : c ≠ 34) (hy : y.cps.toList = toldL m ev c) : some (Value.int (cntL y.cps.toList) t) = some (.int ((m : Nat) : Int) t) := by
  rw [hy]
  unfold cntL
  rw [marks_count hc, List.length_replicate]
theorem two_q : Str.ofString "\"" = ⟨#[34]⟩ := ext_list rfl
theorem two_a (c : Nat) : Str.ofString "\"" ++ (⟨#[c]⟩ : Str) = ⟨#[34, c]⟩ := ext_list (by rw [app_list]; rfl)
theorem two_b (c : Nat) : (⟨#[c]⟩ : Str) ++ Str.ofString "\"" = ⟨#[c, 34]⟩ := ext_list (by rw [app_list]; rfl)
theorem fr_look1 {h₀ h : Heap} {L : Addr} {m : Str → Option Value} {x : Str} {v : Value} (F : Fr h₀ L h m) (e : m x = some v) : Fr h₀ L h (fun y => if y = x then some v else m y) := by
  have q : (fun y => if y = x then some v else m y) = m := by
    funext y
    by_cases h2 : y = x
    · rw [if_pos h2, h2, e]
    · rw [if_neg h2]
  rw [q]; exact F
/-- what a reading of n marks tells -/
def rowOf (n : Nat) : List Bool := [true, decide (n % 2 = 0), decide (1 ≤ n / 2), (decide (n % 2 = 0) && decide (1 ≤ n / 2)), false]
def TR (n0 : Nat) (j : Nat) (y : Value) (objs : List (Addr × Obj)) : Prop := ∃ X z, y = .ref X ∧ objs = [(X, listOf (bl (rowOf (n0 / 2 ^ j))) z)]
def JR (n0 c : Nat) (tl : Str) (Ct : Addr) (i : Nat) (m : Str → Option Value) (news : List (Addr × Obj)) : Prop :=
  ∃ ys rl S oT vT t1 t2 t3, news = (S, LCg.lst ys) :: (Ct, oT) :: rl ∧ oT.data = .cell vT ∧ S ≠ Ct ∧ AllNe S rl ∧ AllNe Ct rl ∧ ys.length = i ∧ Rows (TR n0) 0 ys rl ∧
    m (Str.ofString "seen") = some (.ref S) ∧ m (Str.ofString "count") = some (.int ((n0 / 2 ^ i : Nat) : Int) t1) ∧ m (Str.ofString "mark") = some (.str ⟨#[c]⟩ t2) ∧ m (Str.ofString "tail") = some (.str tl t3)
theorem JR.start {n0 c : Nat} {tl : Str} {Ct S : Addr} {m : Str → Option Value} {oT : Obj} {vT : Option Value} {t1 t2 t3 : Tok} (e1 : m (Str.ofString "seen") = some (.ref S)) (e2 : m (Str.ofString "count") = some (.int (n0 : Int) t1)) (e3 : m (Str.ofString "mark") = some (.str ⟨#[c]⟩ t2)) (e4 : m (Str.ofString "tail") = some (.str tl t3))
    (hc : oT.data = .cell vT) (lt : AllLt S [(Ct, oT)]) : JR n0 c tl Ct 0 m [(S, LCg.lst []), (Ct, oT)] :=
  ⟨[], [], S, oT, vT, t1, t2, t3, rfl, hc, Nat.ne_of_gt lt.1, fun _ h => absurd h List.not_mem_nil, fun _ h => absurd h List.not_mem_nil, rfl, Rows.nil, e1, by rw [Nat.pow_zero, Nat.div_one]; exact e2, e3, e4⟩
theorem allNe_app {d : Addr} {a b : List (Addr × Obj)} (h1 : AllNe d a) (h2 : AllNe d b) : AllNe d (a ++ b) := fun p hp => (List.mem_append.mp hp).elim (h1 p) (h2 p)
theorem JR.next {n0 c i k : Nat} {tl : Str} {Ct S X : Addr} {m : Str → Option Value} {oT : Obj} {vT : Option Value} {t1 t2 t3 : Tok} {z : Nat} {ys : List Value} {rl : List (Addr × Obj)} (hk : n0 / 2 ^ i = k) (hl : ys.length = i) (hR : Rows (TR n0) 0 ys rl) (hc : oT.data = .cell vT) (hSC : S ≠ Ct) (hS : AllNe S rl) (hC : AllNe Ct rl)
    (e1 : m (Str.ofString "seen") = some (.ref S)) (e2 : m (Str.ofString "count") = some (.int ((k / 2 : Nat) : Int) t1)) (e3 : m (Str.ofString "mark") = some (.str ⟨#[c]⟩ t2)) (e4 : m (Str.ofString "tail") = some (.str tl t3)) (nS : X ≠ S) (nC : X ≠ Ct) :
    JR n0 c tl Ct (i + 1) m ((S, LCg.lst (ys ++ [.ref X])) :: (Ct, oT) :: (rl ++ [(X, listOf (bl (rowOf k)) z)])) :=
  ⟨ys ++ [.ref X], rl ++ [(X, listOf (bl (rowOf k)) z)], S, oT, vT, t1, t2, t3, rfl, hc, hSC, allNe_app hS (fun p hp => by rw [List.mem_singleton.mp hp]; exact nS), allNe_app hC (fun p hp => by rw [List.mem_singleton.mp hp]; exact nC), by rw [List.length_append, hl]; rfl,
    hR.snoc ⟨X, z, rfl, by rw [hl, Nat.zero_add, hk]⟩, e1, by rw [Nat.pow_succ, ← Nat.div_div_eq_div_mul, hk]; exact e2, e3, e4⟩
theorem rstep_make {h₀ h' : Heap} {L I S Ct X : Addr} {m₂ : Str → Option Value} {s : Shared} {oI oX oT : Obj} {all rl : List (Addr × Obj)} {n0 c i k z : Nat} {tl : Str} {ys : List Value} {vT : Option Value} {t1 t2 t3 : Tok} {tk' : Nat} {oS₀ oT₀ : Obj}
    (F : Fr h₀ L h' m₂) (N : News h₀ L h' all) (mX : (X, oX) ∈ all) (mI : (I, oI) ∈ all) (mS : (S, LCg.lst (ys ++ [.ref X])) ∈ all) (mC : (Ct, oT) ∈ all) (sub : ∀ p ∈ rl, p ∈ all) (eX : oX = listOf (bl (rowOf k)) z) (hk : n0 / 2 ^ i = k) (hl : ys.length = i) (hR : Rows (TR n0) 0 ys rl) (hc : oT.data = .cell vT) (hSC : S ≠ Ct) (hS : AllNe S rl) (hC : AllNe Ct rl)
    (e1 : m₂ (Str.ofString "seen") = some (.ref S)) (e2 : m₂ (Str.ofString "count") = some (.int ((k / 2 : Nat) : Int) t1)) (e3 : m₂ (Str.ofString "mark") = some (.str ⟨#[c]⟩ t2)) (e4 : m₂ (Str.ofString "tail") = some (.str tl t3)) (nS : X ≠ S) (nC : X ≠ Ct) (nI : X ≠ I) (ne : AllNe I ((S, oS₀) :: (Ct, oT₀) :: rl)) :
    RStep h₀ L s I oI (JR n0 c tl Ct (i + 1)) .next { s with heap := h', toks := tk' } := by
  subst eX
  refine ⟨rfl, h', tk', m₂, _, rfl, F, fun p hp => ?_, fun p hp => ?_, JR.next (X := X) (z := z) hk hl hR hc hSC hS hC e1 e2 e3 e4 nS nC⟩
  · rcases List.mem_cons.mp hp with rfl | hp
    · exact N _ mI
    rcases List.mem_cons.mp hp with rfl | hp
    · exact N _ mS
    rcases List.mem_cons.mp hp with rfl | hp
    · exact N _ mC
    rcases List.mem_append.mp hp with hp | hp
    · exact N _ (sub _ hp)
    · rw [List.mem_singleton.mp hp]; exact N _ mX
  · rcases List.mem_cons.mp hp with rfl | hp
    · exact ne (S, oS₀) (.head _)
    rcases List.mem_cons.mp hp with rfl | hp
    · exact ne (Ct, oT₀) (.tail _ (.head _))
    rcases List.mem_append.mp hp with hp | hp
    · exact ne _ (.tail _ (.tail _ hp))
    · rw [List.mem_singleton.mp hp]; exact nI
set_option maxHeartbeats 8000000 in
theorem sp_readings (w : World) (mean : ExcName → Option Value) (mg mb : Str → Option Value) (n0 c : Nat) (tl : Str) (ta tb tc : Tok) (hn : n0 ≤ 126) (hc : c ≠ 34) (htl : rd (c :: tl.cps.toList) = [c]) (hl : tl.length ≤ 14) :
    Spec w mean mg mb 206 4 30 [.int (n0 : Int) ta, .str ⟨#[c]⟩ tb, .str tl tc] (fun _ => True) (fun h h' v => ∃ D zn ys rl, v = .ref D ∧ h'.get? D = some (listOf ys.toArray zn) ∧ ys.length = 7 ∧ Rows (TR n0) 0 ys rl ∧ (∀ p ∈ rl, h'.get? p.1 = some p.2 ∧ h.get? p.1 = none) ∧ h.get? D = none) := by
  k_with_none
  w_top off
  k_with "own eval ListComp" => (k_here; (with_reducible show wpAny _ _ (eval (Expr.ListComp _ _ _ _) _) _ _ _); lcf_look; lcg_calm; k_dflt (refine LCg.ListComp_U (F₀ := by k_asm) (by with_unfolding_all rfl) (by decide) (by rfl) (by decide) (by rfl) ?_); k_dflt lcg_toSrc)
  k_with "own my_len" => (repeat' first | (with_reducible refine len_half ?_ ?_) | (with_reducible refine len_slice_le ?_) | (k_dflt exact fits14 (by with_reducible assumption) rfl) | (k_dflt exact Nat.le_of_ble_eq_true rfl))
  k_with "own newList" => (k_here; (rename Fr _ _ _ _ => F9'); (rename News _ _ _ _ => N9'); k_dflt (refine newList_own F9' N9' (by rfl) ?_); intro l' h' F' N' l1; (have l2 := l1); (try simp only [AllLt, and_true] at l2); (try k_sweep))
  k_with "own binaryOp Add str str" => (k_here; (with_reducible show wpAny _ _ (binaryOp Operator.Add (Value.str _ _) (Value.str _ _)) _ _ _); (refine add_ownB ?_ ?_ ?_); (focus walk_at "my_len"); (focus walk_at "my_len"); intro t' k')
  k_with "own call ref" => (k_here; k_dflt (refine call_aB (sp_is_same _ _ _ _ _) ?_; intro h' tk' F' N'; (try k_sweep); (try dsimp only); (try k_fold)))
  k_with "own call ref" => (k_here; k_dflt (refine call_aB (sp_contains _ _ _ _ _ _ _ _) ?_; intro h' tk' F' N'; (try k_sweep); (try dsimp only); (try k_fold)))
  k_with "own call ref" => (k_here; k_dflt (refine' call_specM (sp_imulL _ _ _ _ _ _ _ _ ?p0 ?p1) ?k1 ?k3 ?k4 ?ne ?k5 ?kA ?kd ?ku ?kp ?_ ?kq; (case k1 => k_asm); (case k3 => k_asm); (case k4 => k_asm); (case k5 => k_asm); (case ne => exact allNe_lt (by assumption)); (case kA => exact rfl); (case p0 => omega); (case p1 => omega); (case kp => exact ⟨_, (News.get (by assumption) (by k_mem))⟩); (case kq => exact fun _ _ q => ⟨_, q.2.choose_spec⟩); (case kd => first | exact room1 (by assumption) rfl | exact room0 (by assumption) rfl | omega | ((try dsimp only [topA, Around.deeper, Around.in1]); omega)); (case ku => first | exact room1 (by assumption) rfl | exact room0 (by assumption) rfl | omega | ((try dsimp only [topA, Around.deeper, Around.in1]); omega)); k_whole; intro v' h' tk' o' F' g' N' p'; (obtain ⟨e', z', q'⟩ := p'; subst e'; rw [q'] at g'; have r' := Option.some.inj g'; subst r'); clear g' q'; (try simp only [Int.toNat_natCast] at N'); (try k_sweep); (try dsimp only)))
  k_with "own call ref" => (k_here; k_dflt (refine' call_spec (sp_tell _ _ _ _ _ _ _ _ ?p0 ?p1 ?p2 ?p3) ?k1 ?k2 ?k3 ?k4 ?k5 ?kA ?kF ?kK ?kd ?ku ?kp ?_; (case k1 => k_asm); (case k2 => k_asm); (case k3 => k_asm); (case k4 => k_asm); (case k5 => k_asm); (case kA => exact rfl); (case kF => exact rfl); (case kK => exact rfl); (case kp => exact trivial); (case p0 => assumption); (case p1 => assumption); (case p2 => assumption); (case p3 => assumption); (case kd => first | exact room1 (by assumption) rfl | exact room0 (by assumption) rfl | omega | ((try dsimp only [topA, Around.deeper, Around.in1]); omega)); (case ku => first | exact room1 (by assumption) rfl | exact room0 (by assumption) rfl | omega | ((try dsimp only [topA, Around.deeper, Around.in1]); omega)); k_whole; intro v' h' tk' F' N' k' p'; (obtain ⟨y', t', e', q'⟩ := p'; subst e'); clear k'; (try k_sweep); (try dsimp only)))
  k_with "own call ref" => (k_here; k_dflt (refine' call_specT (sp_countS _ _ _ _ _ _ _) ?k1 ?k2 ?k3 ?k4 ?k5 ?kA ?kF ?kK ?kd ?ku ?kp ?_; (case k1 => k_asm); (case k2 => k_asm); (case k3 => k_asm); (case k4 => k_asm); (case k5 => k_asm); (case kA => exact rfl); (case kF => exact rfl); (case kK => exact rfl); (case kp => refine ⟨?_, ?_⟩ <;> (first | assumption | exact Nat.lt_succ_self _ | omega)); (case kd => first | exact room1 (by assumption) rfl | exact room0 (by assumption) rfl | omega | ((try dsimp only [topA, Around.deeper, Around.in1]); omega)); (case ku => first | exact room1 (by assumption) rfl | exact room0 (by assumption) rfl | omega | ((try dsimp only [topA, Around.deeper, Around.in1]); omega)); k_whole; intro v' h' tk' F' N' p'; (obtain ⟨t', e'⟩ := p'; subst e'); (try k_sweep); (try dsimp only)))
  k_with "own call builtin:str.join" => (k_here; k_dflt (refine' join_marks ?k1 ?k2 ?k3 ?_; (case k1 => k_asm); (case k2 => k_mem); (case k3 => assumption)); intro t' kk'; have hml' := marks_len (by assumption))
  k_with "own my_len" => (repeat' first | (with_reducible refine len_half ?_ ?_) | (k_dflt exact fits14 (by with_reducible assumption) rfl) | (k_dflt exact fits126 (by with_reducible assumption) rfl) | (k_dflt exact Nat.le_of_ble_eq_true rfl))
  k_with "own storeName" => (k_here; k_dflt (refine' storeX_C ?F ?N ?c ?U ?d ?_ ?a ?b; (case a => exact rfl); (case b => exact rfl); (case F => k_asm); (case N => k_asm); (case c => exact rfl); (case U => (repeat' first | (with_reducible refine' UpdF.head ?_) | (with_reducible refine' UpdF.tail ?_ ?_) | ((show @Ne Nat _ _); first | assumption | (simp only [ne_eq, not_false_eq_true, *]; done) | (refine Ne.symm ?_; simp only [ne_eq, not_false_eq_true, *]; done) | (refine Nat.ne_of_gt ?_; simp only [*]; done) | (refine Nat.ne_of_lt ?_; simp only [*]; done)) | assumption | exact List.forall_mem_nil _ | (with_reducible refine List.forall_mem_cons.mpr ⟨?_, ?_⟩))); (case d => k_asm); k_whole); intro h' o' F' N' d'; (try dsimp only at N'); (try k_sweep))
  k_with "own call builtin:list.append" => (k_here; (with_reducible show wpAny _ _ (call (Value.builtin _) [Value.ref _, _]) _ _ _); k_dflt (refine' append_own ?F ?N ?U ?hl ?_; (case F => k_asm); (case N => k_asm); (case U => (repeat' first | (with_reducible refine' UpdF.head ?_) | (with_reducible refine' UpdF.tail ?_ ?_) | ((show @Ne Nat _ _); first | assumption | (simp only [ne_eq, not_false_eq_true, *]; done) | (refine Ne.symm ?_; simp only [ne_eq, not_false_eq_true, *]; done) | (refine Nat.ne_of_gt ?_; simp only [*]; done) | (refine Nat.ne_of_lt ?_; simp only [*]; done)) | assumption | exact List.forall_mem_nil _ | (with_reducible refine List.forall_mem_cons.mpr ⟨?_, ?_⟩))); (case hl => omega)); intro h' F' N'; (try dsimp only at N'); (try k_sweep))
  k_with "own execs cons" => (k_here; k_dflt (refine execs_toks (by assumption) ?_))
  k_with "own CompSrc" => (k_dflt (k_extra "my CompSrc"))
  k_with "own exec For Name Call cons nil" => (k_dflt (k_extra "my for"))
  k_with "own RIt" => (k_dflt (k_extra "my rit"))
  unfold Spec
  intro dp un gd outer base s R B X T hd hu hpre hret
  k_dflt (refine' enterC ?k1 ?k2 ?k3 ?k6 ?k7 ?k8 ?k9 ?kB ?kD ?_ ?c2 ?c3 ?c4; (case k1 => exact B); (case k2 => exact X); (case k3 => exact T); (case k6 => k_is); (case k7 => k_is); (case k8 => ktr_room); (case k9 => exact BindsTo.of_eq rfl); (case kB => exact rfl); (case kD => decide +kernel); (case c2 => exact rfl); (case c3 => exact rfl); (case c4 => exact rfl); k_whole)
  clear B X T
  intro g' L' h' tk' cells' hg B' X' T' F' N' Y'
  k_cells Y'
  (try simp only [List.cons_append, List.nil_append] at N')
  (try dsimp only)
  (try dsimp only at hpre)
  (try rw [hg] at hpre)
  (try k_fold)
  k_with "my rit" => (refine ⟨_, _, _, _, _, _, rfl, rfl, by assumption, by assumption, ?_⟩; first | assumption | ((rename News _ _ _ _ => Nq); exact fun p hp => Nq p (.tail _ hp)))
  k_with "my CompSrc" => (
    (rename Fr _ _ _ _ => F8); (rename News _ _ _ _ => N8)
    refine' CompSrc.own (TB [decide (k % 2 = 0), decide (1 ≤ k / 2), (decide (k % 2 = 0) && decide (1 ≤ k / 2)), false]) ?ch F8 N8 ?chm ?csz ?cturn ?cfin
    case ch => exact rfl
    case chm => k_mem
    case csz => exact rfl
    case cturn =>
      clear F8 N8
      intro g9 i9 v9 hi9 hv9
      have hi4 : i9 = 0 ∨ i9 = 1 ∨ i9 = 2 ∨ i9 = 3 := by
        have : i9 < 4 := hi9
        omega
      rcases hi4 with rfl | rfl | rfl | rfl <;> (have hw9 := Option.some.inj (show some _ = some v9 from hv9); clear hv9 hi9; subst hw9; intro C9 oC9 m9 h9 tk9 E9 extra9 hC9 hx9 F9 N9; simp only [List.cons_append, List.nil_append] at N9; k_steps)
      all_goals (refine TEnd.val (by assumption) (by assumption) (fun p hp => hp) ⟨congrArg Value.bool ?_, rfl⟩)
      · exact found1 hc (by assumption)
      · rw [two_q]; exact found2 hc (by assumption)
      · rw [two_a]; exact found3 hc (by assumption)
      · rw [two_b]; exact found4 hc (by assumption)
    case' cfin =>
      intro g9 ys9 res9 hr9 hy9
      obtain ⟨rfl, rfl⟩ := rows_bools hr9 hy9
      clear F8 N8 hr9 hy9
      simp only [List.nil_append, List.map_cons, List.map_nil]
      unfold LCg.FinE
      intro D9 h9 tk9 F9 N9 o9
      (try simp only [LCg.Off1] at o9))
  k_with "my for" => (
    (rename Fr _ _ _ _ => F9); (rename News _ _ _ _ => N9)
    refine' for_rangeJ (news := [(_, LCg.lst []), (_, _)]) 7 (JR n0 c tl (L' + 1)) ?hh ?hv ?hp F9 N9 ?h0 ?sm ?rs ?it ?step ?fin
    case hh => exact rfl
    case hv => exact rfl
    case hp => exact rfl
    case h0 => exact JR.start rfl rfl rfl rfl (by assumption) (by assumption)
    case sm => decide
    case rs => decide
    case it => k_steps
    case step =>
      clear F9 N9
      rintro i t m₁ news₁ I oI h tk0 hi htk0 ⟨ys, rl, S, oT, vT, t1, t2, t3, rfl, hcell, hSC, hS, hC, hl9, hR, e1, e2, e3, e4⟩ ne9 F9 N9
      have F9 := fr_look (fr_look (fr_look (fr_look F9 e4) ((if_neg (by decide)).trans e3)) ((if_neg (by decide)).trans ((if_neg (by decide)).trans e2))) ((if_neg (by decide)).trans ((if_neg (by decide)).trans ((if_neg (by decide)).trans e1)))
      clear e1 e2 e3 e4
      have n91 : @Ne Nat I (L' + 1) := Ne.symm (ne9 _ (.tail _ (.head _)))
      have n92 : @Ne Nat S (L' + 1) := hSC
      have n93 : @Ne Nat I S := Ne.symm (ne9 _ (.head _))
      have hk : n0 / 2 ^ i ≤ 126 := Nat.le_trans (Nat.div_le_self _ _) hn
      generalize hkk : n0 / 2 ^ i = k at *
      (try dsimp only at F9)
      k_steps
      (rename Fr _ _ _ _ => F9); (rename News _ _ _ _ => N9)
      refine' rstep_make F9 N9 (.head _) ?mI ?mS ?mC ?sub ?eX hkk hl9 hR ?hcc hSC hS hC rfl ?ee rfl rfl ?nS ?nC ?nI ne9
      case mI => k_mem
      case mS => k_mem
      case mC => k_mem
      case sub => (intro p hp; repeat (first | exact hp | refine List.Mem.tail _ ?_))
      case eX => first | exact rfl | (simp [rowOf, bl]; done)
      case hcc => assumption
      case ee => exact cnt_some hc (by assumption)
      case nS => ((show @Ne Nat _ _); first | assumption | (simp only [ne_eq, not_false_eq_true, *]; done) | (refine Ne.symm ?_; simp only [ne_eq, not_false_eq_true, *]; done) | (refine Nat.ne_of_gt ?_; simp only [*]; done) | (refine Nat.ne_of_lt ?_; simp only [*]; done))
      case nC => ((show @Ne Nat _ _); first | assumption | (simp only [ne_eq, not_false_eq_true, *]; done) | (refine Ne.symm ?_; simp only [ne_eq, not_false_eq_true, *]; done) | (refine Nat.ne_of_gt ?_; simp only [*]; done) | (refine Nat.ne_of_lt ?_; simp only [*]; done))
      case nI => ((show @Ne Nat _ _); first | assumption | (simp only [ne_eq, not_false_eq_true, *]; done) | (refine Ne.symm ?_; simp only [ne_eq, not_false_eq_true, *]; done) | (refine Nat.ne_of_gt ?_; simp only [*]; done) | (refine Nat.ne_of_lt ?_; simp only [*]; done))
    case' fin =>
      clear F9 N9
      rintro h9 tk9 m9 news9 F9 N9 ⟨ys, rl, S, oT, vT, t1, t2, t3, rfl, hcell, hSC, hS, hC, hl9, hR, e1, e2, e3, e4⟩
      have F9 := fr_look1 F9 e1)
  k_steps
  subst hg
  (try dsimp only)
  (rename News _ _ _ _ => N8)
  exact hret _ _ _ (Fr.keep (by assumption)) ⟨S, ys.length, ys, rl, rfl, (N8 _ (.head _)).1, hl9, hR, fun p hp => ⟨(N8 p (.tail _ (.tail _ hp))).1, (N8 p (.tail _ (.tail _ hp))).2.2⟩, (N8 _ (.head _)).2.2⟩
end

-- LawF
section
theorem allNe_at {d a : Addr} {o : Obj} {l : List (Addr × Obj)} (h : AllNe d l) (hm : (a, o) ∈ l) : a ≠ d := h _ hm
theorem allNe_nil {d : Addr} : AllNe d [] := fun _ h => nomatch h
theorem allNe_cons {d x : Addr} {o : Obj} {l : List (Addr × Obj)} (h : x ≠ d) (r : AllNe d l) : AllNe d ((x, o) :: l) := fun p hp => by
  rcases List.mem_cons.mp hp with rfl | hp
  · exact h
  · exact r p hp
section
variable {prog : Program} {w : World} {A : Around} {E : Value → Shared → Prop} {s : Shared} {h₀ : Heap} {L b D D' : Addr} {m : Str → Option Value} {news : List (Addr × Obj)} {n : Nat} {Q : Value → Shared → Prop}
theorem list_bl {l : List Bool} (F : Fr h₀ L s.heap m) (N : News h₀ L s.heap news) (hb : (b, listOf (bl l) n) ∈ news) (hz : Nat.ble l.length sizeLine = true)
    (h : ∀ D c h', Fr h₀ L h' m → News h₀ L h' ((D, listOf (bl l) c) :: news) → AllNe D news → Q (.ref D) { s with heap := h' }) : wpAny (model prog w) A (call (.type "list") [.ref b]) Q E s :=
  kup_listOf F N hb (zs := l.map Value.bool) (by simp) (fun D c h' F' N' lt => h D c h' F' N' fun p hp => Nat.ne_of_lt (lt p hp)) (by simpa using Nat.le_of_ble_eq_true hz)
theorem list_ne {l : List Value} (F : Fr h₀ L s.heap m) (N : News h₀ L s.heap news) (hb : (b, listOf l.toArray n) ∈ news) (hz : Nat.ble l.length sizeLine = true)
    (h : ∀ D c h', Fr h₀ L h' m → News h₀ L h' ((D, listOf l.toArray c) :: news) → AllNe D news → Q (.ref D) { s with heap := h' }) : wpAny (model prog w) A (call (.type "list") [.ref b]) Q E s :=
  kup_listOf F N hb (zs := l) (by simp) (fun D c h' F' N' lt => h D c h' F' N' fun p hp => Nat.ne_of_lt (lt p hp)) (by simpa using Nat.le_of_ble_eq_true hz)
theorem ne_same {bs : List Bool} {k k' : Nat} (N : News h₀ L s.heap news) (e : (D, listOf (bs.map Value.bool).toArray k) ∈ news) (e' : (D', listOf (bs.map Value.bool).toArray k') ∈ news) (hu : A.units + 64 < cLine) (h : Q (.bool false) s) :
    wpAny (model prog w) A (compareOp .NotEq (.ref D) (.ref D')) Q E s :=
  ne_bools N e e' hu (by rw [decide_eq_true rfl]; exact h)
end
section
variable {w : World} {mean : ExcName → Option Value} {mg mb : Str → Option Value}
theorem spB_same7 (l k : Addr) (n : Int) (e : Nat) : Spec w mean mg mb 221 3 100 [.ref l, .ref k] (fun h => h.IsList l (bl (rowD n e)) ∧ h.IsList k (bl (rowD n e))) (fun _ _ v => v = .bool true) :=
  spec_weak (sp_same7 w mean mg mb l k _ _ _ _ _ _ _ _ _ _ _ _ _ _) fun _ _ v q => by rw [q]; simp
theorem sp_count3 (ax k Y0 Y1 Y2 : Addr) (r0 r1 r2 ld : List Bool) :
    Spec w mean mg mb 100 1 200 [.ref ax, .ref k] (fun h => h.IsList ax [.ref Y0, .ref Y1, .ref Y2].toArray ∧ h.IsList Y0 (bl r0) ∧ h.IsList Y1 (bl r1) ∧ h.IsList Y2 (bl r2) ∧ h.IsList k (bl ld) ∧ Y0 ≠ k ∧ Y1 ≠ k ∧ Y2 ≠ k) (fun _ _ v => ∃ t, v = .int (cntB [r0, r1, r2] ld) t) := by
  unfold Spec
  intro dp un gd outer base s R B X T hd hu hp hr
  obtain ⟨h1, h2, h3, h4, h5, n0, n1, n2⟩ := hp
  refine sp_countB w mean mg mb ax k [(Y0, r0), (Y1, r1), (Y2, r2)] ld ?_ dp un gd outer base s R B X T hd hu ⟨h1, ?_, h5⟩ hr
  · intro p hp
    simp only [List.mem_cons, List.not_mem_nil, or_false] at hp
    rcases hp with rfl | rfl | rfl <;> assumption
  · intro p hp
    simp only [List.mem_cons, List.not_mem_nil, or_false] at hp
    rcases hp with rfl | rfl | rfl <;> assumption
theorem spI_worth (l : Addr) (n : Int) (e : Nat) (he : e < 64) : Spec w mean mg mb 201 5 15 [.ref l] (fun h => h.IsList l (bl (rowD n e))) (fun _ _ v => ∃ t, v = .int (e : Int) t) :=
  spec_weak (sp_worth w mean mg mb l _ _ _ _ _ _ _) fun _ _ v q => by
    obtain ⟨t, rfl⟩ := q
    exact ⟨t, by rw [worth_law (e := (e : Int)) (by omega) (by omega)]⟩
/-- the rows that are read -/
def SeenP (n0 : Nat) (h h' : Heap) (v : Value) : Prop := ∃ D zn X0 X1 X2 X3 X4 X5 X6 z0 z1 z2 z3 z4 z5 z6, v = .ref D ∧ h.get? D = none ∧ h'.get? D = some (listOf [.ref X0, .ref X1, .ref X2, .ref X3, .ref X4, .ref X5, .ref X6].toArray zn) ∧
  ∀ p ∈ [(X0, listOf (bl (rowOf (n0 / 2 ^ 0))) z0), (X1, listOf (bl (rowOf (n0 / 2 ^ 1))) z1), (X2, listOf (bl (rowOf (n0 / 2 ^ 2))) z2), (X3, listOf (bl (rowOf (n0 / 2 ^ 3))) z3), (X4, listOf (bl (rowOf (n0 / 2 ^ 4))) z4), (X5, listOf (bl (rowOf (n0 / 2 ^ 5))) z5), (X6, listOf (bl (rowOf (n0 / 2 ^ 6))) z6)], h'.get? p.1 = some p.2 ∧ h.get? p.1 = none
theorem spS_readings (a b c : Nat) (tl : Str) (ta tb tc : Tok) (ha : a < 64) (hb : b < 64) (hc : c ≠ 34) (htl : rd (c :: tl.cps.toList) = [c]) (hl : tl.length ≤ 14) :
    Spec w mean mg mb 206 4 30 [.int ((a : Int) + (b : Int)) ta, .str ⟨#[c]⟩ tb, .str tl tc] (fun _ => True) (SeenP (a + b)) := by
  have S := sp_readings w mean mg mb (a + b) c tl ta tb tc (by omega) hc htl hl
  rw [Int.natCast_add] at S
  refine spec_weak S fun h h' v q => ?_
  obtain ⟨D, zn, ys, rl, rfl, hD, hl, hR, hp, hn⟩ := q
  obtain ⟨y0, y1, y2, y3, y4, y5, y6, o0, o1, o2, o3, o4, o5, o6, rfl, rfl, ⟨X0, z0, rfl, rfl⟩, ⟨X1, z1, rfl, rfl⟩, ⟨X2, z2, rfl, rfl⟩, ⟨X3, z3, rfl, rfl⟩, ⟨X4, z4, rfl, rfl⟩, ⟨X5, z5, rfl, rfl⟩, ⟨X6, z6, rfl, rfl⟩⟩ := rows7 hR hl
  exact ⟨D, zn, X0, X1, X2, X3, X4, X5, X6, z0, z1, z2, z3, z4, z5, z6, rfl, hn, hD, hp⟩
theorem news_many {h₀ h h' : Heap} {L : Addr} {m : Str → Option Value} {news : List (Addr × Obj)} (F : Fr h₀ L h m) (N' : News h₀ L h' news) : ∀ {rl : List (Addr × Obj)}, (∀ p ∈ rl, h'.get? p.1 = some p.2 ∧ h.get? p.1 = none) → News h₀ L h' (rl ++ news)
  | [], _ => N'
  | p :: rl, hr => news_new F (hr p (.head _)).2 (news_many F N' fun q hq => hr q (.tail _ hq)) (hr p (.head _)).1
end
theorem rowOf_eq (n : Nat) : rowOf n = [true, decide (n % 2 = 0), decide (1 ≤ n / 2), (decide (n % 2 = 0) && decide (1 ≤ n / 2)), false] := rfl
/-- what the product's row and the sum tell of each reading -/
def evenL (p : Int) (e : Nat) (a b : Nat) : List Bool := (rowD p e).drop 1 ++ [decide ((a : Int) + (b : Int) < 64)]
def someL (a b : Nat) : List Bool := [decide ((a : Int) + (b : Int) ≥ 2 ^ 1), decide ((a : Int) + (b : Int) ≥ 2 ^ 2), decide ((a : Int) + (b : Int) ≥ 2 ^ 3), decide ((a : Int) + (b : Int) ≥ 2 ^ 4), decide ((a : Int) + (b : Int) ≥ 2 ^ 5), decide ((a : Int) + (b : Int) ≥ 2 ^ 6), decide ((a : Int) + (b : Int) ≥ 2 ^ 7)]
theorem seen_chk : ∀ s : Nat, s < 128 → (∀ j : Nat, j < 6 → decide (s / 2 ^ j % 2 = 0) = decide (s % 64 / 2 ^ j % 2 = 0)) ∧ decide (s / 2 ^ 6 % 2 = 0) = decide (s < 64) ∧ ∀ j : Nat, j < 7 → decide (1 ≤ s / 2 ^ j / 2) = decide (2 ^ (j + 1) ≤ s) := by decide +kernel
theorem seen_law {p : Int} {e a b : Nat} (ha : a < 64) (hb : b < 64) (he : e = (a + b) % 64) : ∀ j, j < 7 → decide ((a + b) / 2 ^ j % 2 = 0) = (evenL p e a b).getD j false ∧ decide (1 ≤ (a + b) / 2 ^ j / 2) = (someL a b).getD j false := by
  obtain ⟨h1, h2, h3⟩ := seen_chk (a + b) (Nat.add_lt_add ha hb)
  rw [← he] at h1
  have c1 : ∀ k : Nat, decide ((e : Int) / (k : Int) % 2 = 0) = decide (e / k % 2 = 0) := fun k => by
    rw [decide_eq_decide, ← Int.natCast_ediv]; exact Int.ofNat_inj (m := e / k % 2) (n := 0)
  have c2 : decide ((a : Int) + (b : Int) < 64) = decide (a + b < 64) := decide_eq_decide.mpr (Int.ofNat_lt (n := a + b) (m := 64))
  have c3 : ∀ k : Nat, decide ((a : Int) + (b : Int) ≥ (k : Int)) = decide (k ≤ a + b) := fun k => decide_eq_decide.mpr (Int.ofNat_le (m := k) (n := a + b))
  intro j hj
  refine ⟨?_, (h3 j hj).trans ?_⟩
  · rcases lt7 hj with rfl | rfl | rfl | rfl | rfl | rfl | rfl
    · exact (h1 0 (by decide)).trans (c1 1).symm
    · exact (h1 1 (by decide)).trans (c1 2).symm
    · exact (h1 2 (by decide)).trans (c1 4).symm
    · exact (h1 3 (by decide)).trans (c1 8).symm
    · exact (h1 4 (by decide)).trans (c1 16).symm
    · exact (h1 5 (by decide)).trans (c1 32).symm
    · exact h2.trans c2.symm
  · rcases lt7 hj with rfl | rfl | rfl | rfl | rfl | rfl | rfl
    · exact (c3 2).symm
    · exact (c3 4).symm
    · exact (c3 8).symm
    · exact (c3 16).symm
    · exact (c3 32).symm
    · exact (c3 64).symm
    · exact (c3 128).symm
def heldL (c0 c1 c2 c3 : Int) (c : Nat) : List Bool := [tab (64960 + c0 % 64), tab (64960 + c1 % 64), tab (64960 + c2 % 64), tab (64960 + c3 % 64), tab (c : Int)]
theorem near_chk : ∀ m : Nat, m < 64 → tab (64960 + (m : Int)) = (decide (16 ≤ (m : Int)) && decide ((m : Int) < 48)) := by decide
theorem near_eq (p : Int) : tab (64960 + p % 64) = (decide (16 ≤ p % 64) && decide (p % 64 < 48)) := by
  have h := near_chk (p % 64).toNat ((Int.toNat_lt (Int.emod_nonneg _ (by decide))).mpr (Int.emod_lt_of_pos _ (by decide)))
  rwa [Int.toNat_of_nonneg (Int.emod_nonneg _ (by decide))] at h
theorem near_t {p : Int} (h : 16 ≤ p % 64) (h' : p % 64 < 48) : tab (64960 + p % 64) = true := by rw [near_eq, decide_eq_true h, decide_eq_true h']; rfl
theorem near_f {p : Int} (h : ¬ 16 ≤ p % 64) : tab (64960 + p % 64) = false := by rw [near_eq, decide_eq_false h]; rfl
theorem near_f2 {p : Int} (_h : 16 ≤ p % 64) (h' : ¬ p % 64 < 48) : tab (64960 + p % 64) = false := by rw [near_eq, decide_eq_false h', Bool.and_false]
def TTab (cs : List Int) (i : Nat) (y : Value) (objs : List (Addr × Obj)) : Prop := y = .bool (tab (64960 + cs.getD i 0 % 64)) ∧ objs = []
def TSign (cs : List Int) (i : Nat) (y : Value) (objs : List (Addr × Obj)) : Prop := (∃ t, y = .str ⟨#[(64960 + cs.getD i 0 % 64).toNat]⟩ t) ∧ objs = []
end

-- LawG
section
/-- a turn with a test ends: kept, or left out -/
def FYes (b : Bool) (h₀ : Heap) (L : Addr) (m : Str → Option Value) (s₁ : Shared) (led : List (Addr × Obj)) (_ : Value) (s₂ : Shared) : Prop := b = true ∧ ∃ h' tk', s₂ = { s₁ with heap := h', toks := tk' } ∧ Fr h₀ L h' m ∧ News h₀ L h' led
def FNo (b : Bool) (h₀ : Heap) (L : Addr) (m : Str → Option Value) (s₁ : Shared) (led : List (Addr × Obj)) (s₂ : Shared) : Prop := b = false ∧ ∃ h' tk', s₂ = { s₁ with heap := h', toks := tk' } ∧ Fr h₀ L h' m ∧ News h₀ L h' led
theorem FYes.of {b : Bool} {h₀ h' : Heap} {L : Addr} {m : Str → Option Value} {s₁ : Shared} {led all : List (Addr × Obj)} {y : Value} {tk' : Nat} (F : Fr h₀ L h' m) (N : News h₀ L h' all) (sub : ∀ p ∈ led, p ∈ all) (e : b = true) : FYes b h₀ L m s₁ led y { s₁ with heap := h', toks := tk' } := ⟨e, h', tk', rfl, F, fun p hp => N p (sub p hp)⟩
theorem FNo.of {b : Bool} {h₀ h' : Heap} {L : Addr} {m : Str → Option Value} {s₁ : Shared} {led all : List (Addr × Obj)} {tk' : Nat} (F : Fr h₀ L h' m) (N : News h₀ L h' all) (sub : ∀ p ∈ led, p ∈ all) (e : b = false) : FNo b h₀ L m s₁ led { s₁ with heap := h', toks := tk' } := ⟨e, h', tk', rfl, F, fun p hp => N p (sub p hp)⟩
section
variable {prog : Program} {w : World} {A : Around} {h₀ : Heap} {L : Addr} {m : Str → Option Value} {env : Env} {ct elt : Expr} {x : Str} {scope : Scope} {cl : List (Str × Addr)} {s : Shared} {S : List (Addr × Obj) → Prop} {P : Nat → Value → Prop} {Fin : List Value → List (Addr × Obj) → Prop} {news0 : List (Addr × Obj)}
def TurnF (prog : Program) (w : World) (A : Around) (h₀ : Heap) (L : Addr) (m : Str → Option Value) (env : Env) (ct elt : Expr) (x : Str) (scope : Scope) (cl : List (Str × Addr)) (s : Shared) (news0 : List (Addr × Obj)) (b : Bool) (v : Value) : Prop :=
  ∀ (C : Addr) (oC : Obj) (m₂ : Str → Option Value) (h : Heap) (tk : Nat) (E' : Value → Shared → Prop) (extra : List (Addr × Obj)), LCg.NsObj oC m₂ → m₂ x = some v → Fr h₀ L h m → News h₀ L h ((C, oC) :: (news0 ++ extra)) →
    wpAny (model prog w) A (isTrue ct (compEnvC scope cl C env) (eval ct (compEnvC scope cl C env))) (fun ok s' => if ok = true then
      wpAny (model prog w) A (eval elt (compEnvC scope cl C env)) (FYes b h₀ L m { s with heap := h, toks := tk } ((C, oC) :: (news0 ++ extra))) E' s'
      else FNo b h₀ L m { s with heap := h, toks := tk } ((C, oC) :: (news0 ++ extra)) s') E' { s with heap := h, toks := tk }
theorem own_restF {bs : List Bool} {n : Nat} (hS : S news0) (turn : ∀ i v, i < n → P i v → TurnF prog w A h₀ L m env ct elt x scope cl s news0 (bs.getD i false) v) (hn : bs.length = n) (fin : ∀ ys, ys.length = (bs.filter id).length → Fin ys news0) :
    ∀ (j i : Nat) (ys : List Value), i + j = n → ys.length = ((bs.take i).filter id).length → LCt.CompRestT prog w A h₀ L m env ct elt x scope cl s S P Fin j i ys news0 := by
  intro j
  induction j with
  | zero => intro i ys hi hl; refine LCt.CompRestT.zero (fin ys ?_); rw [hl, List.take_of_length_le (by omega)]
  | succ j ih =>
    intro i ys hi hl
    refine LCt.CompRestT.succ ?_
    intro v I oI C oC D m₂ h tk E' hv hC hx F N off ne
    have off' := off.mem
    have hlt : i < bs.length := by omega
    have htake : bs.take (i + 1) = bs.take i ++ [bs.getD i false] := by
      rw [List.take_succ, List.getD_eq_getElem?_getD, List.getElem?_eq_getElem hlt]; rfl
    have N0 : News h₀ L h ((C, oC) :: (news0 ++ [(I, oI), (D, LCg.lst ys)])) := fun p hp => by
      rcases List.mem_cons.mp hp with rfl | hp
      · exact N _ (.tail _ (.head _))
      rcases List.mem_append.mp hp with hp | hp
      · exact N _ (.tail _ (.tail _ (.tail _ hp)))
      rcases List.mem_cons.mp hp with rfl | hp
      · exact N _ (.head _)
      · rw [List.mem_singleton.mp hp]; exact N _ (.tail _ (.tail _ (.head _)))
    have back : ∀ {h' : Heap}, News h₀ L h' ((C, oC) :: (news0 ++ [(I, oI), (D, LCg.lst ys)])) → News h₀ L h' ((I, oI) :: (C, oC) :: (D, LCg.lst ys) :: news0) := fun N' p hp => by
      rcases List.mem_cons.mp hp with rfl | hp
      · exact N' _ (.tail _ (List.mem_append_right _ (.head _)))
      rcases List.mem_cons.mp hp with rfl | hp
      · exact N' _ (.head _)
      rcases List.mem_cons.mp hp with rfl | hp
      · exact N' _ (.tail _ (List.mem_append_right _ (.tail _ (.head _))))
      · exact N' _ (.tail _ (List.mem_append_left _ hp))
    refine wpAny_mono (turn i v (by omega) hv C oC m₂ h tk E' [(I, oI), (D, LCg.lst ys)] hC hx F N0) (fun ok s₂ hy => ?_) fun _ _ e => e
    cases ok with
    | true =>
      simp only [if_true] at hy ⊢
      refine wpAny_mono hy (fun y s₃ h₃ => ?_) fun _ _ e => e
      obtain ⟨hb, h', tk', rfl, F', N'⟩ := h₃
      refine ⟨h', tk', news0, rfl, F', back N', off, hS, ih (i + 1) (ys ++ [y]) (by omega) ?_⟩
      rw [htake, List.filter_append, List.length_append, List.length_append, hl, hb]; rfl
    | false =>
      simp only [Bool.false_eq_true, if_false] at hy ⊢
      obtain ⟨hb, h', tk', rfl, F', N'⟩ := hy
      refine ⟨h', tk', news0, rfl, F', back N', off, hS, ih (i + 1) ys (by omega) ?_⟩
      rw [htake, List.filter_append, List.length_append, hl, hb]; rfl
theorem CompSrcT.own {Q : Shared → List Value → List (Addr × Obj) → Prop} {ax : Addr} {its : Array Value} {k : Nat} {s₁ : Shared} (bs : List Bool) (hh : A.handled = none) (F : Fr h₀ L s₁.heap m) (N : News h₀ L s₁.heap news0) (hm : (ax, ({ cls := .type "list", data := .seq its k } : Obj)) ∈ news0) (hsz : Nat.ble its.size sizeLine = true) (hn : bs.length = its.size)
    (turn : ∀ g i v, i < its.size → its[i]? = some v → TurnF prog w A h₀ L m env ct elt x scope cl { s₁ with heap := g } news0 (bs.getD i false) v)
    (fin : ∀ g ys, ys.length = (bs.filter id).length → Q { s₁ with heap := g } ys news0) : LCt.CompSrcT prog w A h₀ L m env ct elt x scope cl Q (.ref ax) s₁ :=
  LCt.CompSrcT.ledger hh F N hm (Nat.le_of_ble_eq_true hsz) fun g => own_restF (bs := bs) (.inr ⟨_, hm, rfl, _, rfl⟩) (turn g) hn (fin g) its.size 0 [] (by omega) rfl
theorem len_own {E : Value → Shared → Prop} {D : Addr} {ys : List Value} {n : Int} {news : List (Addr × Obj)} {Q : Value → Shared → Prop} (N : News h₀ L s.heap news) (hm : (D, LCg.lst ys) ∈ news) (hl : (ys.length : Int) = n) (hn : n < 2 ^ 63) (h : ∀ k tk, Q (.int n k) { s with toks := tk }) : wpAny (model prog w) A (call (.builtin "len") [.ref D]) Q E s :=
  len_lit (items := ys.toArray) ⟨_, (N _ hm).1, rfl, _, rfl⟩ (by simpa using hl) hn fun k => h k _
end
theorem count_law {r0 r1 r2 : List Bool} {ys : List Value} (h : ys.length = ([decide (r0 = r2), decide (r1 = r2), decide (r2 = r2)].filter id).length) : (ys.length : Int) = cntB [r0, r1, r2] r2 := by
  rw [h]
  unfold cntB
  by_cases h0 : r0 = r2 <;> by_cases h1 : r1 = r2 <;> simp [h0, h1]
theorem cntB_small (r0 r1 r2 l : List Bool) : cntB [r0, r1, r2] l < 2 ^ 63 := by
  unfold cntB
  have : ([r0, r1, r2].filter fun x => decide (x = l)).length ≤ 3 := List.length_filter_le _ _
  omega
end

-- Math4
section
open PySem PySem.W PyProof.Rows
def hitI (z : Int) : Prop := z % 256 = 1 ∨ z % 256 = 255
theorem hit_iff (n b : Int) (e : Nat) : hit (xN (n % 256).toNat (b % 256).toNat e) = true ↔ hitI (n * b ^ e) := by
  unfold hitI
  rw [xN_pow]
  generalize xN (n % 256).toNat (b % 256).toNat e = x
  simp only [hit, Bool.or_eq_true, Nat.beq_eq]
  constructor
  · rintro (h | h)
    · exact .inl (by omega)
    · exact .inr (by omega)
  · rintro (h | h)
    · exact .inl (by omega)
    · exact .inr (by omega)
theorem hitI_mul {y z : Int} (hy : hitI y) (hz : hitI z) : hitI (y * z) := by
  unfold hitI at *
  rw [Int.mul_emod]
  rcases hy with h | h <;> rcases hz with g | g <;> rw [h, g] <;> decide
theorem hitI_cancel {y z : Int} (hy : hitI y) (hz : hitI (y * z)) : hitI z := by
  unfold hitI at *
  rw [Int.mul_emod] at hz
  rcases hy with h | h <;> rw [h] at hz
  · rw [Int.one_mul, Int.emod_emod] at hz; exact hz
  · have hc : ∀ x : Nat, x < 256 → (255 * (x : Int) % 256 = 1 ∨ 255 * (x : Int) % 256 = 255) → ((x : Int) = 1 ∨ (x : Int) = 255) := by decide +kernel
    have := hc (z % 256).toNat res_lt
    rw [Int.toNat_of_nonneg (Int.emod_nonneg _ (by decide))] at this
    exact this hz
/-- no power of the base short of the 64th leaves 1 or 255; the 64th leaves 1 -/
def chkU (b : Nat) : Bool := Nat.beq (firstE 63 1 (8 * b + 5) (8 * b + 5)) 64 && Nat.beq (xN 1 (8 * b + 5) 64) 1
theorem chkU_all : allN 32 chkU = true := by decide +kernel
theorem firstE_none (n b : Nat) : ∀ (f e : Nat), firstE f e (xN n b e) b = e + f → ∀ j, e ≤ j → j < e + f → hit (xN n b j) = false
  | 0, e, _, j, h1, h2 => by omega
  | f + 1, e, h, j, h1, h2 => by
    have hd : firstE (f + 1) e (xN n b e) b = bif hit (xN n b e) then e else firstE f (e + 1) (xN n b (e + 1)) b := rfl
    rw [hd] at h
    cases hh : hit (xN n b e) with
    | true => rw [hh, cond_true] at h; omega
    | false =>
      rw [hh, cond_false] at h
      by_cases q : j = e
      · rw [q]; exact hh
      · exact firstE_none n b f (e + 1) (by omega) j (by omega) (by omega)
theorem base_order {b : Int} (hb : b % 8 = 5) : (∀ k : Nat, 0 < k → k < 64 → ¬ hitI (b ^ k)) ∧ b ^ 64 % 256 = 1 := by
  have hb0 : (b % 256).toNat = 8 * ((b % 256).toNat / 8) + 5 := res_eq (res (k := 8) (r := 5) (by decide) hb)
  have hc := allN_of chkU_all ((b % 256).toNat / 8) (Nat.div_lt_of_lt_mul res_lt)
  unfold chkU at hc
  rw [← hb0, Bool.and_eq_true, Nat.beq_eq, Nat.beq_eq] at hc
  have h1 : ((1 : Int) % 256).toNat = 1 := rfl
  have hx1 : xN 1 (b % 256).toNat 1 = (b % 256).toNat := by
    show 1 * (b % 256).toNat % 256 = _
    rw [Nat.one_mul, Nat.mod_eq_of_lt res_lt]
  refine ⟨fun k hk hk2 hh => ?_, ?_⟩
  · have hn := firstE_none 1 (b % 256).toNat 63 1 (by rw [hx1]; exact hc.1) k hk (by omega)
    have := (hit_iff 1 b k).mpr (by rw [Int.one_mul]; exact hh)
    rw [h1, hn] at this
    cases this
  · have := xN_pow 1 b 64
    rw [Int.one_mul, h1, hc.2] at this
    exact this
theorem need_unique {n b : Int} (hb : b % 8 = 5) {e f : Nat} (he : e < 64) (hf : f < 64) (h1 : hitI (n * b ^ e)) (h2 : hitI (n * b ^ f)) : e = f := by
  have key : ∀ {e f : Nat}, f < 64 → e < f → hitI (n * b ^ e) → hitI (n * b ^ f) → False := by
    intro e f hf hlt h1 h2
    have e2 : n * b ^ f = (n * b ^ e) * b ^ (f - e) := by
      rw [Int.mul_assoc, ← Int.pow_add]
      rw [Nat.add_sub_cancel' (Nat.le_of_lt hlt)]
    rw [e2] at h2
    exact (base_order hb).1 (f - e) (Nat.sub_pos_of_lt hlt) (Nat.lt_of_le_of_lt (Nat.sub_le _ _) hf) (hitI_cancel h1 h2)
  rcases Nat.lt_trichotomy e f with h | h | h
  · exact (key hf h h1 h2).elim
  · exact h
  · exact (key he h h2 h1).elim
/-- the needs of two numbers add up to their product's, by 64 -/
theorem need_add {a c b : Int} (ha : a % 2 = 1) (hc : c % 2 = 1) (hb : b % 8 = 5) : needE (a * c) b = (needE a b + needE c b) % 64 := by
  obtain ⟨a64, _, ha1, _⟩ := need_law ha hb
  obtain ⟨c64, _, hc1, _⟩ := need_law hc hb
  have hac : (a * c) % 2 = 1 := by rw [Int.mul_emod, ha, hc]; rfl
  obtain ⟨p64, _, hp1, _⟩ := need_law hac hb
  have h1 := (hit_iff a b _).mp ha1
  have h2 := (hit_iff c b _).mp hc1
  have h3 := (hit_iff (a * c) b _).mp hp1
  have hm : hitI ((a * c) * b ^ (needE a b + needE c b)) := by
    have e : (a * c) * b ^ (needE a b + needE c b) = (a * b ^ needE a b) * (c * b ^ needE c b) := by
      rw [Int.pow_add]; simp only [Int.mul_assoc, Int.mul_left_comm]
    rw [e]; exact hitI_mul h1 h2
  refine need_unique hb p64 (Nat.mod_lt _ (by decide)) h3 ?_
  by_cases hlt : needE a b + needE c b < 64
  · rw [Nat.mod_eq_of_lt hlt]; exact hm
  · have e : (needE a b + needE c b) % 64 = needE a b + needE c b - 64 := by rw [Nat.mod_eq_sub_mod (Nat.le_of_not_lt hlt)]; exact Nat.mod_eq_of_lt (Nat.sub_lt_left_of_lt_add (Nat.le_of_not_lt hlt) (Nat.add_lt_add a64 c64))
    rw [e]
    have h64 : hitI (b ^ 64) := .inl (base_order hb).2
    refine hitI_cancel h64 ?_
    have e2 : b ^ 64 * ((a * c) * b ^ (needE a b + needE c b - 64)) = (a * c) * b ^ (needE a b + needE c b) := by
      rw [Int.mul_left_comm, ← Int.pow_add, Nat.add_sub_cancel' (Nat.le_of_not_lt hlt)]
    rw [e2]; exact hm
end

-- LawH
section
section
variable {w : World} {A : Around} {s : Shared} {h₀ : Heap} {outer : List Env} {mean : ExcName → Option Value} {mg mb : Str → Option Value} {env : Env} {L M N : Addr} {m : Str → Option Value} {news rest : List (Addr × Obj)} {Q E : Value → Shared → Prop} {xs ys zs : Array Value} {n n2 : Nat}
theorem call_iadd {dp un : Nat} {gd : Option (List Code)} (F : Fr h₀ L s.heap m) (X : Frag.In (Mine.hd.heap_39 w.params) h₀) (Nw : News h₀ L s.heap news) (T : Top Mine.hd.view_39 (looseW Mine.hd.view_39 []) mean mg mb h₀)
    (hA : A = topA dp un gd (env :: outer)) (hd : dp + 1 < recursionLimit) (hu : un + 3 < cLine) (hM : (M, listOf xs n) ∈ news) (hN : (N, listOf ys n2) ∈ news) (hsub : ∀ p ∈ rest, p ∈ news) (ne : AllNe M rest) (hs : xs.size + ys.size ≤ 1000) (hz : xs ++ ys = zs)
    (h : ∀ h' tk' k, Fr h₀ L h' m → News h₀ L h' ((M, listOf zs k) :: rest) → Q (.ref M) { s with heap := h', toks := tk' }) :
    wpAny (model PySem.Challenge.pw_yf0007_01 w) A (call (.ref 107) [.ref M, .ref N]) Q E s := by
  subst hz
  refine call_specM (sp_iaddL w mean mg mb M N xs ys hs) F X (news_cons (Nw _ hM) fun p hp => Nw p (hsub p hp)) ne T hA hd hu ⟨⟨n, (Nw _ hM).1⟩, ⟨n2, (Nw _ hN).1⟩⟩ (fun v h' tk' o' F' hM' N' hp => ?_) fun h' v hp => ⟨_, hp.2.choose_spec⟩
  obtain ⟨rfl, k, hk⟩ := hp
  rw [hM'] at hk
  cases hk
  exact h h' tk' k F' N'
end
theorem allMem_nil {l : List (Addr × Obj)} : ∀ p ∈ ([] : List (Addr × Obj)), p ∈ l := fun _ h => nomatch h
theorem allMem_cons {l r : List (Addr × Obj)} {q : Addr × Obj} (h : q ∈ l) (hr : ∀ p ∈ r, p ∈ l) : ∀ p ∈ q :: r, p ∈ l := fun p hp => by
  rcases List.mem_cons.mp hp with rfl | hp
  · exact h
  · exact hr p hp
theorem allMem_of {l r : List (Addr × Obj)} (h : ∀ p ∈ r, p ∈ l) : ∀ p ∈ r, p ∈ l := h
theorem spI_worth2 {w : World} {mean : ExcName → Option Value} {mg mb : Str → Option Value} (l : Addr) (n : Int) (e : Nat) : Spec w mean mg mb 201 5 15 [.ref l] (fun h => h.IsList l (bl (rowD n e)) ∧ e < 64) (fun _ _ v => ∃ t, v = .int (e : Int) t) := by
  unfold Spec
  intro dp un gd outer base s R B X T hd hu hp hr
  exact spI_worth l n e hp.2 dp un gd outer base s R B X T hd hu hp.1 hr
theorem seen_t {x x' y y' : Bool} (h1 : x = x') (h2 : y = y') (hx : x' = true) : (true == true && x == x' && y == y' && (x && y) == y' && false == false) = true := by
  subst h1 h2 hx; simp
theorem seen_f {x x' y y' : Bool} (h1 : x = x') (h2 : y = y') (hx : x' = false) : (true == true && x == x' && y == y' && (x && y) == x' && false == false) = true := by
  subst h1 h2 hx; simp
theorem item4_sign {cs : List Int} {i : Nat} {p : Int} {t : Tok} (h : cs.getD i 0 = p) : TSign cs i (.str ⟨#[(64960 + p % 64).toNat]⟩ t) [] := ⟨⟨t, by rw [h]⟩, rfl⟩
theorem item4_tab {cs : List Int} {i : Nat} {p : Int} {b : Bool} (h : cs.getD i 0 = p) (hb : b = tab (64960 + p % 64)) : TTab cs i (.bool b) [] := ⟨by rw [h, hb], rfl⟩
theorem near_1 {p : Int} (h : 16 ≤ p % 64) : decide (p % 64 < 48) = tab (64960 + p % 64) := by
  by_cases h' : p % 64 < 48
  · rw [near_t h h', decide_eq_true h']
  · rw [near_f2 h h', decide_eq_false h']
theorem near_2 {p : Int} (h : ¬ 16 ≤ p % 64) : decide (16 ≤ p % 64) = tab (64960 + p % 64) := by
  rw [near_f h, decide_eq_false h]
theorem nearc_1 {c : Int} (h : 65534 ≤ c % 65536) (h0 : 0 ≤ c) : decide (65534 ≤ c % 65536) = tab c := by
  unfold tab
  rw [if_neg (by omega), if_neg (by omega), decide_eq_decide]; omega
theorem nearc_2 {c : Int} (h : ¬ 65534 ≤ c % 65536) (h2 : 64976 ≤ c) : decide (c ≤ 65007) = tab c := by
  unfold tab
  rw [if_neg (by omega)]
  by_cases h3 : c < 65008
  · rw [if_pos h3]; exact decide_eq_true (by omega)
  · rw [if_neg h3, decide_eq_decide]; omega
theorem nearc_3 {c : Int} (h2 : ¬ 64976 ≤ c) : decide (64976 ≤ c) = tab c := by
  unfold tab
  rw [if_pos (by omega)]; exact decide_eq_false h2
theorem arr5_0 {a b c d e : Value} : (#[a, b, c, d, e] : Array Value)[0]? = some a := rfl
theorem arr5_1 {a b c d e : Value} : (#[a, b, c, d, e] : Array Value)[1]? = some b := rfl
theorem arr5_2 {a b c d e : Value} : (#[a, b, c, d, e] : Array Value)[2]? = some c := rfl
theorem arr5_3 {a b c d e : Value} : (#[a, b, c, d, e] : Array Value)[3]? = some d := rfl
theorem arr5_4 {a b c d e : Value} : (#[a, b, c, d, e] : Array Value)[4]? = some e := rfl
theorem tb_at {bs : List Bool} {i : Nat} {b : Bool} (h : bs.getD i false = b) : TB bs i (.bool b) [] := ⟨by rw [h], rfl⟩
theorem held_obj {c0 c1 c2 c3 : Int} {c : Nat} : List.map Value.bool [tab (64960 + c0 % 64), tab (64960 + c1 % 64), tab (64960 + c2 % 64), tab (64960 + c3 % 64), tab (c : Int)] = List.map Value.bool (heldL c0 c1 c2 c3 c) := by unfold heldL; rfl
end

-- SV
section
set_option genInjectivity false in
/-- all that law's stages speak of -/
structure LV where
  w : World
  mean : ExcName → Option Value
  mg : Str → Option Value
  mb : Str → Option Value
  dp : Nat
  un : Nat
  gd : Option (List Code)
  base : Heap
  g : Heap
  L : Addr
  Q : Flow → Shared → Prop
  E : Value → Shared → Prop
  s : Shared
  m : Str → Option Value
  oBase : Obj
  oTurn : Obj
  oMark : Obj
  oPorts : Obj
  oTold : Obj
  oAnswers : Obj
  oNeeds : Obj
  oDues : Obj
  oTotal : Obj
  oEven : Obj
  oSome : Obj
  oSeen : Obj
  p : Addr
  items : List Value
  ns : List Int
  Dc : Addr
  zc : Nat
  c0 : Int
  c1 : Int
  c2 : Int
  c3 : Int
  t0 : Tok
  t1 : Tok
  t2 : Tok
  t3 : Tok
  bv : Int
  tB : Tok
  tv : Int
  tT : Tok
  c : Nat
  tC : Tok
  tM : Tok
  tl : Str
  tTl : Tok
  av : Int
  tA : Tok
  bb : Int
  tBb : Tok
  pv : Int
  Dp : Addr
  zp : Nat
  u0 : Tok
  u1 : Tok
  u2 : Tok
  u3 : Tok
  Dt : Addr
  zt : Nat
  X0 : Addr
  X1 : Addr
  X2 : Addr
  X3 : Addr
  w0 : Tok
  w1 : Tok
  w2 : Tok
  w3 : Tok
  v0 : Tok
  v1 : Tok
  v2 : Tok
  v3 : Tok
  Da : Addr
  za : Nat
  Y0 : Addr
  Y1 : Addr
  Y2 : Addr
  y0 : Nat
  y1 : Nat
  y2 : Nat
  Dn : Addr
  zn : Nat
  n0 : Tok
  n1 : Tok
  n2 : Tok
  Dd : Addr
  zd : Nat
  Z0 : Addr
  Z1 : Addr
  Z2 : Addr
  z0 : Nat
  z1 : Nat
  z2 : Nat
  zf : Nat
  tS : Tok
  De : Addr
  zv : Nat
  Ds : Addr
  zs : Nat
  Dw : Addr
  zw : Nat
  W0 : Addr
  W1 : Addr
  W2 : Addr
  W3 : Addr
  W4 : Addr
  W5 : Addr
  W6 : Addr
  k0 : Nat
  k1 : Nat
  k2 : Nat
  k3 : Nat
  k4 : Nat
  k5 : Nat
  k6 : Nat
  Dh : Addr
  zh : Nat
  Dr : Addr
  zr : Nat
def CC0 (v : LV) (G : Prop) : Prop := LCtx v.w v.mean v.mg v.mb v.dp v.un v.gd v.base v.g → Fr v.g v.L v.s.heap v.m → News v.g v.L v.s.heap [(v.L + 1 + 1 + 1 + 1 + 1 + 1 + 1 + 1 + 1 + 1 + 1 + 1, v.oSeen), (v.L + 1 + 1 + 1 + 1 + 1 + 1 + 1 + 1 + 1 + 1 + 1, v.oSome), (v.L + 1 + 1 + 1 + 1 + 1 + 1 + 1 + 1 + 1 + 1, v.oEven), (v.L + 1 + 1 + 1 + 1 + 1 + 1 + 1 + 1 + 1, v.oTotal), (v.L + 1 + 1 + 1 + 1 + 1 + 1 + 1 + 1, v.oDues), (v.L + 1 + 1 + 1 + 1 + 1 + 1 + 1, v.oNeeds), (v.L + 1 + 1 + 1 + 1 + 1 + 1, v.oAnswers), (v.L + 1 + 1 + 1 + 1 + 1, v.oTold), (v.L + 1 + 1 + 1 + 1, v.oPorts), (v.L + 1 + 1 + 1, v.oMark), (v.L + 1 + 1, v.oTurn), (v.L + 1, v.oBase)] →
  (v.m (Str.ofString "script") = some (.ref v.p)) → (v.oBase.data = .cell none) → (v.oTurn.data = .cell none) → (v.oMark.data = .cell none) → (v.oPorts.data = .cell none) → (v.oTold.data = .cell none) → (v.oAnswers.data = .cell none) → (v.oNeeds.data = .cell none) → (v.oDues.data = .cell none) → (v.oTotal.data = .cell none) → (v.oEven.data = .cell none) → (v.oSome.data = .cell none) → (v.oSeen.data = .cell none) → (IntsAre v.items v.ns) → (v.ns.length ≤ 63) → (v.g.IsList v.p v.items.toArray) → (∀ (h' : Heap) (tk' : Nat) (m' : Str → Option Value), Fr v.g v.L h' m' → v.Q (.ret (.bool true)) { (v.s) with heap := h', toks := tk' }) → G
def II0 : Prop := ∀ v : LV, CC0 v (Go v.w v.dp v.un v.gd v.L 0 v.Q v.E v.s)
def CC1 (v : LV) (G : Prop) : Prop := LCtx v.w v.mean v.mg v.mb v.dp v.un v.gd v.base v.g → Fr v.g v.L v.s.heap v.m → News v.g v.L v.s.heap [(v.Dc, listOf [.int v.c0 v.t0, .int v.c1 v.t1, .int v.c2 v.t2, .int v.c3 v.t3].toArray v.zc), (v.L + 1 + 1 + 1 + 1 + 1 + 1 + 1 + 1 + 1 + 1 + 1 + 1, v.oSeen), (v.L + 1 + 1 + 1 + 1 + 1 + 1 + 1 + 1 + 1 + 1 + 1, v.oSome), (v.L + 1 + 1 + 1 + 1 + 1 + 1 + 1 + 1 + 1 + 1, v.oEven), (v.L + 1 + 1 + 1 + 1 + 1 + 1 + 1 + 1 + 1, v.oTotal), (v.L + 1 + 1 + 1 + 1 + 1 + 1 + 1 + 1, v.oDues), (v.L + 1 + 1 + 1 + 1 + 1 + 1 + 1, v.oNeeds), (v.L + 1 + 1 + 1 + 1 + 1 + 1, v.oAnswers), (v.L + 1 + 1 + 1 + 1 + 1, v.oTold), (v.L + 1 + 1 + 1 + 1, v.oPorts), (v.L + 1 + 1 + 1, v.oMark), (v.L + 1 + 1, v.oTurn), (v.L + 1, v.oBase)] →
  (v.m (Str.ofString "cells") = some (.ref v.Dc)) → (v.oBase.data = .cell none) → (v.oTurn.data = .cell none) → (v.oMark.data = .cell none) → (v.oPorts.data = .cell none) → (v.oTold.data = .cell none) → (v.oAnswers.data = .cell none) → (v.oNeeds.data = .cell none) → (v.oDues.data = .cell none) → (v.oTotal.data = .cell none) → (v.oEven.data = .cell none) → (v.oSome.data = .cell none) → (v.oSeen.data = .cell none) → (-2^40 < v.c0) → (-2^40 < v.c1) → (-2^40 < v.c2) → (-2^40 < v.c3) → (v.c0 < 2^40) → (v.c1 < 2^40) → (v.c2 < 2^40) → (v.c3 < 2^40) → (∀ (h' : Heap) (tk' : Nat) (m' : Str → Option Value), Fr v.g v.L h' m' → v.Q (.ret (.bool true)) { (v.s) with heap := h', toks := tk' }) → G
def II1 : Prop := ∀ v : LV, CC1 v (Go v.w v.dp v.un v.gd v.L 1 v.Q v.E v.s)
def CC2 (v : LV) (G : Prop) : Prop := LCtx v.w v.mean v.mg v.mb v.dp v.un v.gd v.base v.g → Fr v.g v.L v.s.heap v.m → News v.g v.L v.s.heap [(v.Dc, listOf [.int v.c0 v.t0, .int v.c1 v.t1, .int v.c2 v.t2, .int v.c3 v.t3].toArray v.zc), (v.L + 1 + 1 + 1 + 1 + 1 + 1 + 1 + 1 + 1 + 1 + 1 + 1, v.oSeen), (v.L + 1 + 1 + 1 + 1 + 1 + 1 + 1 + 1 + 1 + 1 + 1, v.oSome), (v.L + 1 + 1 + 1 + 1 + 1 + 1 + 1 + 1 + 1 + 1, v.oEven), (v.L + 1 + 1 + 1 + 1 + 1 + 1 + 1 + 1 + 1, v.oTotal), (v.L + 1 + 1 + 1 + 1 + 1 + 1 + 1 + 1, v.oDues), (v.L + 1 + 1 + 1 + 1 + 1 + 1 + 1, v.oNeeds), (v.L + 1 + 1 + 1 + 1 + 1 + 1, v.oAnswers), (v.L + 1 + 1 + 1 + 1 + 1, v.oTold), (v.L + 1 + 1 + 1 + 1, v.oPorts), (v.L + 1 + 1 + 1, v.oMark), (v.L + 1 + 1, v.oTurn), (v.L + 1, v.oBase)] →
  (v.m (Str.ofString "cells") = some (.ref v.Dc)) → (v.oBase.data = .cell (some (.int v.bv v.tB))) → (v.oTurn.data = .cell none) → (v.oMark.data = .cell none) → (v.oPorts.data = .cell none) → (v.oTold.data = .cell none) → (v.oAnswers.data = .cell none) → (v.oNeeds.data = .cell none) → (v.oDues.data = .cell none) → (v.oTotal.data = .cell none) → (v.oEven.data = .cell none) → (v.oSome.data = .cell none) → (v.oSeen.data = .cell none) → (-2^40 < v.c0) → (-2^40 < v.c1) → (-2^40 < v.c2) → (-2^40 < v.c3) → (v.c0 < 2^40) → (v.c1 < 2^40) → (v.c2 < 2^40) → (v.c3 < 2^40) → (v.bv % 8 = 5) → (-252 < v.bv) → (v.bv < 254) → (∀ (h' : Heap) (tk' : Nat) (m' : Str → Option Value), Fr v.g v.L h' m' → v.Q (.ret (.bool true)) { (v.s) with heap := h', toks := tk' }) → G
def II2 : Prop := ∀ v : LV, CC2 v (Go v.w v.dp v.un v.gd v.L 2 v.Q v.E v.s)
def CC3 (v : LV) (G : Prop) : Prop := LCtx v.w v.mean v.mg v.mb v.dp v.un v.gd v.base v.g → Fr v.g v.L v.s.heap v.m → News v.g v.L v.s.heap [(v.Dc, listOf [.int v.c0 v.t0, .int v.c1 v.t1, .int v.c2 v.t2, .int v.c3 v.t3].toArray v.zc), (v.L + 1 + 1 + 1 + 1 + 1 + 1 + 1 + 1 + 1 + 1 + 1 + 1, v.oSeen), (v.L + 1 + 1 + 1 + 1 + 1 + 1 + 1 + 1 + 1 + 1 + 1, v.oSome), (v.L + 1 + 1 + 1 + 1 + 1 + 1 + 1 + 1 + 1 + 1, v.oEven), (v.L + 1 + 1 + 1 + 1 + 1 + 1 + 1 + 1 + 1, v.oTotal), (v.L + 1 + 1 + 1 + 1 + 1 + 1 + 1 + 1, v.oDues), (v.L + 1 + 1 + 1 + 1 + 1 + 1 + 1, v.oNeeds), (v.L + 1 + 1 + 1 + 1 + 1 + 1, v.oAnswers), (v.L + 1 + 1 + 1 + 1 + 1, v.oTold), (v.L + 1 + 1 + 1 + 1, v.oPorts), (v.L + 1 + 1 + 1, v.oMark), (v.L + 1 + 1, v.oTurn), (v.L + 1, v.oBase)] →
  (v.m (Str.ofString "cells") = some (.ref v.Dc)) → (v.oBase.data = .cell (some (.int v.bv v.tB))) → (v.oTurn.data = .cell (some (.int v.tv v.tT))) → (v.oMark.data = .cell none) → (v.oPorts.data = .cell none) → (v.oTold.data = .cell none) → (v.oAnswers.data = .cell none) → (v.oNeeds.data = .cell none) → (v.oDues.data = .cell none) → (v.oTotal.data = .cell none) → (v.oEven.data = .cell none) → (v.oSome.data = .cell none) → (v.oSeen.data = .cell none) → (-2^40 < v.c0) → (-2^40 < v.c1) → (-2^40 < v.c2) → (-2^40 < v.c3) → (v.c0 < 2^40) → (v.c1 < 2^40) → (v.c2 < 2^40) → (v.c3 < 2^40) → (v.bv % 8 = 5) → (-252 < v.bv) → (v.bv < 254) → (∀ (h' : Heap) (tk' : Nat) (m' : Str → Option Value), Fr v.g v.L h' m' → v.Q (.ret (.bool true)) { (v.s) with heap := h', toks := tk' }) → G
def II3 : Prop := ∀ v : LV, CC3 v (Go v.w v.dp v.un v.gd v.L 3 v.Q v.E v.s)
def CC4 (v : LV) (G : Prop) : Prop := LCtx v.w v.mean v.mg v.mb v.dp v.un v.gd v.base v.g → Fr v.g v.L v.s.heap v.m → News v.g v.L v.s.heap [(v.Dc, listOf [.int v.c0 v.t0, .int v.c1 v.t1, .int v.c2 v.t2, .int v.c3 v.t3].toArray v.zc), (v.L + 1 + 1 + 1 + 1 + 1 + 1 + 1 + 1 + 1 + 1 + 1 + 1, v.oSeen), (v.L + 1 + 1 + 1 + 1 + 1 + 1 + 1 + 1 + 1 + 1 + 1, v.oSome), (v.L + 1 + 1 + 1 + 1 + 1 + 1 + 1 + 1 + 1 + 1, v.oEven), (v.L + 1 + 1 + 1 + 1 + 1 + 1 + 1 + 1 + 1, v.oTotal), (v.L + 1 + 1 + 1 + 1 + 1 + 1 + 1 + 1, v.oDues), (v.L + 1 + 1 + 1 + 1 + 1 + 1 + 1, v.oNeeds), (v.L + 1 + 1 + 1 + 1 + 1 + 1, v.oAnswers), (v.L + 1 + 1 + 1 + 1 + 1, v.oTold), (v.L + 1 + 1 + 1 + 1, v.oPorts), (v.L + 1 + 1 + 1, v.oMark), (v.L + 1 + 1, v.oTurn), (v.L + 1, v.oBase)] →
  (v.m (Str.ofString "cells") = some (.ref v.Dc)) → (v.m (Str.ofString "code") = some (.int (v.c : Int) v.tC)) → (v.oBase.data = .cell (some (.int v.bv v.tB))) → (v.oTurn.data = .cell (some (.int v.tv v.tT))) → (v.oMark.data = .cell none) → (v.oPorts.data = .cell none) → (v.oTold.data = .cell none) → (v.oAnswers.data = .cell none) → (v.oNeeds.data = .cell none) → (v.oDues.data = .cell none) → (v.oTotal.data = .cell none) → (v.oEven.data = .cell none) → (v.oSome.data = .cell none) → (v.oSeen.data = .cell none) → (-2^40 < v.c0) → (-2^40 < v.c1) → (-2^40 < v.c2) → (-2^40 < v.c3) → (v.c0 < 2^40) → (v.c1 < 2^40) → (v.c2 < 2^40) → (v.c3 < 2^40) → (v.bv % 8 = 5) → (-252 < v.bv) → (v.bv < 254) → (64 ≤ v.c) → (v.c ≤ 1114111) → (v.c ≠ 34) → (v.c ≠ 120) → (∀ (h' : Heap) (tk' : Nat) (m' : Str → Option Value), Fr v.g v.L h' m' → v.Q (.ret (.bool true)) { (v.s) with heap := h', toks := tk' }) → G
def II4 : Prop := ∀ v : LV, CC4 v (Go v.w v.dp v.un v.gd v.L 4 v.Q v.E v.s)
def CC5 (v : LV) (G : Prop) : Prop := LCtx v.w v.mean v.mg v.mb v.dp v.un v.gd v.base v.g → Fr v.g v.L v.s.heap v.m → News v.g v.L v.s.heap [(v.Dc, listOf [.int v.c0 v.t0, .int v.c1 v.t1, .int v.c2 v.t2, .int v.c3 v.t3].toArray v.zc), (v.L + 1 + 1 + 1 + 1 + 1 + 1 + 1 + 1 + 1 + 1 + 1 + 1, v.oSeen), (v.L + 1 + 1 + 1 + 1 + 1 + 1 + 1 + 1 + 1 + 1 + 1, v.oSome), (v.L + 1 + 1 + 1 + 1 + 1 + 1 + 1 + 1 + 1 + 1, v.oEven), (v.L + 1 + 1 + 1 + 1 + 1 + 1 + 1 + 1 + 1, v.oTotal), (v.L + 1 + 1 + 1 + 1 + 1 + 1 + 1 + 1, v.oDues), (v.L + 1 + 1 + 1 + 1 + 1 + 1 + 1, v.oNeeds), (v.L + 1 + 1 + 1 + 1 + 1 + 1, v.oAnswers), (v.L + 1 + 1 + 1 + 1 + 1, v.oTold), (v.L + 1 + 1 + 1 + 1, v.oPorts), (v.L + 1 + 1 + 1, v.oMark), (v.L + 1 + 1, v.oTurn), (v.L + 1, v.oBase)] →
  (v.m (Str.ofString "cells") = some (.ref v.Dc)) → (v.m (Str.ofString "code") = some (.int (v.c : Int) v.tC)) → (v.oBase.data = .cell (some (.int v.bv v.tB))) → (v.oTurn.data = .cell (some (.int v.tv v.tT))) → (v.oMark.data = .cell (some (.str ⟨#[v.c]⟩ v.tM))) → (v.oPorts.data = .cell none) → (v.oTold.data = .cell none) → (v.oAnswers.data = .cell none) → (v.oNeeds.data = .cell none) → (v.oDues.data = .cell none) → (v.oTotal.data = .cell none) → (v.oEven.data = .cell none) → (v.oSome.data = .cell none) → (v.oSeen.data = .cell none) → (-2^40 < v.c0) → (-2^40 < v.c1) → (-2^40 < v.c2) → (-2^40 < v.c3) → (v.c0 < 2^40) → (v.c1 < 2^40) → (v.c2 < 2^40) → (v.c3 < 2^40) → (v.bv % 8 = 5) → (-252 < v.bv) → (v.bv < 254) → (64 ≤ v.c) → (v.c ≤ 1114111) → (v.c ≠ 34) → (v.c ≠ 120) → (∀ (h' : Heap) (tk' : Nat) (m' : Str → Option Value), Fr v.g v.L h' m' → v.Q (.ret (.bool true)) { (v.s) with heap := h', toks := tk' }) → G
def II5 : Prop := ∀ v : LV, CC5 v (Go v.w v.dp v.un v.gd v.L 5 v.Q v.E v.s)
def CC6 (v : LV) (G : Prop) : Prop := LCtx v.w v.mean v.mg v.mb v.dp v.un v.gd v.base v.g → Fr v.g v.L v.s.heap v.m → News v.g v.L v.s.heap [(v.Dc, listOf [.int v.c0 v.t0, .int v.c1 v.t1, .int v.c2 v.t2, .int v.c3 v.t3].toArray v.zc), (v.L + 1 + 1 + 1 + 1 + 1 + 1 + 1 + 1 + 1 + 1 + 1 + 1, v.oSeen), (v.L + 1 + 1 + 1 + 1 + 1 + 1 + 1 + 1 + 1 + 1 + 1, v.oSome), (v.L + 1 + 1 + 1 + 1 + 1 + 1 + 1 + 1 + 1 + 1, v.oEven), (v.L + 1 + 1 + 1 + 1 + 1 + 1 + 1 + 1 + 1, v.oTotal), (v.L + 1 + 1 + 1 + 1 + 1 + 1 + 1 + 1, v.oDues), (v.L + 1 + 1 + 1 + 1 + 1 + 1 + 1, v.oNeeds), (v.L + 1 + 1 + 1 + 1 + 1 + 1, v.oAnswers), (v.L + 1 + 1 + 1 + 1 + 1, v.oTold), (v.L + 1 + 1 + 1 + 1, v.oPorts), (v.L + 1 + 1 + 1, v.oMark), (v.L + 1 + 1, v.oTurn), (v.L + 1, v.oBase)] →
  (v.m (Str.ofString "cells") = some (.ref v.Dc)) → (v.m (Str.ofString "code") = some (.int (v.c : Int) v.tC)) → (v.m (Str.ofString "tail") = some (.str v.tl v.tTl)) → (v.oBase.data = .cell (some (.int v.bv v.tB))) → (v.oTurn.data = .cell (some (.int v.tv v.tT))) → (v.oMark.data = .cell (some (.str ⟨#[v.c]⟩ v.tM))) → (v.oPorts.data = .cell none) → (v.oTold.data = .cell none) → (v.oAnswers.data = .cell none) → (v.oNeeds.data = .cell none) → (v.oDues.data = .cell none) → (v.oTotal.data = .cell none) → (v.oEven.data = .cell none) → (v.oSome.data = .cell none) → (v.oSeen.data = .cell none) → (-2^40 < v.c0) → (-2^40 < v.c1) → (-2^40 < v.c2) → (-2^40 < v.c3) → (v.c0 < 2^40) → (v.c1 < 2^40) → (v.c2 < 2^40) → (v.c3 < 2^40) → (v.bv % 8 = 5) → (-252 < v.bv) → (v.bv < 254) → (64 ≤ v.c) → (v.c ≤ 1114111) → (v.c ≠ 34) → (v.c ≠ 120) → (rd (v.c :: v.tl.cps.toList) = [v.c]) → (v.tl.length ≤ 14) → (∀ (h' : Heap) (tk' : Nat) (m' : Str → Option Value), Fr v.g v.L h' m' → v.Q (.ret (.bool true)) { (v.s) with heap := h', toks := tk' }) → G
def II6 : Prop := ∀ v : LV, CC6 v (Go v.w v.dp v.un v.gd v.L 6 v.Q v.E v.s)
def CC7 (v : LV) (G : Prop) : Prop := LCtx v.w v.mean v.mg v.mb v.dp v.un v.gd v.base v.g → Fr v.g v.L v.s.heap v.m → News v.g v.L v.s.heap [(v.Dc, listOf [.int v.c0 v.t0, .int v.c1 v.t1, .int v.c2 v.t2, .int v.c3 v.t3].toArray v.zc), (v.L + 1 + 1 + 1 + 1 + 1 + 1 + 1 + 1 + 1 + 1 + 1 + 1, v.oSeen), (v.L + 1 + 1 + 1 + 1 + 1 + 1 + 1 + 1 + 1 + 1 + 1, v.oSome), (v.L + 1 + 1 + 1 + 1 + 1 + 1 + 1 + 1 + 1 + 1, v.oEven), (v.L + 1 + 1 + 1 + 1 + 1 + 1 + 1 + 1 + 1, v.oTotal), (v.L + 1 + 1 + 1 + 1 + 1 + 1 + 1 + 1, v.oDues), (v.L + 1 + 1 + 1 + 1 + 1 + 1 + 1, v.oNeeds), (v.L + 1 + 1 + 1 + 1 + 1 + 1, v.oAnswers), (v.L + 1 + 1 + 1 + 1 + 1, v.oTold), (v.L + 1 + 1 + 1 + 1, v.oPorts), (v.L + 1 + 1 + 1, v.oMark), (v.L + 1 + 1, v.oTurn), (v.L + 1, v.oBase)] →
  (v.m (Str.ofString "cells") = some (.ref v.Dc)) → (v.m (Str.ofString "code") = some (.int (v.c : Int) v.tC)) → (v.m (Str.ofString "tail") = some (.str v.tl v.tTl)) → (v.m (Str.ofString "a") = some (.int v.av v.tA)) → (v.oBase.data = .cell (some (.int v.bv v.tB))) → (v.oTurn.data = .cell (some (.int v.tv v.tT))) → (v.oMark.data = .cell (some (.str ⟨#[v.c]⟩ v.tM))) → (v.oPorts.data = .cell none) → (v.oTold.data = .cell none) → (v.oAnswers.data = .cell none) → (v.oNeeds.data = .cell none) → (v.oDues.data = .cell none) → (v.oTotal.data = .cell none) → (v.oEven.data = .cell none) → (v.oSome.data = .cell none) → (v.oSeen.data = .cell none) → (-2^40 < v.c0) → (-2^40 < v.c1) → (-2^40 < v.c2) → (-2^40 < v.c3) → (v.c0 < 2^40) → (v.c1 < 2^40) → (v.c2 < 2^40) → (v.c3 < 2^40) → (v.bv % 8 = 5) → (-252 < v.bv) → (v.bv < 254) → (64 ≤ v.c) → (v.c ≤ 1114111) → (v.c ≠ 34) → (v.c ≠ 120) → (rd (v.c :: v.tl.cps.toList) = [v.c]) → (v.tl.length ≤ 14) → (v.av % 2 = 1) → (-4096 < v.av) → (v.av < 4096) → (∀ (h' : Heap) (tk' : Nat) (m' : Str → Option Value), Fr v.g v.L h' m' → v.Q (.ret (.bool true)) { (v.s) with heap := h', toks := tk' }) → G
def II7 : Prop := ∀ v : LV, CC7 v (Go v.w v.dp v.un v.gd v.L 7 v.Q v.E v.s)
def CC8 (v : LV) (G : Prop) : Prop := LCtx v.w v.mean v.mg v.mb v.dp v.un v.gd v.base v.g → Fr v.g v.L v.s.heap v.m → News v.g v.L v.s.heap [(v.Dc, listOf [.int v.c0 v.t0, .int v.c1 v.t1, .int v.c2 v.t2, .int v.c3 v.t3].toArray v.zc), (v.L + 1 + 1 + 1 + 1 + 1 + 1 + 1 + 1 + 1 + 1 + 1 + 1, v.oSeen), (v.L + 1 + 1 + 1 + 1 + 1 + 1 + 1 + 1 + 1 + 1 + 1, v.oSome), (v.L + 1 + 1 + 1 + 1 + 1 + 1 + 1 + 1 + 1 + 1, v.oEven), (v.L + 1 + 1 + 1 + 1 + 1 + 1 + 1 + 1 + 1, v.oTotal), (v.L + 1 + 1 + 1 + 1 + 1 + 1 + 1 + 1, v.oDues), (v.L + 1 + 1 + 1 + 1 + 1 + 1 + 1, v.oNeeds), (v.L + 1 + 1 + 1 + 1 + 1 + 1, v.oAnswers), (v.L + 1 + 1 + 1 + 1 + 1, v.oTold), (v.L + 1 + 1 + 1 + 1, v.oPorts), (v.L + 1 + 1 + 1, v.oMark), (v.L + 1 + 1, v.oTurn), (v.L + 1, v.oBase)] →
  (v.m (Str.ofString "cells") = some (.ref v.Dc)) → (v.m (Str.ofString "code") = some (.int (v.c : Int) v.tC)) → (v.m (Str.ofString "tail") = some (.str v.tl v.tTl)) → (v.m (Str.ofString "a") = some (.int v.av v.tA)) → (v.m (Str.ofString "b") = some (.int v.bb v.tBb)) → (v.oBase.data = .cell (some (.int v.bv v.tB))) → (v.oTurn.data = .cell (some (.int v.tv v.tT))) → (v.oMark.data = .cell (some (.str ⟨#[v.c]⟩ v.tM))) → (v.oPorts.data = .cell none) → (v.oTold.data = .cell none) → (v.oAnswers.data = .cell none) → (v.oNeeds.data = .cell none) → (v.oDues.data = .cell none) → (v.oTotal.data = .cell none) → (v.oEven.data = .cell none) → (v.oSome.data = .cell none) → (v.oSeen.data = .cell none) → (-2^40 < v.c0) → (-2^40 < v.c1) → (-2^40 < v.c2) → (-2^40 < v.c3) → (v.c0 < 2^40) → (v.c1 < 2^40) → (v.c2 < 2^40) → (v.c3 < 2^40) → (v.bv % 8 = 5) → (-252 < v.bv) → (v.bv < 254) → (64 ≤ v.c) → (v.c ≤ 1114111) → (v.c ≠ 34) → (v.c ≠ 120) → (rd (v.c :: v.tl.cps.toList) = [v.c]) → (v.tl.length ≤ 14) → (v.av % 2 = 1) → (-4096 < v.av) → (v.av < 4096) → (v.bb % 2 = 1) → (-4096 < v.bb) → (v.bb < 4096) → (∀ (h' : Heap) (tk' : Nat) (m' : Str → Option Value), Fr v.g v.L h' m' → v.Q (.ret (.bool true)) { (v.s) with heap := h', toks := tk' }) → G
def II8 : Prop := ∀ v : LV, CC8 v (Go v.w v.dp v.un v.gd v.L 8 v.Q v.E v.s)
def CC9 (v : LV) (G : Prop) : Prop := LCtx v.w v.mean v.mg v.mb v.dp v.un v.gd v.base v.g → Fr v.g v.L v.s.heap v.m → News v.g v.L v.s.heap [(v.Dp, listOf [.int v.av v.u0, .int v.bb v.u1, .int v.pv v.u2, .int v.bv v.u3].toArray v.zp), (v.Dc, listOf [.int v.c0 v.t0, .int v.c1 v.t1, .int v.c2 v.t2, .int v.c3 v.t3].toArray v.zc), (v.L + 1 + 1 + 1 + 1 + 1 + 1 + 1 + 1 + 1 + 1 + 1 + 1, v.oSeen), (v.L + 1 + 1 + 1 + 1 + 1 + 1 + 1 + 1 + 1 + 1 + 1, v.oSome), (v.L + 1 + 1 + 1 + 1 + 1 + 1 + 1 + 1 + 1 + 1, v.oEven), (v.L + 1 + 1 + 1 + 1 + 1 + 1 + 1 + 1 + 1, v.oTotal), (v.L + 1 + 1 + 1 + 1 + 1 + 1 + 1 + 1, v.oDues), (v.L + 1 + 1 + 1 + 1 + 1 + 1 + 1, v.oNeeds), (v.L + 1 + 1 + 1 + 1 + 1 + 1, v.oAnswers), (v.L + 1 + 1 + 1 + 1 + 1, v.oTold), (v.L + 1 + 1 + 1 + 1, v.oPorts), (v.L + 1 + 1 + 1, v.oMark), (v.L + 1 + 1, v.oTurn), (v.L + 1, v.oBase)] →
  (v.m (Str.ofString "cells") = some (.ref v.Dc)) → (v.m (Str.ofString "code") = some (.int (v.c : Int) v.tC)) → (v.m (Str.ofString "tail") = some (.str v.tl v.tTl)) → (v.m (Str.ofString "a") = some (.int v.av v.tA)) → (v.oBase.data = .cell (some (.int v.bv v.tB))) → (v.oTurn.data = .cell (some (.int v.tv v.tT))) → (v.oMark.data = .cell (some (.str ⟨#[v.c]⟩ v.tM))) → (v.oPorts.data = .cell (some (.ref v.Dp))) → (v.oTold.data = .cell none) → (v.oAnswers.data = .cell none) → (v.oNeeds.data = .cell none) → (v.oDues.data = .cell none) → (v.oTotal.data = .cell none) → (v.oEven.data = .cell none) → (v.oSome.data = .cell none) → (v.oSeen.data = .cell none) → (-2^40 < v.c0) → (-2^40 < v.c1) → (-2^40 < v.c2) → (-2^40 < v.c3) → (v.c0 < 2^40) → (v.c1 < 2^40) → (v.c2 < 2^40) → (v.c3 < 2^40) → (v.bv % 8 = 5) → (-252 < v.bv) → (v.bv < 254) → (64 ≤ v.c) → (v.c ≤ 1114111) → (v.c ≠ 34) → (v.c ≠ 120) → (rd (v.c :: v.tl.cps.toList) = [v.c]) → (v.tl.length ≤ 14) → (v.av % 2 = 1) → (-4096 < v.av) → (v.av < 4096) → (v.bb % 2 = 1) → (-4096 < v.bb) → (v.bb < 4096) → (v.pv = v.av * v.bb) → (v.pv % 2 = 1) → (-(2^24) < v.pv) → (v.pv < 2^24) → (∀ (h' : Heap) (tk' : Nat) (m' : Str → Option Value), Fr v.g v.L h' m' → v.Q (.ret (.bool true)) { (v.s) with heap := h', toks := tk' }) → G
def II9 : Prop := ∀ v : LV, CC9 v (Go v.w v.dp v.un v.gd v.L 9 v.Q v.E v.s)
def CC10 (v : LV) (G : Prop) : Prop := LCtx v.w v.mean v.mg v.mb v.dp v.un v.gd v.base v.g → Fr v.g v.L v.s.heap v.m → News v.g v.L v.s.heap [(v.Dt, listOf [.ref v.X0, .ref v.X1, .ref v.X2, .ref v.X3].toArray v.zt), (v.X0, tupO v.av v.w0 v.v0), (v.X1, tupO v.bb v.w1 v.v1), (v.X2, tupO v.pv v.w2 v.v2), (v.X3, tupO v.bv v.w3 v.v3), (v.Dp, listOf [.int v.av v.u0, .int v.bb v.u1, .int v.pv v.u2, .int v.bv v.u3].toArray v.zp), (v.Dc, listOf [.int v.c0 v.t0, .int v.c1 v.t1, .int v.c2 v.t2, .int v.c3 v.t3].toArray v.zc), (v.L + 1 + 1 + 1 + 1 + 1 + 1 + 1 + 1 + 1 + 1 + 1 + 1, v.oSeen), (v.L + 1 + 1 + 1 + 1 + 1 + 1 + 1 + 1 + 1 + 1 + 1, v.oSome), (v.L + 1 + 1 + 1 + 1 + 1 + 1 + 1 + 1 + 1 + 1, v.oEven), (v.L + 1 + 1 + 1 + 1 + 1 + 1 + 1 + 1 + 1, v.oTotal), (v.L + 1 + 1 + 1 + 1 + 1 + 1 + 1 + 1, v.oDues), (v.L + 1 + 1 + 1 + 1 + 1 + 1 + 1, v.oNeeds), (v.L + 1 + 1 + 1 + 1 + 1 + 1, v.oAnswers), (v.L + 1 + 1 + 1 + 1 + 1, v.oTold), (v.L + 1 + 1 + 1 + 1, v.oPorts), (v.L + 1 + 1 + 1, v.oMark), (v.L + 1 + 1, v.oTurn), (v.L + 1, v.oBase)] →
  (v.m (Str.ofString "cells") = some (.ref v.Dc)) → (v.m (Str.ofString "code") = some (.int (v.c : Int) v.tC)) → (v.m (Str.ofString "tail") = some (.str v.tl v.tTl)) → (v.m (Str.ofString "a") = some (.int v.av v.tA)) → (v.oBase.data = .cell (some (.int v.bv v.tB))) → (v.oTurn.data = .cell (some (.int v.tv v.tT))) → (v.oMark.data = .cell (some (.str ⟨#[v.c]⟩ v.tM))) → (v.oPorts.data = .cell (some (.ref v.Dp))) → (v.oTold.data = .cell (some (.ref v.Dt))) → (v.oAnswers.data = .cell none) → (v.oNeeds.data = .cell none) → (v.oDues.data = .cell none) → (v.oTotal.data = .cell none) → (v.oEven.data = .cell none) → (v.oSome.data = .cell none) → (v.oSeen.data = .cell none) → (-2^40 < v.c0) → (-2^40 < v.c1) → (-2^40 < v.c2) → (-2^40 < v.c3) → (v.c0 < 2^40) → (v.c1 < 2^40) → (v.c2 < 2^40) → (v.c3 < 2^40) → (v.bv % 8 = 5) → (-252 < v.bv) → (v.bv < 254) → (64 ≤ v.c) → (v.c ≤ 1114111) → (v.c ≠ 34) → (v.c ≠ 120) → (rd (v.c :: v.tl.cps.toList) = [v.c]) → (v.tl.length ≤ 14) → (v.av % 2 = 1) → (-4096 < v.av) → (v.av < 4096) → (v.bb % 2 = 1) → (-4096 < v.bb) → (v.bb < 4096) → (v.pv = v.av * v.bb) → (v.pv % 2 = 1) → (-(2^24) < v.pv) → (v.pv < 2^24) → (∀ (h' : Heap) (tk' : Nat) (m' : Str → Option Value), Fr v.g v.L h' m' → v.Q (.ret (.bool true)) { (v.s) with heap := h', toks := tk' }) → G
def II10 : Prop := ∀ v : LV, CC10 v (Go v.w v.dp v.un v.gd v.L 10 v.Q v.E v.s)
def CC11 (v : LV) (G : Prop) : Prop := LCtx v.w v.mean v.mg v.mb v.dp v.un v.gd v.base v.g → Fr v.g v.L v.s.heap v.m → News v.g v.L v.s.heap [(v.Dt, listOf [.ref v.X0, .ref v.X1, .ref v.X2, .ref v.X3].toArray v.zt), (v.X0, tupO v.av v.w0 v.v0), (v.X1, tupO v.bb v.w1 v.v1), (v.X2, tupO v.pv v.w2 v.v2), (v.X3, tupO v.bv v.w3 v.v3), (v.Dp, listOf [.int v.av v.u0, .int v.bb v.u1, .int v.pv v.u2, .int v.bv v.u3].toArray v.zp), (v.Dc, listOf [.int v.c0 v.t0, .int v.c1 v.t1, .int v.c2 v.t2, .int v.c3 v.t3].toArray v.zc), (v.L + 1 + 1 + 1 + 1 + 1 + 1 + 1 + 1 + 1 + 1 + 1 + 1, v.oSeen), (v.L + 1 + 1 + 1 + 1 + 1 + 1 + 1 + 1 + 1 + 1 + 1, v.oSome), (v.L + 1 + 1 + 1 + 1 + 1 + 1 + 1 + 1 + 1 + 1, v.oEven), (v.L + 1 + 1 + 1 + 1 + 1 + 1 + 1 + 1 + 1, v.oTotal), (v.L + 1 + 1 + 1 + 1 + 1 + 1 + 1 + 1, v.oDues), (v.L + 1 + 1 + 1 + 1 + 1 + 1 + 1, v.oNeeds), (v.L + 1 + 1 + 1 + 1 + 1 + 1, v.oAnswers), (v.L + 1 + 1 + 1 + 1 + 1, v.oTold), (v.L + 1 + 1 + 1 + 1, v.oPorts), (v.L + 1 + 1 + 1, v.oMark), (v.L + 1 + 1, v.oTurn), (v.L + 1, v.oBase)] →
  (v.m (Str.ofString "cells") = some (.ref v.Dc)) → (v.m (Str.ofString "code") = some (.int (v.c : Int) v.tC)) → (v.m (Str.ofString "tail") = some (.str v.tl v.tTl)) → (v.m (Str.ofString "a") = some (.int v.av v.tA)) → (v.oBase.data = .cell (some (.int v.bv v.tB))) → (v.oTurn.data = .cell (some (.int v.tv v.tT))) → (v.oMark.data = .cell (some (.str ⟨#[v.c]⟩ v.tM))) → (v.oPorts.data = .cell (some (.ref v.Dp))) → (v.oTold.data = .cell (some (.ref v.Dt))) → (v.oAnswers.data = .cell none) → (v.oNeeds.data = .cell none) → (v.oDues.data = .cell none) → (v.oTotal.data = .cell none) → (v.oEven.data = .cell none) → (v.oSome.data = .cell none) → (v.oSeen.data = .cell none) → (-2^40 < v.c0) → (-2^40 < v.c1) → (-2^40 < v.c2) → (-2^40 < v.c3) → (v.c0 < 2^40) → (v.c1 < 2^40) → (v.c2 < 2^40) → (v.c3 < 2^40) → (v.bv % 8 = 5) → (-252 < v.bv) → (v.bv < 254) → (64 ≤ v.c) → (v.c ≤ 1114111) → (v.c ≠ 34) → (v.c ≠ 120) → (rd (v.c :: v.tl.cps.toList) = [v.c]) → (v.tl.length ≤ 14) → (v.av % 2 = 1) → (-4096 < v.av) → (v.av < 4096) → (v.bb % 2 = 1) → (-4096 < v.bb) → (v.bb < 4096) → (v.pv = v.av * v.bb) → (v.pv % 2 = 1) → (-(2^24) < v.pv) → (v.pv < 2^24) → (∀ (h' : Heap) (tk' : Nat) (m' : Str → Option Value), Fr v.g v.L h' m' → v.Q (.ret (.bool true)) { (v.s) with heap := h', toks := tk' }) → G
def II11 : Prop := ∀ v : LV, CC11 v (Go v.w v.dp v.un v.gd v.L 11 v.Q v.E v.s)
def CC12 (v : LV) (G : Prop) : Prop := LCtx v.w v.mean v.mg v.mb v.dp v.un v.gd v.base v.g → Fr v.g v.L v.s.heap v.m → News v.g v.L v.s.heap [(v.Dt, listOf [.ref v.X0, .ref v.X1, .ref v.X2, .ref v.X3].toArray v.zt), (v.X0, tupO v.av v.w0 v.v0), (v.X1, tupO v.bb v.w1 v.v1), (v.X2, tupO v.pv v.w2 v.v2), (v.X3, tupO v.bv v.w3 v.v3), (v.Dp, listOf [.int v.av v.u0, .int v.bb v.u1, .int v.pv v.u2, .int v.bv v.u3].toArray v.zp), (v.Dc, listOf [.int v.c0 v.t0, .int v.c1 v.t1, .int v.c2 v.t2, .int v.c3 v.t3].toArray v.zc), (v.L + 1 + 1 + 1 + 1 + 1 + 1 + 1 + 1 + 1 + 1 + 1 + 1, v.oSeen), (v.L + 1 + 1 + 1 + 1 + 1 + 1 + 1 + 1 + 1 + 1 + 1, v.oSome), (v.L + 1 + 1 + 1 + 1 + 1 + 1 + 1 + 1 + 1 + 1, v.oEven), (v.L + 1 + 1 + 1 + 1 + 1 + 1 + 1 + 1 + 1, v.oTotal), (v.L + 1 + 1 + 1 + 1 + 1 + 1 + 1 + 1, v.oDues), (v.L + 1 + 1 + 1 + 1 + 1 + 1 + 1, v.oNeeds), (v.L + 1 + 1 + 1 + 1 + 1 + 1, v.oAnswers), (v.L + 1 + 1 + 1 + 1 + 1, v.oTold), (v.L + 1 + 1 + 1 + 1, v.oPorts), (v.L + 1 + 1 + 1, v.oMark), (v.L + 1 + 1, v.oTurn), (v.L + 1, v.oBase)] →
  (v.m (Str.ofString "cells") = some (.ref v.Dc)) → (v.m (Str.ofString "code") = some (.int (v.c : Int) v.tC)) → (v.m (Str.ofString "tail") = some (.str v.tl v.tTl)) → (v.m (Str.ofString "a") = some (.int v.av v.tA)) → (v.oBase.data = .cell (some (.int v.bv v.tB))) → (v.oTurn.data = .cell (some (.int v.tv v.tT))) → (v.oMark.data = .cell (some (.str ⟨#[v.c]⟩ v.tM))) → (v.oPorts.data = .cell (some (.ref v.Dp))) → (v.oTold.data = .cell (some (.ref v.Dt))) → (v.oAnswers.data = .cell none) → (v.oNeeds.data = .cell none) → (v.oDues.data = .cell none) → (v.oTotal.data = .cell none) → (v.oEven.data = .cell none) → (v.oSome.data = .cell none) → (v.oSeen.data = .cell none) → (-2^40 < v.c0) → (-2^40 < v.c1) → (-2^40 < v.c2) → (-2^40 < v.c3) → (v.c0 < 2^40) → (v.c1 < 2^40) → (v.c2 < 2^40) → (v.c3 < 2^40) → (v.bv % 8 = 5) → (-252 < v.bv) → (v.bv < 254) → (64 ≤ v.c) → (v.c ≤ 1114111) → (v.c ≠ 34) → (v.c ≠ 120) → (rd (v.c :: v.tl.cps.toList) = [v.c]) → (v.tl.length ≤ 14) → (v.av % 2 = 1) → (-4096 < v.av) → (v.av < 4096) → (v.bb % 2 = 1) → (-4096 < v.bb) → (v.bb < 4096) → (v.pv = v.av * v.bb) → (v.pv % 2 = 1) → (-(2^24) < v.pv) → (v.pv < 2^24) → (∀ (h' : Heap) (tk' : Nat) (m' : Str → Option Value), Fr v.g v.L h' m' → v.Q (.ret (.bool true)) { (v.s) with heap := h', toks := tk' }) → G
def II12 : Prop := ∀ v : LV, CC12 v (Go v.w v.dp v.un v.gd v.L 12 v.Q v.E v.s)
def CC13 (v : LV) (G : Prop) : Prop := LCtx v.w v.mean v.mg v.mb v.dp v.un v.gd v.base v.g → Fr v.g v.L v.s.heap v.m → News v.g v.L v.s.heap [(v.Da, listOf [.ref v.Y0, .ref v.Y1, .ref v.Y2].toArray v.za), (v.Y0, listOf (bl (rowD v.av (needE v.av v.bv))) v.y0), (v.Y1, listOf (bl (rowD v.bb (needE v.bb v.bv))) v.y1), (v.Y2, listOf (bl (rowD v.pv (needE v.pv v.bv))) v.y2), (v.Dp, listOf [.int v.av v.u0, .int v.bb v.u1, .int v.pv v.u2, .int v.bv v.u3].toArray v.zp), (v.Dc, listOf [.int v.c0 v.t0, .int v.c1 v.t1, .int v.c2 v.t2, .int v.c3 v.t3].toArray v.zc), (v.L + 1 + 1 + 1 + 1 + 1 + 1 + 1 + 1 + 1 + 1 + 1 + 1, v.oSeen), (v.L + 1 + 1 + 1 + 1 + 1 + 1 + 1 + 1 + 1 + 1 + 1, v.oSome), (v.L + 1 + 1 + 1 + 1 + 1 + 1 + 1 + 1 + 1 + 1, v.oEven), (v.L + 1 + 1 + 1 + 1 + 1 + 1 + 1 + 1 + 1, v.oTotal), (v.L + 1 + 1 + 1 + 1 + 1 + 1 + 1 + 1, v.oDues), (v.L + 1 + 1 + 1 + 1 + 1 + 1 + 1, v.oNeeds), (v.L + 1 + 1 + 1 + 1 + 1 + 1, v.oAnswers), (v.L + 1 + 1 + 1 + 1 + 1, v.oTold), (v.L + 1 + 1 + 1 + 1, v.oPorts), (v.L + 1 + 1 + 1, v.oMark), (v.L + 1 + 1, v.oTurn), (v.L + 1, v.oBase)] →
  (v.m (Str.ofString "cells") = some (.ref v.Dc)) → (v.m (Str.ofString "code") = some (.int (v.c : Int) v.tC)) → (v.m (Str.ofString "tail") = some (.str v.tl v.tTl)) → (v.m (Str.ofString "a") = some (.int v.av v.tA)) → (v.oBase.data = .cell (some (.int v.bv v.tB))) → (v.oTurn.data = .cell (some (.int v.tv v.tT))) → (v.oMark.data = .cell (some (.str ⟨#[v.c]⟩ v.tM))) → (v.oPorts.data = .cell (some (.ref v.Dp))) → (v.oTold.data = .cell (some (.ref v.Dt))) → (v.oAnswers.data = .cell (some (.ref v.Da))) → (v.oNeeds.data = .cell none) → (v.oDues.data = .cell none) → (v.oTotal.data = .cell none) → (v.oEven.data = .cell none) → (v.oSome.data = .cell none) → (v.oSeen.data = .cell none) → (-2^40 < v.c0) → (-2^40 < v.c1) → (-2^40 < v.c2) → (-2^40 < v.c3) → (v.c0 < 2^40) → (v.c1 < 2^40) → (v.c2 < 2^40) → (v.c3 < 2^40) → (v.bv % 8 = 5) → (-252 < v.bv) → (v.bv < 254) → (64 ≤ v.c) → (v.c ≤ 1114111) → (v.c ≠ 34) → (v.c ≠ 120) → (rd (v.c :: v.tl.cps.toList) = [v.c]) → (v.tl.length ≤ 14) → (v.av % 2 = 1) → (-4096 < v.av) → (v.av < 4096) → (v.bb % 2 = 1) → (-4096 < v.bb) → (v.bb < 4096) → (v.pv = v.av * v.bb) → (v.pv % 2 = 1) → (-(2^24) < v.pv) → (v.pv < 2^24) → (∀ (h' : Heap) (tk' : Nat) (m' : Str → Option Value), Fr v.g v.L h' m' → v.Q (.ret (.bool true)) { (v.s) with heap := h', toks := tk' }) → G
def II13 : Prop := ∀ v : LV, CC13 v (Go v.w v.dp v.un v.gd v.L 13 v.Q v.E v.s)
def CC14 (v : LV) (G : Prop) : Prop := LCtx v.w v.mean v.mg v.mb v.dp v.un v.gd v.base v.g → Fr v.g v.L v.s.heap v.m → News v.g v.L v.s.heap [(v.Dn, listOf [.int (needE v.av v.bv : Int) v.n0, .int (needE v.bb v.bv : Int) v.n1, .int (needE v.pv v.bv : Int) v.n2].toArray v.zn), (v.Da, listOf [.ref v.Y0, .ref v.Y1, .ref v.Y2].toArray v.za), (v.Y0, listOf (bl (rowD v.av (needE v.av v.bv))) v.y0), (v.Y1, listOf (bl (rowD v.bb (needE v.bb v.bv))) v.y1), (v.Y2, listOf (bl (rowD v.pv (needE v.pv v.bv))) v.y2), (v.Dp, listOf [.int v.av v.u0, .int v.bb v.u1, .int v.pv v.u2, .int v.bv v.u3].toArray v.zp), (v.Dc, listOf [.int v.c0 v.t0, .int v.c1 v.t1, .int v.c2 v.t2, .int v.c3 v.t3].toArray v.zc), (v.L + 1 + 1 + 1 + 1 + 1 + 1 + 1 + 1 + 1 + 1 + 1 + 1, v.oSeen), (v.L + 1 + 1 + 1 + 1 + 1 + 1 + 1 + 1 + 1 + 1 + 1, v.oSome), (v.L + 1 + 1 + 1 + 1 + 1 + 1 + 1 + 1 + 1 + 1, v.oEven), (v.L + 1 + 1 + 1 + 1 + 1 + 1 + 1 + 1 + 1, v.oTotal), (v.L + 1 + 1 + 1 + 1 + 1 + 1 + 1 + 1, v.oDues), (v.L + 1 + 1 + 1 + 1 + 1 + 1 + 1, v.oNeeds), (v.L + 1 + 1 + 1 + 1 + 1 + 1, v.oAnswers), (v.L + 1 + 1 + 1 + 1 + 1, v.oTold), (v.L + 1 + 1 + 1 + 1, v.oPorts), (v.L + 1 + 1 + 1, v.oMark), (v.L + 1 + 1, v.oTurn), (v.L + 1, v.oBase)] →
  (v.m (Str.ofString "cells") = some (.ref v.Dc)) → (v.m (Str.ofString "code") = some (.int (v.c : Int) v.tC)) → (v.m (Str.ofString "tail") = some (.str v.tl v.tTl)) → (v.m (Str.ofString "a") = some (.int v.av v.tA)) → (v.oBase.data = .cell (some (.int v.bv v.tB))) → (v.oTurn.data = .cell (some (.int v.tv v.tT))) → (v.oMark.data = .cell (some (.str ⟨#[v.c]⟩ v.tM))) → (v.oPorts.data = .cell (some (.ref v.Dp))) → (v.oTold.data = .cell (some (.ref v.Dt))) → (v.oAnswers.data = .cell (some (.ref v.Da))) → (v.oNeeds.data = .cell (some (.ref v.Dn))) → (v.oDues.data = .cell none) → (v.oTotal.data = .cell none) → (v.oEven.data = .cell none) → (v.oSome.data = .cell none) → (v.oSeen.data = .cell none) → (-2^40 < v.c0) → (-2^40 < v.c1) → (-2^40 < v.c2) → (-2^40 < v.c3) → (v.c0 < 2^40) → (v.c1 < 2^40) → (v.c2 < 2^40) → (v.c3 < 2^40) → (v.bv % 8 = 5) → (-252 < v.bv) → (v.bv < 254) → (64 ≤ v.c) → (v.c ≤ 1114111) → (v.c ≠ 34) → (v.c ≠ 120) → (rd (v.c :: v.tl.cps.toList) = [v.c]) → (v.tl.length ≤ 14) → (v.av % 2 = 1) → (-4096 < v.av) → (v.av < 4096) → (v.bb % 2 = 1) → (-4096 < v.bb) → (v.bb < 4096) → (v.pv = v.av * v.bb) → (v.pv % 2 = 1) → (-(2^24) < v.pv) → (v.pv < 2^24) → (∀ (h' : Heap) (tk' : Nat) (m' : Str → Option Value), Fr v.g v.L h' m' → v.Q (.ret (.bool true)) { (v.s) with heap := h', toks := tk' }) → G
def II14 : Prop := ∀ v : LV, CC14 v (Go v.w v.dp v.un v.gd v.L 14 v.Q v.E v.s)
def CC15 (v : LV) (G : Prop) : Prop := LCtx v.w v.mean v.mg v.mb v.dp v.un v.gd v.base v.g → Fr v.g v.L v.s.heap v.m → News v.g v.L v.s.heap [(v.Dd, listOf [.ref v.Z0, .ref v.Z1, .ref v.Z2].toArray v.zd), (v.Z0, listOf (bl (rowD v.av (needE v.av v.bv))) v.z0), (v.Z1, listOf (bl (rowD v.bb (needE v.bb v.bv))) v.z1), (v.Z2, listOf (bl (rowD v.pv (needE v.pv v.bv))) v.z2), (v.Dn, listOf [.int (needE v.av v.bv : Int) v.n0, .int (needE v.bb v.bv : Int) v.n1, .int (needE v.pv v.bv : Int) v.n2].toArray v.zn), (v.Da, listOf [.ref v.Y0, .ref v.Y1, .ref v.Y2].toArray v.za), (v.Y0, listOf (bl (rowD v.av (needE v.av v.bv))) v.y0), (v.Y1, listOf (bl (rowD v.bb (needE v.bb v.bv))) v.y1), (v.Y2, listOf (bl (rowD v.pv (needE v.pv v.bv))) v.y2), (v.Dc, listOf [.int v.c0 v.t0, .int v.c1 v.t1, .int v.c2 v.t2, .int v.c3 v.t3].toArray v.zc), (v.L + 1 + 1 + 1 + 1 + 1 + 1 + 1 + 1 + 1 + 1 + 1 + 1, v.oSeen), (v.L + 1 + 1 + 1 + 1 + 1 + 1 + 1 + 1 + 1 + 1 + 1, v.oSome), (v.L + 1 + 1 + 1 + 1 + 1 + 1 + 1 + 1 + 1 + 1, v.oEven), (v.L + 1 + 1 + 1 + 1 + 1 + 1 + 1 + 1 + 1, v.oTotal), (v.L + 1 + 1 + 1 + 1 + 1 + 1 + 1 + 1, v.oDues), (v.L + 1 + 1 + 1 + 1 + 1 + 1 + 1, v.oNeeds), (v.L + 1 + 1 + 1 + 1 + 1 + 1, v.oAnswers), (v.L + 1 + 1 + 1 + 1 + 1, v.oTold), (v.L + 1 + 1 + 1 + 1, v.oPorts), (v.L + 1 + 1 + 1, v.oMark), (v.L + 1 + 1, v.oTurn), (v.L + 1, v.oBase)] →
  (v.m (Str.ofString "cells") = some (.ref v.Dc)) → (v.m (Str.ofString "code") = some (.int (v.c : Int) v.tC)) → (v.m (Str.ofString "tail") = some (.str v.tl v.tTl)) → (v.m (Str.ofString "a") = some (.int v.av v.tA)) → (v.oBase.data = .cell (some (.int v.bv v.tB))) → (v.oTurn.data = .cell (some (.int v.tv v.tT))) → (v.oMark.data = .cell (some (.str ⟨#[v.c]⟩ v.tM))) → (v.oPorts.data = .cell (some (.ref v.Dp))) → (v.oTold.data = .cell (some (.ref v.Dt))) → (v.oAnswers.data = .cell (some (.ref v.Da))) → (v.oNeeds.data = .cell (some (.ref v.Dn))) → (v.oDues.data = .cell (some (.ref v.Dd))) → (v.oTotal.data = .cell none) → (v.oEven.data = .cell none) → (v.oSome.data = .cell none) → (v.oSeen.data = .cell none) → (-2^40 < v.c0) → (-2^40 < v.c1) → (-2^40 < v.c2) → (-2^40 < v.c3) → (v.c0 < 2^40) → (v.c1 < 2^40) → (v.c2 < 2^40) → (v.c3 < 2^40) → (v.bv % 8 = 5) → (-252 < v.bv) → (v.bv < 254) → (64 ≤ v.c) → (v.c ≤ 1114111) → (v.c ≠ 34) → (v.c ≠ 120) → (rd (v.c :: v.tl.cps.toList) = [v.c]) → (v.tl.length ≤ 14) → (v.av % 2 = 1) → (-4096 < v.av) → (v.av < 4096) → (v.bb % 2 = 1) → (-4096 < v.bb) → (v.bb < 4096) → (v.pv = v.av * v.bb) → (v.pv % 2 = 1) → (-(2^24) < v.pv) → (v.pv < 2^24) → (∀ x ∈ ([v.Z0, v.Z1, v.Z2, v.Dn, v.Da, v.Y0, v.Y1, v.Y2, v.Dp, v.Dc, v.L + 1 + 1 + 1 + 1 + 1 + 1 + 1 + 1 + 1 + 1 + 1 + 1, v.L + 1 + 1 + 1 + 1 + 1 + 1 + 1 + 1 + 1 + 1 + 1, v.L + 1 + 1 + 1 + 1 + 1 + 1 + 1 + 1 + 1 + 1, v.L + 1 + 1 + 1 + 1 + 1 + 1 + 1 + 1 + 1, v.L + 1 + 1 + 1 + 1 + 1 + 1 + 1 + 1, v.L + 1 + 1 + 1 + 1 + 1 + 1 + 1, v.L + 1 + 1 + 1 + 1 + 1 + 1, v.L + 1 + 1 + 1 + 1 + 1, v.L + 1 + 1 + 1 + 1, v.L + 1 + 1 + 1, v.L + 1 + 1, v.L + 1] : List Addr), x ≠ v.Dd) → (∀ (h' : Heap) (tk' : Nat) (m' : Str → Option Value), Fr v.g v.L h' m' → v.Q (.ret (.bool true)) { (v.s) with heap := h', toks := tk' }) → G
def II15 : Prop := ∀ v : LV, CC15 v (Go v.w v.dp v.un v.gd v.L 15 v.Q v.E v.s)
def CC16 (v : LV) (G : Prop) : Prop := LCtx v.w v.mean v.mg v.mb v.dp v.un v.gd v.base v.g → Fr v.g v.L v.s.heap v.m → News v.g v.L v.s.heap [(v.Dd, listOf [.ref v.Z0, .ref v.Z1, .ref v.Z2].toArray v.zd), (v.Z0, listOf (bl (rowD v.av (needE v.av v.bv))) v.z0), (v.Z1, listOf (bl (rowD v.bb (needE v.bb v.bv))) v.z1), (v.Z2, listOf (bl (rowD v.pv (needE v.pv v.bv))) v.z2), (v.Dn, listOf [.int (needE v.av v.bv : Int) v.n0, .int (needE v.bb v.bv : Int) v.n1, .int (needE v.pv v.bv : Int) v.n2].toArray v.zn), (v.Da, listOf [.ref v.Y0, .ref v.Y1, .ref v.Y2].toArray v.za), (v.Y0, listOf (bl (rowD v.av (needE v.av v.bv))) v.y0), (v.Y1, listOf (bl (rowD v.bb (needE v.bb v.bv))) v.y1), (v.Y2, listOf (bl (rowD v.pv (needE v.pv v.bv))) v.y2), (v.Dc, listOf [.int v.c0 v.t0, .int v.c1 v.t1, .int v.c2 v.t2, .int v.c3 v.t3].toArray v.zc), (v.L + 1 + 1 + 1 + 1 + 1 + 1 + 1 + 1 + 1 + 1 + 1 + 1, v.oSeen), (v.L + 1 + 1 + 1 + 1 + 1 + 1 + 1 + 1 + 1 + 1 + 1, v.oSome), (v.L + 1 + 1 + 1 + 1 + 1 + 1 + 1 + 1 + 1 + 1, v.oEven), (v.L + 1 + 1 + 1 + 1 + 1 + 1 + 1 + 1 + 1, v.oTotal), (v.L + 1 + 1 + 1 + 1 + 1 + 1 + 1 + 1, v.oDues), (v.L + 1 + 1 + 1 + 1 + 1 + 1 + 1, v.oNeeds), (v.L + 1 + 1 + 1 + 1 + 1 + 1, v.oAnswers), (v.L + 1 + 1 + 1 + 1 + 1, v.oTold), (v.L + 1 + 1 + 1 + 1, v.oPorts), (v.L + 1 + 1 + 1, v.oMark), (v.L + 1 + 1, v.oTurn), (v.L + 1, v.oBase)] →
  (v.m (Str.ofString "cells") = some (.ref v.Dc)) → (v.m (Str.ofString "code") = some (.int (v.c : Int) v.tC)) → (v.m (Str.ofString "tail") = some (.str v.tl v.tTl)) → (v.m (Str.ofString "a") = some (.int v.av v.tA)) → (v.oBase.data = .cell (some (.int v.bv v.tB))) → (v.oTurn.data = .cell (some (.int v.tv v.tT))) → (v.oMark.data = .cell (some (.str ⟨#[v.c]⟩ v.tM))) → (v.oPorts.data = .cell (some (.ref v.Dp))) → (v.oTold.data = .cell (some (.ref v.Dt))) → (v.oAnswers.data = .cell (some (.ref v.Da))) → (v.oNeeds.data = .cell (some (.ref v.Dn))) → (v.oDues.data = .cell (some (.ref v.Dd))) → (v.oTotal.data = .cell none) → (v.oEven.data = .cell none) → (v.oSome.data = .cell none) → (v.oSeen.data = .cell none) → (-2^40 < v.c0) → (-2^40 < v.c1) → (-2^40 < v.c2) → (-2^40 < v.c3) → (v.c0 < 2^40) → (v.c1 < 2^40) → (v.c2 < 2^40) → (v.c3 < 2^40) → (v.bv % 8 = 5) → (-252 < v.bv) → (v.bv < 254) → (64 ≤ v.c) → (v.c ≤ 1114111) → (v.c ≠ 34) → (v.c ≠ 120) → (rd (v.c :: v.tl.cps.toList) = [v.c]) → (v.tl.length ≤ 14) → (v.av % 2 = 1) → (-4096 < v.av) → (v.av < 4096) → (v.bb % 2 = 1) → (-4096 < v.bb) → (v.bb < 4096) → (v.pv = v.av * v.bb) → (v.pv % 2 = 1) → (-(2^24) < v.pv) → (v.pv < 2^24) → (∀ x ∈ ([v.Z0, v.Z1, v.Z2, v.Dn, v.Da, v.Y0, v.Y1, v.Y2, v.Dp, v.Dc, v.L + 1 + 1 + 1 + 1 + 1 + 1 + 1 + 1 + 1 + 1 + 1 + 1, v.L + 1 + 1 + 1 + 1 + 1 + 1 + 1 + 1 + 1 + 1 + 1, v.L + 1 + 1 + 1 + 1 + 1 + 1 + 1 + 1 + 1 + 1, v.L + 1 + 1 + 1 + 1 + 1 + 1 + 1 + 1 + 1, v.L + 1 + 1 + 1 + 1 + 1 + 1 + 1 + 1, v.L + 1 + 1 + 1 + 1 + 1 + 1 + 1, v.L + 1 + 1 + 1 + 1 + 1 + 1, v.L + 1 + 1 + 1 + 1 + 1, v.L + 1 + 1 + 1 + 1, v.L + 1 + 1 + 1, v.L + 1 + 1, v.L + 1] : List Addr), x ≠ v.Dd) → (∀ (h' : Heap) (tk' : Nat) (m' : Str → Option Value), Fr v.g v.L h' m' → v.Q (.ret (.bool true)) { (v.s) with heap := h', toks := tk' }) → G
def II16 : Prop := ∀ v : LV, CC16 v (Go v.w v.dp v.un v.gd v.L 16 v.Q v.E v.s)
def CC17 (v : LV) (G : Prop) : Prop := LCtx v.w v.mean v.mg v.mb v.dp v.un v.gd v.base v.g → Fr v.g v.L v.s.heap v.m → News v.g v.L v.s.heap [(v.Dd, listOf [.ref v.Z0, .ref v.Z1, .ref v.Z2].toArray v.zd), (v.Z0, listOf (bl (rowD v.av (needE v.av v.bv))) v.z0), (v.Z1, listOf (bl (rowD v.bb (needE v.bb v.bv))) v.z1), (v.Z2, listOf (bl (rowD v.pv (needE v.pv v.bv))) v.z2), (v.Dn, listOf [.int (needE v.av v.bv : Int) v.n0, .int (needE v.bb v.bv : Int) v.n1, .int (needE v.pv v.bv : Int) v.n2].toArray v.zn), (v.Da, listOf [.ref v.Y0, .ref v.Y1, .ref v.Y2].toArray v.za), (v.Y0, listOf (bl (rowD v.av (needE v.av v.bv))) v.y0), (v.Y1, listOf (bl (rowD v.bb (needE v.bb v.bv))) v.y1), (v.Y2, listOf (bl (rowD v.pv (needE v.pv v.bv))) v.y2), (v.Dc, listOf [.int v.c0 v.t0, .int v.c1 v.t1, .int v.c2 v.t2, .int v.c3 v.t3].toArray v.zc), (v.L + 1 + 1 + 1 + 1 + 1 + 1 + 1 + 1 + 1 + 1 + 1 + 1, v.oSeen), (v.L + 1 + 1 + 1 + 1 + 1 + 1 + 1 + 1 + 1 + 1 + 1, v.oSome), (v.L + 1 + 1 + 1 + 1 + 1 + 1 + 1 + 1 + 1 + 1, v.oEven), (v.L + 1 + 1 + 1 + 1 + 1 + 1 + 1 + 1 + 1, v.oTotal), (v.L + 1 + 1 + 1 + 1 + 1 + 1 + 1 + 1, v.oDues), (v.L + 1 + 1 + 1 + 1 + 1 + 1 + 1, v.oNeeds), (v.L + 1 + 1 + 1 + 1 + 1 + 1, v.oAnswers), (v.L + 1 + 1 + 1 + 1 + 1, v.oTold), (v.L + 1 + 1 + 1 + 1, v.oPorts), (v.L + 1 + 1 + 1, v.oMark), (v.L + 1 + 1, v.oTurn), (v.L + 1, v.oBase)] →
  (v.m (Str.ofString "cells") = some (.ref v.Dc)) → (v.m (Str.ofString "code") = some (.int (v.c : Int) v.tC)) → (v.m (Str.ofString "tail") = some (.str v.tl v.tTl)) → (v.m (Str.ofString "a") = some (.int v.av v.tA)) → (v.oBase.data = .cell (some (.int v.bv v.tB))) → (v.oTurn.data = .cell (some (.int v.tv v.tT))) → (v.oMark.data = .cell (some (.str ⟨#[v.c]⟩ v.tM))) → (v.oPorts.data = .cell (some (.ref v.Dp))) → (v.oTold.data = .cell (some (.ref v.Dt))) → (v.oAnswers.data = .cell (some (.ref v.Da))) → (v.oNeeds.data = .cell (some (.ref v.Dn))) → (v.oDues.data = .cell (some (.ref v.Dd))) → (v.oTotal.data = .cell none) → (v.oEven.data = .cell none) → (v.oSome.data = .cell none) → (v.oSeen.data = .cell none) → (-2^40 < v.c0) → (-2^40 < v.c1) → (-2^40 < v.c2) → (-2^40 < v.c3) → (v.c0 < 2^40) → (v.c1 < 2^40) → (v.c2 < 2^40) → (v.c3 < 2^40) → (v.bv % 8 = 5) → (-252 < v.bv) → (v.bv < 254) → (64 ≤ v.c) → (v.c ≤ 1114111) → (v.c ≠ 34) → (v.c ≠ 120) → (rd (v.c :: v.tl.cps.toList) = [v.c]) → (v.tl.length ≤ 14) → (v.av % 2 = 1) → (-4096 < v.av) → (v.av < 4096) → (v.bb % 2 = 1) → (-4096 < v.bb) → (v.bb < 4096) → (v.pv = v.av * v.bb) → (v.pv % 2 = 1) → (-(2^24) < v.pv) → (v.pv < 2^24) → (∀ x ∈ ([v.Z0, v.Z1, v.Z2, v.Dn, v.Da, v.Y0, v.Y1, v.Y2, v.Dp, v.Dc, v.L + 1 + 1 + 1 + 1 + 1 + 1 + 1 + 1 + 1 + 1 + 1 + 1, v.L + 1 + 1 + 1 + 1 + 1 + 1 + 1 + 1 + 1 + 1 + 1, v.L + 1 + 1 + 1 + 1 + 1 + 1 + 1 + 1 + 1 + 1, v.L + 1 + 1 + 1 + 1 + 1 + 1 + 1 + 1 + 1, v.L + 1 + 1 + 1 + 1 + 1 + 1 + 1 + 1, v.L + 1 + 1 + 1 + 1 + 1 + 1 + 1, v.L + 1 + 1 + 1 + 1 + 1 + 1, v.L + 1 + 1 + 1 + 1 + 1, v.L + 1 + 1 + 1 + 1, v.L + 1 + 1 + 1, v.L + 1 + 1, v.L + 1] : List Addr), x ≠ v.Dd) → (∀ (h' : Heap) (tk' : Nat) (m' : Str → Option Value), Fr v.g v.L h' m' → v.Q (.ret (.bool true)) { (v.s) with heap := h', toks := tk' }) → G
def II17 : Prop := ∀ v : LV, CC17 v (Go v.w v.dp v.un v.gd v.L 17 v.Q v.E v.s)
def CC18 (v : LV) (G : Prop) : Prop := LCtx v.w v.mean v.mg v.mb v.dp v.un v.gd v.base v.g → Fr v.g v.L v.s.heap v.m → News v.g v.L v.s.heap [(v.Dd, listOf [.ref v.Z0, .ref v.Z1, .ref v.Z2, .ref v.Dn].toArray v.zf), (v.Z0, listOf (bl (rowD v.av (needE v.av v.bv))) v.z0), (v.Z1, listOf (bl (rowD v.bb (needE v.bb v.bv))) v.z1), (v.Z2, listOf (bl (rowD v.pv (needE v.pv v.bv))) v.z2), (v.Dn, listOf [.int (needE v.av v.bv : Int) v.n0, .int (needE v.bb v.bv : Int) v.n1, .int (needE v.pv v.bv : Int) v.n2].toArray v.zn), (v.Da, listOf [.ref v.Y0, .ref v.Y1, .ref v.Y2].toArray v.za), (v.Y0, listOf (bl (rowD v.av (needE v.av v.bv))) v.y0), (v.Y1, listOf (bl (rowD v.bb (needE v.bb v.bv))) v.y1), (v.Y2, listOf (bl (rowD v.pv (needE v.pv v.bv))) v.y2), (v.Dc, listOf [.int v.c0 v.t0, .int v.c1 v.t1, .int v.c2 v.t2, .int v.c3 v.t3].toArray v.zc), (v.L + 1 + 1 + 1 + 1 + 1 + 1 + 1 + 1 + 1 + 1 + 1 + 1, v.oSeen), (v.L + 1 + 1 + 1 + 1 + 1 + 1 + 1 + 1 + 1 + 1 + 1, v.oSome), (v.L + 1 + 1 + 1 + 1 + 1 + 1 + 1 + 1 + 1 + 1, v.oEven), (v.L + 1 + 1 + 1 + 1 + 1 + 1 + 1 + 1 + 1, v.oTotal), (v.L + 1 + 1 + 1 + 1 + 1 + 1 + 1 + 1, v.oDues), (v.L + 1 + 1 + 1 + 1 + 1 + 1 + 1, v.oNeeds), (v.L + 1 + 1 + 1 + 1 + 1 + 1, v.oAnswers), (v.L + 1 + 1 + 1 + 1 + 1, v.oTold), (v.L + 1 + 1 + 1 + 1, v.oPorts), (v.L + 1 + 1 + 1, v.oMark), (v.L + 1 + 1, v.oTurn), (v.L + 1, v.oBase)] →
  (v.m (Str.ofString "cells") = some (.ref v.Dc)) → (v.m (Str.ofString "code") = some (.int (v.c : Int) v.tC)) → (v.m (Str.ofString "tail") = some (.str v.tl v.tTl)) → (v.m (Str.ofString "a") = some (.int v.av v.tA)) → (v.oBase.data = .cell (some (.int v.bv v.tB))) → (v.oTurn.data = .cell (some (.int v.tv v.tT))) → (v.oMark.data = .cell (some (.str ⟨#[v.c]⟩ v.tM))) → (v.oPorts.data = .cell (some (.ref v.Dp))) → (v.oTold.data = .cell (some (.ref v.Dt))) → (v.oAnswers.data = .cell (some (.ref v.Da))) → (v.oNeeds.data = .cell (some (.ref v.Dn))) → (v.oDues.data = .cell (some (.ref v.Dd))) → (v.oTotal.data = .cell none) → (v.oEven.data = .cell none) → (v.oSome.data = .cell none) → (v.oSeen.data = .cell none) → (-2^40 < v.c0) → (-2^40 < v.c1) → (-2^40 < v.c2) → (-2^40 < v.c3) → (v.c0 < 2^40) → (v.c1 < 2^40) → (v.c2 < 2^40) → (v.c3 < 2^40) → (v.bv % 8 = 5) → (-252 < v.bv) → (v.bv < 254) → (64 ≤ v.c) → (v.c ≤ 1114111) → (v.c ≠ 34) → (v.c ≠ 120) → (rd (v.c :: v.tl.cps.toList) = [v.c]) → (v.tl.length ≤ 14) → (v.av % 2 = 1) → (-4096 < v.av) → (v.av < 4096) → (v.bb % 2 = 1) → (-4096 < v.bb) → (v.bb < 4096) → (v.pv = v.av * v.bb) → (v.pv % 2 = 1) → (-(2^24) < v.pv) → (v.pv < 2^24) → (∀ (h' : Heap) (tk' : Nat) (m' : Str → Option Value), Fr v.g v.L h' m' → v.Q (.ret (.bool true)) { (v.s) with heap := h', toks := tk' }) → G
def II18 : Prop := ∀ v : LV, CC18 v (Go v.w v.dp v.un v.gd v.L 18 v.Q v.E v.s)
def CC19 (v : LV) (G : Prop) : Prop := LCtx v.w v.mean v.mg v.mb v.dp v.un v.gd v.base v.g → Fr v.g v.L v.s.heap v.m → News v.g v.L v.s.heap [(v.Dd, listOf [.ref v.Z0, .ref v.Z1, .ref v.Z2, .ref v.Dn].toArray v.zf), (v.Z0, listOf (bl (rowD v.av (needE v.av v.bv))) v.z0), (v.Z1, listOf (bl (rowD v.bb (needE v.bb v.bv))) v.z1), (v.Z2, listOf (bl (rowD v.pv (needE v.pv v.bv))) v.z2), (v.Da, listOf [.ref v.Y0, .ref v.Y1, .ref v.Y2].toArray v.za), (v.Y0, listOf (bl (rowD v.av (needE v.av v.bv))) v.y0), (v.Y1, listOf (bl (rowD v.bb (needE v.bb v.bv))) v.y1), (v.Y2, listOf (bl (rowD v.pv (needE v.pv v.bv))) v.y2), (v.Dc, listOf [.int v.c0 v.t0, .int v.c1 v.t1, .int v.c2 v.t2, .int v.c3 v.t3].toArray v.zc), (v.L + 1 + 1 + 1 + 1 + 1 + 1 + 1 + 1 + 1 + 1 + 1 + 1, v.oSeen), (v.L + 1 + 1 + 1 + 1 + 1 + 1 + 1 + 1 + 1 + 1 + 1, v.oSome), (v.L + 1 + 1 + 1 + 1 + 1 + 1 + 1 + 1 + 1 + 1, v.oEven), (v.L + 1 + 1 + 1 + 1 + 1 + 1 + 1 + 1 + 1, v.oTotal), (v.L + 1 + 1 + 1 + 1 + 1 + 1 + 1 + 1, v.oDues), (v.L + 1 + 1 + 1 + 1 + 1 + 1 + 1, v.oNeeds), (v.L + 1 + 1 + 1 + 1 + 1 + 1, v.oAnswers), (v.L + 1 + 1 + 1 + 1 + 1, v.oTold), (v.L + 1 + 1 + 1 + 1, v.oPorts), (v.L + 1 + 1 + 1, v.oMark), (v.L + 1 + 1, v.oTurn), (v.L + 1, v.oBase)] →
  (v.m (Str.ofString "cells") = some (.ref v.Dc)) → (v.m (Str.ofString "code") = some (.int (v.c : Int) v.tC)) → (v.m (Str.ofString "tail") = some (.str v.tl v.tTl)) → (v.m (Str.ofString "a") = some (.int v.av v.tA)) → (v.oBase.data = .cell (some (.int v.bv v.tB))) → (v.oTurn.data = .cell (some (.int v.tv v.tT))) → (v.oMark.data = .cell (some (.str ⟨#[v.c]⟩ v.tM))) → (v.oPorts.data = .cell (some (.ref v.Dp))) → (v.oTold.data = .cell (some (.ref v.Dt))) → (v.oAnswers.data = .cell (some (.ref v.Da))) → (v.oNeeds.data = .cell (some (.ref v.Dn))) → (v.oDues.data = .cell (some (.ref v.Dd))) → (v.oTotal.data = .cell (some (.int (((needE v.av v.bv) : Int) + ((needE v.bb v.bv) : Int)) v.tS))) → (v.oEven.data = .cell none) → (v.oSome.data = .cell none) → (v.oSeen.data = .cell none) → (-2^40 < v.c0) → (-2^40 < v.c1) → (-2^40 < v.c2) → (-2^40 < v.c3) → (v.c0 < 2^40) → (v.c1 < 2^40) → (v.c2 < 2^40) → (v.c3 < 2^40) → (v.bv % 8 = 5) → (-252 < v.bv) → (v.bv < 254) → (64 ≤ v.c) → (v.c ≤ 1114111) → (v.c ≠ 34) → (v.c ≠ 120) → (rd (v.c :: v.tl.cps.toList) = [v.c]) → (v.tl.length ≤ 14) → (v.av % 2 = 1) → (-4096 < v.av) → (v.av < 4096) → (v.bb % 2 = 1) → (-4096 < v.bb) → (v.bb < 4096) → (v.pv = v.av * v.bb) → (v.pv % 2 = 1) → (-(2^24) < v.pv) → (v.pv < 2^24) → (∀ (h' : Heap) (tk' : Nat) (m' : Str → Option Value), Fr v.g v.L h' m' → v.Q (.ret (.bool true)) { (v.s) with heap := h', toks := tk' }) → G
def II19 : Prop := ∀ v : LV, CC19 v (Go v.w v.dp v.un v.gd v.L 19 v.Q v.E v.s)
def CC20 (v : LV) (G : Prop) : Prop := LCtx v.w v.mean v.mg v.mb v.dp v.un v.gd v.base v.g → Fr v.g v.L v.s.heap v.m → News v.g v.L v.s.heap [(v.De, listOf (bl (evenL v.pv (needE v.pv v.bv) (needE v.av v.bv) (needE v.bb v.bv))) v.zv), (v.Da, listOf [.ref v.Y0, .ref v.Y1, .ref v.Y2].toArray v.za), (v.Y0, listOf (bl (rowD v.av (needE v.av v.bv))) v.y0), (v.Y1, listOf (bl (rowD v.bb (needE v.bb v.bv))) v.y1), (v.Y2, listOf (bl (rowD v.pv (needE v.pv v.bv))) v.y2), (v.Dc, listOf [.int v.c0 v.t0, .int v.c1 v.t1, .int v.c2 v.t2, .int v.c3 v.t3].toArray v.zc), (v.L + 1 + 1 + 1 + 1 + 1 + 1 + 1 + 1 + 1 + 1 + 1 + 1, v.oSeen), (v.L + 1 + 1 + 1 + 1 + 1 + 1 + 1 + 1 + 1 + 1 + 1, v.oSome), (v.L + 1 + 1 + 1 + 1 + 1 + 1 + 1 + 1 + 1 + 1, v.oEven), (v.L + 1 + 1 + 1 + 1 + 1 + 1 + 1 + 1 + 1, v.oTotal), (v.L + 1 + 1 + 1 + 1 + 1 + 1 + 1 + 1, v.oDues), (v.L + 1 + 1 + 1 + 1 + 1 + 1 + 1, v.oNeeds), (v.L + 1 + 1 + 1 + 1 + 1 + 1, v.oAnswers), (v.L + 1 + 1 + 1 + 1 + 1, v.oTold), (v.L + 1 + 1 + 1 + 1, v.oPorts), (v.L + 1 + 1 + 1, v.oMark), (v.L + 1 + 1, v.oTurn), (v.L + 1, v.oBase)] →
  (v.m (Str.ofString "cells") = some (.ref v.Dc)) → (v.m (Str.ofString "code") = some (.int (v.c : Int) v.tC)) → (v.m (Str.ofString "tail") = some (.str v.tl v.tTl)) → (v.m (Str.ofString "a") = some (.int v.av v.tA)) → (v.oBase.data = .cell (some (.int v.bv v.tB))) → (v.oTurn.data = .cell (some (.int v.tv v.tT))) → (v.oMark.data = .cell (some (.str ⟨#[v.c]⟩ v.tM))) → (v.oPorts.data = .cell (some (.ref v.Dp))) → (v.oTold.data = .cell (some (.ref v.Dt))) → (v.oAnswers.data = .cell (some (.ref v.Da))) → (v.oNeeds.data = .cell (some (.ref v.Dn))) → (v.oDues.data = .cell (some (.ref v.Dd))) → (v.oTotal.data = .cell (some (.int (((needE v.av v.bv) : Int) + ((needE v.bb v.bv) : Int)) v.tS))) → (v.oEven.data = .cell (some (.ref v.De))) → (v.oSome.data = .cell none) → (v.oSeen.data = .cell none) → (-2^40 < v.c0) → (-2^40 < v.c1) → (-2^40 < v.c2) → (-2^40 < v.c3) → (v.c0 < 2^40) → (v.c1 < 2^40) → (v.c2 < 2^40) → (v.c3 < 2^40) → (v.bv % 8 = 5) → (-252 < v.bv) → (v.bv < 254) → (64 ≤ v.c) → (v.c ≤ 1114111) → (v.c ≠ 34) → (v.c ≠ 120) → (rd (v.c :: v.tl.cps.toList) = [v.c]) → (v.tl.length ≤ 14) → (v.av % 2 = 1) → (-4096 < v.av) → (v.av < 4096) → (v.bb % 2 = 1) → (-4096 < v.bb) → (v.bb < 4096) → (v.pv = v.av * v.bb) → (v.pv % 2 = 1) → (-(2^24) < v.pv) → (v.pv < 2^24) → (∀ (h' : Heap) (tk' : Nat) (m' : Str → Option Value), Fr v.g v.L h' m' → v.Q (.ret (.bool true)) { (v.s) with heap := h', toks := tk' }) → G
def II20 : Prop := ∀ v : LV, CC20 v (Go v.w v.dp v.un v.gd v.L 20 v.Q v.E v.s)
def CC21 (v : LV) (G : Prop) : Prop := LCtx v.w v.mean v.mg v.mb v.dp v.un v.gd v.base v.g → Fr v.g v.L v.s.heap v.m → News v.g v.L v.s.heap [(v.Ds, listOf (bl (someL (needE v.av v.bv) (needE v.bb v.bv))) v.zs), (v.De, listOf (bl (evenL v.pv (needE v.pv v.bv) (needE v.av v.bv) (needE v.bb v.bv))) v.zv), (v.Da, listOf [.ref v.Y0, .ref v.Y1, .ref v.Y2].toArray v.za), (v.Y0, listOf (bl (rowD v.av (needE v.av v.bv))) v.y0), (v.Y1, listOf (bl (rowD v.bb (needE v.bb v.bv))) v.y1), (v.Y2, listOf (bl (rowD v.pv (needE v.pv v.bv))) v.y2), (v.Dc, listOf [.int v.c0 v.t0, .int v.c1 v.t1, .int v.c2 v.t2, .int v.c3 v.t3].toArray v.zc), (v.L + 1 + 1 + 1 + 1 + 1 + 1 + 1 + 1 + 1 + 1 + 1 + 1, v.oSeen), (v.L + 1 + 1 + 1 + 1 + 1 + 1 + 1 + 1 + 1 + 1 + 1, v.oSome), (v.L + 1 + 1 + 1 + 1 + 1 + 1 + 1 + 1 + 1 + 1, v.oEven), (v.L + 1 + 1 + 1 + 1 + 1 + 1 + 1 + 1 + 1, v.oTotal), (v.L + 1 + 1 + 1 + 1 + 1 + 1 + 1 + 1, v.oDues), (v.L + 1 + 1 + 1 + 1 + 1 + 1 + 1, v.oNeeds), (v.L + 1 + 1 + 1 + 1 + 1 + 1, v.oAnswers), (v.L + 1 + 1 + 1 + 1 + 1, v.oTold), (v.L + 1 + 1 + 1 + 1, v.oPorts), (v.L + 1 + 1 + 1, v.oMark), (v.L + 1 + 1, v.oTurn), (v.L + 1, v.oBase)] →
  (v.m (Str.ofString "cells") = some (.ref v.Dc)) → (v.m (Str.ofString "code") = some (.int (v.c : Int) v.tC)) → (v.m (Str.ofString "tail") = some (.str v.tl v.tTl)) → (v.m (Str.ofString "a") = some (.int v.av v.tA)) → (v.oBase.data = .cell (some (.int v.bv v.tB))) → (v.oTurn.data = .cell (some (.int v.tv v.tT))) → (v.oMark.data = .cell (some (.str ⟨#[v.c]⟩ v.tM))) → (v.oPorts.data = .cell (some (.ref v.Dp))) → (v.oTold.data = .cell (some (.ref v.Dt))) → (v.oAnswers.data = .cell (some (.ref v.Da))) → (v.oNeeds.data = .cell (some (.ref v.Dn))) → (v.oDues.data = .cell (some (.ref v.Dd))) → (v.oTotal.data = .cell (some (.int (((needE v.av v.bv) : Int) + ((needE v.bb v.bv) : Int)) v.tS))) → (v.oEven.data = .cell (some (.ref v.De))) → (v.oSome.data = .cell (some (.ref v.Ds))) → (v.oSeen.data = .cell none) → (-2^40 < v.c0) → (-2^40 < v.c1) → (-2^40 < v.c2) → (-2^40 < v.c3) → (v.c0 < 2^40) → (v.c1 < 2^40) → (v.c2 < 2^40) → (v.c3 < 2^40) → (v.bv % 8 = 5) → (-252 < v.bv) → (v.bv < 254) → (64 ≤ v.c) → (v.c ≤ 1114111) → (v.c ≠ 34) → (v.c ≠ 120) → (rd (v.c :: v.tl.cps.toList) = [v.c]) → (v.tl.length ≤ 14) → (v.av % 2 = 1) → (-4096 < v.av) → (v.av < 4096) → (v.bb % 2 = 1) → (-4096 < v.bb) → (v.bb < 4096) → (v.pv = v.av * v.bb) → (v.pv % 2 = 1) → (-(2^24) < v.pv) → (v.pv < 2^24) → (∀ (h' : Heap) (tk' : Nat) (m' : Str → Option Value), Fr v.g v.L h' m' → v.Q (.ret (.bool true)) { (v.s) with heap := h', toks := tk' }) → G
def II21 : Prop := ∀ v : LV, CC21 v (Go v.w v.dp v.un v.gd v.L 21 v.Q v.E v.s)
def CC22 (v : LV) (G : Prop) : Prop := LCtx v.w v.mean v.mg v.mb v.dp v.un v.gd v.base v.g → Fr v.g v.L v.s.heap v.m → News v.g v.L v.s.heap [(v.Dw, listOf [.ref v.W0, .ref v.W1, .ref v.W2, .ref v.W3, .ref v.W4, .ref v.W5, .ref v.W6].toArray v.zw), (v.W0, listOf (bl (rowOf (((needE v.av v.bv) + (needE v.bb v.bv)) / 2 ^ 0))) v.k0), (v.W1, listOf (bl (rowOf (((needE v.av v.bv) + (needE v.bb v.bv)) / 2 ^ 1))) v.k1), (v.W2, listOf (bl (rowOf (((needE v.av v.bv) + (needE v.bb v.bv)) / 2 ^ 2))) v.k2), (v.W3, listOf (bl (rowOf (((needE v.av v.bv) + (needE v.bb v.bv)) / 2 ^ 3))) v.k3), (v.W4, listOf (bl (rowOf (((needE v.av v.bv) + (needE v.bb v.bv)) / 2 ^ 4))) v.k4), (v.W5, listOf (bl (rowOf (((needE v.av v.bv) + (needE v.bb v.bv)) / 2 ^ 5))) v.k5), (v.W6, listOf (bl (rowOf (((needE v.av v.bv) + (needE v.bb v.bv)) / 2 ^ 6))) v.k6), (v.Ds, listOf (bl (someL (needE v.av v.bv) (needE v.bb v.bv))) v.zs), (v.De, listOf (bl (evenL v.pv (needE v.pv v.bv) (needE v.av v.bv) (needE v.bb v.bv))) v.zv), (v.Dc, listOf [.int v.c0 v.t0, .int v.c1 v.t1, .int v.c2 v.t2, .int v.c3 v.t3].toArray v.zc), (v.L + 1 + 1 + 1 + 1 + 1 + 1 + 1 + 1 + 1 + 1 + 1 + 1, v.oSeen), (v.L + 1 + 1 + 1 + 1 + 1 + 1 + 1 + 1 + 1 + 1 + 1, v.oSome), (v.L + 1 + 1 + 1 + 1 + 1 + 1 + 1 + 1 + 1 + 1, v.oEven), (v.L + 1 + 1 + 1 + 1 + 1 + 1 + 1 + 1 + 1, v.oTotal), (v.L + 1 + 1 + 1 + 1 + 1 + 1 + 1 + 1, v.oDues), (v.L + 1 + 1 + 1 + 1 + 1 + 1 + 1, v.oNeeds), (v.L + 1 + 1 + 1 + 1 + 1 + 1, v.oAnswers), (v.L + 1 + 1 + 1 + 1 + 1, v.oTold), (v.L + 1 + 1 + 1 + 1, v.oPorts), (v.L + 1 + 1 + 1, v.oMark), (v.L + 1 + 1, v.oTurn), (v.L + 1, v.oBase)] →
  (v.m (Str.ofString "cells") = some (.ref v.Dc)) → (v.m (Str.ofString "code") = some (.int (v.c : Int) v.tC)) → (v.m (Str.ofString "tail") = some (.str v.tl v.tTl)) → (v.m (Str.ofString "a") = some (.int v.av v.tA)) → (v.oBase.data = .cell (some (.int v.bv v.tB))) → (v.oTurn.data = .cell (some (.int v.tv v.tT))) → (v.oMark.data = .cell (some (.str ⟨#[v.c]⟩ v.tM))) → (v.oPorts.data = .cell (some (.ref v.Dp))) → (v.oTold.data = .cell (some (.ref v.Dt))) → (v.oAnswers.data = .cell (some (.ref v.Da))) → (v.oNeeds.data = .cell (some (.ref v.Dn))) → (v.oDues.data = .cell (some (.ref v.Dd))) → (v.oTotal.data = .cell (some (.int (((needE v.av v.bv) : Int) + ((needE v.bb v.bv) : Int)) v.tS))) → (v.oEven.data = .cell (some (.ref v.De))) → (v.oSome.data = .cell (some (.ref v.Ds))) → (v.oSeen.data = .cell (some (.ref v.Dw))) → (-2^40 < v.c0) → (-2^40 < v.c1) → (-2^40 < v.c2) → (-2^40 < v.c3) → (v.c0 < 2^40) → (v.c1 < 2^40) → (v.c2 < 2^40) → (v.c3 < 2^40) → (v.bv % 8 = 5) → (-252 < v.bv) → (v.bv < 254) → (64 ≤ v.c) → (v.c ≤ 1114111) → (v.c ≠ 34) → (v.c ≠ 120) → (rd (v.c :: v.tl.cps.toList) = [v.c]) → (v.tl.length ≤ 14) → (v.av % 2 = 1) → (-4096 < v.av) → (v.av < 4096) → (v.bb % 2 = 1) → (-4096 < v.bb) → (v.bb < 4096) → (v.pv = v.av * v.bb) → (v.pv % 2 = 1) → (-(2^24) < v.pv) → (v.pv < 2^24) → (∀ (h' : Heap) (tk' : Nat) (m' : Str → Option Value), Fr v.g v.L h' m' → v.Q (.ret (.bool true)) { (v.s) with heap := h', toks := tk' }) → G
def II22 : Prop := ∀ v : LV, CC22 v (Go v.w v.dp v.un v.gd v.L 22 v.Q v.E v.s)
def CC23 (v : LV) (G : Prop) : Prop := LCtx v.w v.mean v.mg v.mb v.dp v.un v.gd v.base v.g → Fr v.g v.L v.s.heap v.m → News v.g v.L v.s.heap [(v.Dc, listOf [.int v.c0 v.t0, .int v.c1 v.t1, .int v.c2 v.t2, .int v.c3 v.t3].toArray v.zc), (v.L + 1 + 1 + 1 + 1 + 1 + 1 + 1 + 1 + 1 + 1 + 1 + 1, v.oSeen), (v.L + 1 + 1 + 1 + 1 + 1 + 1 + 1 + 1 + 1 + 1 + 1, v.oSome), (v.L + 1 + 1 + 1 + 1 + 1 + 1 + 1 + 1 + 1 + 1, v.oEven), (v.L + 1 + 1 + 1 + 1 + 1 + 1 + 1 + 1 + 1, v.oTotal), (v.L + 1 + 1 + 1 + 1 + 1 + 1 + 1 + 1, v.oDues), (v.L + 1 + 1 + 1 + 1 + 1 + 1 + 1, v.oNeeds), (v.L + 1 + 1 + 1 + 1 + 1 + 1, v.oAnswers), (v.L + 1 + 1 + 1 + 1 + 1, v.oTold), (v.L + 1 + 1 + 1 + 1, v.oPorts), (v.L + 1 + 1 + 1, v.oMark), (v.L + 1 + 1, v.oTurn), (v.L + 1, v.oBase)] →
  (v.m (Str.ofString "cells") = some (.ref v.Dc)) → (v.m (Str.ofString "code") = some (.int (v.c : Int) v.tC)) → (v.m (Str.ofString "tail") = some (.str v.tl v.tTl)) → (v.m (Str.ofString "a") = some (.int v.av v.tA)) → (v.oBase.data = .cell (some (.int v.bv v.tB))) → (v.oTurn.data = .cell (some (.int v.tv v.tT))) → (v.oMark.data = .cell (some (.str ⟨#[v.c]⟩ v.tM))) → (v.oPorts.data = .cell (some (.ref v.Dp))) → (v.oTold.data = .cell (some (.ref v.Dt))) → (v.oAnswers.data = .cell (some (.ref v.Da))) → (v.oNeeds.data = .cell (some (.ref v.Dn))) → (v.oDues.data = .cell (some (.ref v.Dd))) → (v.oTotal.data = .cell (some (.int (((needE v.av v.bv) : Int) + ((needE v.bb v.bv) : Int)) v.tS))) → (v.oEven.data = .cell (some (.ref v.De))) → (v.oSome.data = .cell (some (.ref v.Ds))) → (v.oSeen.data = .cell (some (.ref v.Dw))) → (-2^40 < v.c0) → (-2^40 < v.c1) → (-2^40 < v.c2) → (-2^40 < v.c3) → (v.c0 < 2^40) → (v.c1 < 2^40) → (v.c2 < 2^40) → (v.c3 < 2^40) → (v.bv % 8 = 5) → (-252 < v.bv) → (v.bv < 254) → (64 ≤ v.c) → (v.c ≤ 1114111) → (v.c ≠ 34) → (v.c ≠ 120) → (rd (v.c :: v.tl.cps.toList) = [v.c]) → (v.tl.length ≤ 14) → (v.av % 2 = 1) → (-4096 < v.av) → (v.av < 4096) → (v.bb % 2 = 1) → (-4096 < v.bb) → (v.bb < 4096) → (v.pv = v.av * v.bb) → (v.pv % 2 = 1) → (-(2^24) < v.pv) → (v.pv < 2^24) → (∀ (h' : Heap) (tk' : Nat) (m' : Str → Option Value), Fr v.g v.L h' m' → v.Q (.ret (.bool true)) { (v.s) with heap := h', toks := tk' }) → G
def II23 : Prop := ∀ v : LV, CC23 v (Go v.w v.dp v.un v.gd v.L 23 v.Q v.E v.s)
def CC24 (v : LV) (G : Prop) : Prop := LCtx v.w v.mean v.mg v.mb v.dp v.un v.gd v.base v.g → Fr v.g v.L v.s.heap v.m → News v.g v.L v.s.heap [(v.Dh, listOf (bl (heldL v.c0 v.c1 v.c2 v.c3 v.c)) v.zh), (v.Dc, listOf [.int v.c0 v.t0, .int v.c1 v.t1, .int v.c2 v.t2, .int v.c3 v.t3].toArray v.zc), (v.L + 1 + 1 + 1 + 1 + 1 + 1 + 1 + 1 + 1 + 1 + 1 + 1, v.oSeen), (v.L + 1 + 1 + 1 + 1 + 1 + 1 + 1 + 1 + 1 + 1 + 1, v.oSome), (v.L + 1 + 1 + 1 + 1 + 1 + 1 + 1 + 1 + 1 + 1, v.oEven), (v.L + 1 + 1 + 1 + 1 + 1 + 1 + 1 + 1 + 1, v.oTotal), (v.L + 1 + 1 + 1 + 1 + 1 + 1 + 1 + 1, v.oDues), (v.L + 1 + 1 + 1 + 1 + 1 + 1 + 1, v.oNeeds), (v.L + 1 + 1 + 1 + 1 + 1 + 1, v.oAnswers), (v.L + 1 + 1 + 1 + 1 + 1, v.oTold), (v.L + 1 + 1 + 1 + 1, v.oPorts), (v.L + 1 + 1 + 1, v.oMark), (v.L + 1 + 1, v.oTurn), (v.L + 1, v.oBase)] →
  (v.m (Str.ofString "cells") = some (.ref v.Dc)) → (v.m (Str.ofString "code") = some (.int (v.c : Int) v.tC)) → (v.m (Str.ofString "tail") = some (.str v.tl v.tTl)) → (v.m (Str.ofString "a") = some (.int v.av v.tA)) → (v.m (Str.ofString "held") = some (.ref v.Dh)) → (v.oBase.data = .cell (some (.int v.bv v.tB))) → (v.oTurn.data = .cell (some (.int v.tv v.tT))) → (v.oMark.data = .cell (some (.str ⟨#[v.c]⟩ v.tM))) → (v.oPorts.data = .cell (some (.ref v.Dp))) → (v.oTold.data = .cell (some (.ref v.Dt))) → (v.oAnswers.data = .cell (some (.ref v.Da))) → (v.oNeeds.data = .cell (some (.ref v.Dn))) → (v.oDues.data = .cell (some (.ref v.Dd))) → (v.oTotal.data = .cell (some (.int (((needE v.av v.bv) : Int) + ((needE v.bb v.bv) : Int)) v.tS))) → (v.oEven.data = .cell (some (.ref v.De))) → (v.oSome.data = .cell (some (.ref v.Ds))) → (v.oSeen.data = .cell (some (.ref v.Dw))) → (-2^40 < v.c0) → (-2^40 < v.c1) → (-2^40 < v.c2) → (-2^40 < v.c3) → (v.c0 < 2^40) → (v.c1 < 2^40) → (v.c2 < 2^40) → (v.c3 < 2^40) → (v.bv % 8 = 5) → (-252 < v.bv) → (v.bv < 254) → (64 ≤ v.c) → (v.c ≤ 1114111) → (v.c ≠ 34) → (v.c ≠ 120) → (rd (v.c :: v.tl.cps.toList) = [v.c]) → (v.tl.length ≤ 14) → (v.av % 2 = 1) → (-4096 < v.av) → (v.av < 4096) → (v.bb % 2 = 1) → (-4096 < v.bb) → (v.bb < 4096) → (v.pv = v.av * v.bb) → (v.pv % 2 = 1) → (-(2^24) < v.pv) → (v.pv < 2^24) → (∀ (h' : Heap) (tk' : Nat) (m' : Str → Option Value), Fr v.g v.L h' m' → v.Q (.ret (.bool true)) { (v.s) with heap := h', toks := tk' }) → G
def II24 : Prop := ∀ v : LV, CC24 v (Go v.w v.dp v.un v.gd v.L 24 v.Q v.E v.s)
def CC25 (v : LV) (G : Prop) : Prop := LCtx v.w v.mean v.mg v.mb v.dp v.un v.gd v.base v.g → Fr v.g v.L v.s.heap v.m → News v.g v.L v.s.heap [(v.Dr, listOf (bl (heldL v.c0 v.c1 v.c2 v.c3 v.c)) v.zr), (v.Dh, listOf (bl (heldL v.c0 v.c1 v.c2 v.c3 v.c)) v.zh), (v.L + 1 + 1 + 1 + 1 + 1 + 1 + 1 + 1 + 1 + 1 + 1 + 1, v.oSeen), (v.L + 1 + 1 + 1 + 1 + 1 + 1 + 1 + 1 + 1 + 1 + 1, v.oSome), (v.L + 1 + 1 + 1 + 1 + 1 + 1 + 1 + 1 + 1 + 1, v.oEven), (v.L + 1 + 1 + 1 + 1 + 1 + 1 + 1 + 1 + 1, v.oTotal), (v.L + 1 + 1 + 1 + 1 + 1 + 1 + 1 + 1, v.oDues), (v.L + 1 + 1 + 1 + 1 + 1 + 1 + 1, v.oNeeds), (v.L + 1 + 1 + 1 + 1 + 1 + 1, v.oAnswers), (v.L + 1 + 1 + 1 + 1 + 1, v.oTold), (v.L + 1 + 1 + 1 + 1, v.oPorts), (v.L + 1 + 1 + 1, v.oMark), (v.L + 1 + 1, v.oTurn), (v.L + 1, v.oBase)] →
  (v.m (Str.ofString "cells") = some (.ref v.Dc)) → (v.m (Str.ofString "code") = some (.int (v.c : Int) v.tC)) → (v.m (Str.ofString "tail") = some (.str v.tl v.tTl)) → (v.m (Str.ofString "a") = some (.int v.av v.tA)) → (v.m (Str.ofString "held") = some (.ref v.Dh)) → (v.m (Str.ofString "near") = some (.ref v.Dr)) → (v.oBase.data = .cell (some (.int v.bv v.tB))) → (v.oTurn.data = .cell (some (.int v.tv v.tT))) → (v.oMark.data = .cell (some (.str ⟨#[v.c]⟩ v.tM))) → (v.oPorts.data = .cell (some (.ref v.Dp))) → (v.oTold.data = .cell (some (.ref v.Dt))) → (v.oAnswers.data = .cell (some (.ref v.Da))) → (v.oNeeds.data = .cell (some (.ref v.Dn))) → (v.oDues.data = .cell (some (.ref v.Dd))) → (v.oTotal.data = .cell (some (.int (((needE v.av v.bv) : Int) + ((needE v.bb v.bv) : Int)) v.tS))) → (v.oEven.data = .cell (some (.ref v.De))) → (v.oSome.data = .cell (some (.ref v.Ds))) → (v.oSeen.data = .cell (some (.ref v.Dw))) → (-2^40 < v.c0) → (-2^40 < v.c1) → (-2^40 < v.c2) → (-2^40 < v.c3) → (v.c0 < 2^40) → (v.c1 < 2^40) → (v.c2 < 2^40) → (v.c3 < 2^40) → (v.bv % 8 = 5) → (-252 < v.bv) → (v.bv < 254) → (64 ≤ v.c) → (v.c ≤ 1114111) → (v.c ≠ 34) → (v.c ≠ 120) → (rd (v.c :: v.tl.cps.toList) = [v.c]) → (v.tl.length ≤ 14) → (v.av % 2 = 1) → (-4096 < v.av) → (v.av < 4096) → (v.bb % 2 = 1) → (-4096 < v.bb) → (v.bb < 4096) → (v.pv = v.av * v.bb) → (v.pv % 2 = 1) → (-(2^24) < v.pv) → (v.pv < 2^24) → (∀ (h' : Heap) (tk' : Nat) (m' : Str → Option Value), Fr v.g v.L h' m' → v.Q (.ret (.bool true)) { (v.s) with heap := h', toks := tk' }) → G
def II25 : Prop := ∀ v : LV, CC25 v (Go v.w v.dp v.un v.gd v.L 25 v.Q v.E v.s)
def P0 (v : LV) : Prop := II1 → CC0 v (Go v.w v.dp v.un v.gd v.L 0 v.Q v.E v.s)
def P1 (v : LV) : Prop := II2 → CC1 v (Go v.w v.dp v.un v.gd v.L 1 v.Q v.E v.s)
def P2 (v : LV) : Prop := II3 → CC2 v (Go v.w v.dp v.un v.gd v.L 2 v.Q v.E v.s)
def P3 (v : LV) : Prop := II4 → CC3 v (Go v.w v.dp v.un v.gd v.L 3 v.Q v.E v.s)
def P4 (v : LV) : Prop := II5 → CC4 v (Go v.w v.dp v.un v.gd v.L 4 v.Q v.E v.s)
def P5 (v : LV) : Prop := II6 → CC5 v (Go v.w v.dp v.un v.gd v.L 5 v.Q v.E v.s)
def P6 (v : LV) : Prop := II7 → CC6 v (Go v.w v.dp v.un v.gd v.L 6 v.Q v.E v.s)
def P7 (v : LV) : Prop := II8 → CC7 v (Go v.w v.dp v.un v.gd v.L 7 v.Q v.E v.s)
def P8 (v : LV) : Prop := II9 → CC8 v (Go v.w v.dp v.un v.gd v.L 8 v.Q v.E v.s)
def P9 (v : LV) : Prop := II10 → CC9 v (Go v.w v.dp v.un v.gd v.L 9 v.Q v.E v.s)
def P10 (v : LV) : Prop := II11 → CC10 v (Go v.w v.dp v.un v.gd v.L 10 v.Q v.E v.s)
def P11 (v : LV) : Prop := II12 → CC11 v (Go v.w v.dp v.un v.gd v.L 11 v.Q v.E v.s)
def P12 (v : LV) : Prop := II13 → CC12 v (Go v.w v.dp v.un v.gd v.L 12 v.Q v.E v.s)
def P13 (v : LV) : Prop := II14 → CC13 v (Go v.w v.dp v.un v.gd v.L 13 v.Q v.E v.s)
def P14 (v : LV) : Prop := II15 → CC14 v (Go v.w v.dp v.un v.gd v.L 14 v.Q v.E v.s)
def P15 (v : LV) : Prop := II16 → CC15 v (Go v.w v.dp v.un v.gd v.L 15 v.Q v.E v.s)
def P16 (v : LV) : Prop := II17 → CC16 v (Go v.w v.dp v.un v.gd v.L 16 v.Q v.E v.s)
def P17 (v : LV) : Prop := II18 → CC17 v (Go v.w v.dp v.un v.gd v.L 17 v.Q v.E v.s)
def P18 (v : LV) : Prop := II19 → CC18 v (Go v.w v.dp v.un v.gd v.L 18 v.Q v.E v.s)
def P19 (v : LV) : Prop := II20 → CC19 v (Go v.w v.dp v.un v.gd v.L 19 v.Q v.E v.s)
def P20 (v : LV) : Prop := II21 → CC20 v (Go v.w v.dp v.un v.gd v.L 20 v.Q v.E v.s)
def P21 (v : LV) : Prop := II22 → CC21 v (Go v.w v.dp v.un v.gd v.L 21 v.Q v.E v.s)
def P22 (v : LV) : Prop := II23 → CC22 v (Go v.w v.dp v.un v.gd v.L 22 v.Q v.E v.s)
def P23 (v : LV) : Prop := II24 → CC23 v (Go v.w v.dp v.un v.gd v.L 23 v.Q v.E v.s)
def P24 (v : LV) : Prop := II25 → CC24 v (Go v.w v.dp v.un v.gd v.L 24 v.Q v.E v.s)
def P25 (v : LV) : Prop := CC25 v (Go v.w v.dp v.un v.gd v.L 25 v.Q v.E v.s)
noncomputable def aLV : LV where
  w := aWorld
  mean := fun _ => none
  mg := fun _ => none
  mb := fun _ => none
  dp := 0
  un := 0
  gd := none
  base := {}
  g := {}
  L := 0
  Q := fun _ _ => True
  E := fun _ _ => True
  s := {}
  m := fun _ => none
  oBase := { cls := .none, data := .freed }
  oTurn := { cls := .none, data := .freed }
  oMark := { cls := .none, data := .freed }
  oPorts := { cls := .none, data := .freed }
  oTold := { cls := .none, data := .freed }
  oAnswers := { cls := .none, data := .freed }
  oNeeds := { cls := .none, data := .freed }
  oDues := { cls := .none, data := .freed }
  oTotal := { cls := .none, data := .freed }
  oEven := { cls := .none, data := .freed }
  oSome := { cls := .none, data := .freed }
  oSeen := { cls := .none, data := .freed }
  p := 0
  items := []
  ns := []
  Dc := 0
  zc := 0
  c0 := 0
  c1 := 0
  c2 := 0
  c3 := 0
  t0 := 0
  t1 := 0
  t2 := 0
  t3 := 0
  bv := 0
  tB := 0
  tv := 0
  tT := 0
  c := 0
  tC := 0
  tM := 0
  tl := ⟨#[]⟩
  tTl := 0
  av := 0
  tA := 0
  bb := 0
  tBb := 0
  pv := 0
  Dp := 0
  zp := 0
  u0 := 0
  u1 := 0
  u2 := 0
  u3 := 0
  Dt := 0
  zt := 0
  X0 := 0
  X1 := 0
  X2 := 0
  X3 := 0
  w0 := 0
  w1 := 0
  w2 := 0
  w3 := 0
  v0 := 0
  v1 := 0
  v2 := 0
  v3 := 0
  Da := 0
  za := 0
  Y0 := 0
  Y1 := 0
  Y2 := 0
  y0 := 0
  y1 := 0
  y2 := 0
  Dn := 0
  zn := 0
  n0 := 0
  n1 := 0
  n2 := 0
  Dd := 0
  zd := 0
  Z0 := 0
  Z1 := 0
  Z2 := 0
  z0 := 0
  z1 := 0
  z2 := 0
  zf := 0
  tS := 0
  De := 0
  zv := 0
  Ds := 0
  zs := 0
  Dw := 0
  zw := 0
  W0 := 0
  W1 := 0
  W2 := 0
  W3 := 0
  W4 := 0
  W5 := 0
  W6 := 0
  k0 := 0
  k1 := 0
  k2 := 0
  k3 := 0
  k4 := 0
  k5 := 0
  k6 := 0
  Dh := 0
  zh := 0
  Dr := 0
  zr := 0
def PS (v : LV) : Prop := P0 v ∧ P1 v ∧ P2 v ∧ P3 v ∧ P4 v ∧ P5 v ∧ P6 v ∧ P7 v ∧ P8 v ∧ P9 v ∧ P10 v ∧ P11 v ∧ P12 v ∧ P13 v ∧ P14 v ∧ P15 v ∧ P16 v ∧ P17 v ∧ P18 v ∧ P19 v ∧ P20 v ∧ P21 v ∧ P22 v ∧ P23 v ∧ P24 v ∧ P25 v
@[irreducible] noncomputable def cS : LV := eps aLV PS
end

-- X_cells
section
theorem cells_start : [2053, 2033, 672, 829].length = 4 ∧ ∀ (c : Int), c ∈ [2053, 2033, 672, 829] → 0 ≤ c ∧ c ≤ 2053 + 1000000 * (([] : List Int).length : Int) := by
  refine ⟨rfl, fun c hc => ?_⟩
  simp only [List.mem_cons, List.not_mem_nil, or_false] at hc
  rcases hc with rfl | rfl | rfl | rfl <;> decide
theorem cells_step {l pre : List Int} {k v : Int} (h : l.length = 4 ∧ ∀ c ∈ l, 0 ≤ c ∧ c ≤ 2053 + 1000000 * (pre.length : Int)) :
    (l.set (k % 4).toNat (l.getD (k % 4).toNat 0 + v % 1000000)).length = 4 ∧ ∀ (c : Int), c ∈ l.set (k % 4).toNat (l.getD (k % 4).toNat 0 + v % 1000000) → 0 ≤ c ∧ c ≤ 2053 + 1000000 * ((pre ++ [k]).length : Int) := by
  refine ⟨by rw [List.length_set]; exact h.1, fun c hc => ?_⟩
  have hl : ((pre ++ [k]).length : Int) = (pre.length : Int) + 1 := by simp
  rw [hl]
  have hi : (k % 4).toNat < l.length := by rw [h.1]; omega
  rcases List.mem_or_eq_of_mem_set hc with hm | rfl
  · have := h.2 c hm; omega
  · have hm : l.getD (k % 4).toNat 0 ∈ l := by rw [List.getD_eq_getElem?_getD, List.getElem?_eq_getElem hi]; exact List.getElem_mem hi
    have := h.2 _ hm
    have h1 := Int.emod_nonneg v (by decide : (1000000 : Int) ≠ 0)
    have h2 := Int.emod_lt_of_pos v (by decide : (0 : Int) < 1000000)
    omega
theorem four_of {vs : List Value} {ns pre : List Int} (hi : IntsAre vs ns) (h : ns.length = 4 ∧ ∀ c ∈ ns, 0 ≤ c ∧ c ≤ 2053 + 1000000 * (pre.length : Int)) (hp : pre.length ≤ 63) :
    ∃ c0 c1 c2 c3 t0 t1 t2 t3, vs = [.int c0 t0, .int c1 t1, .int c2 t2, .int c3 t3] ∧ (-2^40 < c0 ∧ c0 < 2^40) ∧ (-2^40 < c1 ∧ c1 < 2^40) ∧ (-2^40 < c2 ∧ c2 < 2^40) ∧ (-2^40 < c3 ∧ c3 < 2^40) := by
  obtain ⟨h4, hb⟩ := h
  match ns, h4 with
  | [a, b, c, d], _ =>
    have ha := hb a (by simp)
    have hb' := hb b (by simp)
    have hc := hb c (by simp)
    have hd := hb d (by simp)
    cases hi with | cons _ _ hi => cases hi with | cons _ _ hi => cases hi with | cons _ _ hi => cases hi with | cons _ _ hi => (cases hi; exact ⟨a, b, c, d, _, _, _, _, rfl, by omega, by omega, by omega, by omega⟩)
set_option genInjectivity false in
structure ZVcells where
  w : World
  mean : ExcName → Option Value
  mg : Str → Option Value
  mb : Str → Option Value
  l : Addr
  items : List Value
  ns : List Int
  dp : Nat
  un : Nat
  gd : Option (List Code)
  outer : List Env
  base : Heap
  s : Shared
  R : Result → Shared → Prop
def PZcells (zv : ZVcells) : Prop := (IntsAre zv.items zv.ns) → (zv.ns.length ≤ 63) → Below (topA zv.dp zv.un zv.gd zv.outer) zv.base zv.outer zv.s.heap → Frag.In (Mine.hd.heap_39 zv.w.params) zv.s.heap → Top Mine.hd.view_39 (looseW Mine.hd.view_39 []) zv.mean zv.mg zv.mb zv.s.heap →
    zv.dp + 1 < recursionLimit → zv.un + 3 < cLine → (fun h => h.IsList zv.l zv.items.toArray) zv.s.heap →
    (∀ r h' tk', (∀ b o, zv.s.heap.get? b = some o → h'.get? b = some o) → (fun h h' v => ∃ D zn c0 c1 c2 c3 t0 t1 t2 t3, v = .ref D ∧ h'.get? D = some (listOf [.int c0 t0, .int c1 t1, .int c2 t2, .int c3 t3].toArray zn) ∧ h.get? D = none ∧ (-2^40 < c0 ∧ c0 < 2^40) ∧ (-2^40 < c1 ∧ c1 < 2^40) ∧ (-2^40 < c2 ∧ c2 < 2^40) ∧ (-2^40 < c3 ∧ c3 < 2^40)) zv.s.heap h' r → zv.R (.ok (.ret r)) (Shared.mk h' zv.s.gens zv.s.drawn tk' zv.s.os)) →
    codeAny (model PySem.Challenge.pw_yf0007_01 zv.w) (topA zv.dp zv.un zv.gd zv.outer) (.call (.ref 142) ⟨[.ref zv.l], []⟩) zv.R zv.s
def aZVcells : ZVcells where
  w := aWorld
  mean := fun _ => none
  mg := fun _ => none
  mb := fun _ => none
  l := 0
  items := []
  ns := []
  dp := 0
  un := 0
  gd := none
  outer := []
  base := {}
  s := {}
  R := fun _ _ => True
@[irreducible] noncomputable def cZcells : ZVcells := eps aZVcells PZcells
set_option maxHeartbeats 4000000 in
theorem st_cells : PZcells cZcells := by
  k_with_none
  w_top off
  k_with "own binaryOp Mod int int" => (k_here; (with_reducible refine mod_e ?_ ?_); (focus (first | decide | omega)); intro k')
  unfold PZcells
  intro hi h63 B X T hd hu hpre hret
  k_dflt (refine' enterE ?k1 ?k2 ?k3 ?k6 ?k7 ?k8 ?k9 ?kB ?_ ?c2 ?c3 ?c4 ?c5; (case k1 => exact B); (case k2 => exact X); (case k3 => exact T); (case k6 => k_is); (case k7 => k_is); (case k8 => ktr_room); (case k9 => exact BindsTo.of_eq rfl); (case c5 => decide); (case kB => exact locs rfl); (case c2 => exact rfl); (case c3 => exact rfl); (case c4 => exact rfl); k_whole)
  clear B X T
  intro h' B' X' T' F' N'
  w_binds F'
  (try dsimp only)
  (try dsimp only at hpre)
  (try k_fold)
  k_with "state" => first | exact cells_start | exact cells_step ⟨by assumption, by assumption⟩
  k_with "pyIter ref" => k_state (fun pre cells => cells.length = 4 ∧ ∀ c ∈ cells, 0 ≤ c ∧ c ≤ 2053 + 1000000 * pre.length) "cells"
  k_steps
  all_goals ((try dsimp only); refine hret _ _ _ (Fr.keep (by assumption)) ?_)
  all_goals (have hv := four_of (by assumption) ⟨by assumption, by assumption⟩ ?hp; (case hp => rw [rangeKs_length]; omega); obtain ⟨c0, c1, c2, c3, t0, t1, t2, t3, hv, b0, b1, b2, b3⟩ := hv; subst hv; exact ⟨_, _, c0, c1, c2, c3, t0, t1, t2, t3, rfl, got_new (by assumption) rfl, new_none (h := _) (by assumption), b0, b1, b2, b3⟩)
theorem sp_cells (w : World) (mean : ExcName → Option Value) (mg mb : Str → Option Value) (l : Addr) (items : List Value) (ns : List Int) (hi : IntsAre items ns) (h63 : ns.length ≤ 63) :
    Spec w mean mg mb 142 1 3 [.ref l] (fun h => h.IsList l items.toArray) (fun h h' v => ∃ D zn c0 c1 c2 c3 t0 t1 t2 t3, v = .ref D ∧ h'.get? D = some (listOf [.int c0 t0, .int c1 t1, .int c2 t2, .int c3 t3].toArray zn) ∧ h.get? D = none ∧ (-2^40 < c0 ∧ c0 < 2^40) ∧ (-2^40 < c1 ∧ c1 < 2^40) ∧ (-2^40 < c2 ∧ c2 < 2^40) ∧ (-2^40 < c3 ∧ c3 < 2^40)) := by
  have eZ : cZcells = eps aZVcells PZcells := by unfold cZcells; rfl
  have hZ := st_cells
  rw [eZ] at hZ
  unfold Spec
  intro dp un gd outer base s R
  exact eps_all hZ (ZVcells.mk w mean mg mb l items ns dp un gd outer base s R) hi h63
end

-- S0
section
def CellsP (o : Obj) : Prop := ∃ zn c0 c1 c2 c3 t0 t1 t2 t3, o = listOf [.int c0 t0, .int c1 t1, .int c2 t2, .int c3 t3].toArray zn ∧ (-2^40 < c0 ∧ c0 < 2^40) ∧ (-2^40 < c1 ∧ c1 < 2^40) ∧ (-2^40 < c2 ∧ c2 < 2^40) ∧ (-2^40 < c3 ∧ c3 < 2^40)
theorem spN_cells (w : World) (mean : ExcName → Option Value) (mg mb : Str → Option Value) (l : Addr) (items : List Value) (ns : List Int) : Spec w mean mg mb 142 1 3 [.ref l] (fun h => h.IsList l items.toArray ∧ IntsAre items ns ∧ ns.length ≤ 63) (NewP CellsP) := by
  unfold Spec
  intro dp un gd outer base s R B X T hd hu hp hr
  refine sp_cells w mean mg mb l items ns hp.2.1 hp.2.2 dp un gd outer base s R B X T hd hu hp.1 fun v h' tk' hk q => hr v h' tk' hk ?_
  obtain ⟨D, zn, c0, c1, c2, c3, t0, t1, t2, t3, rfl, hD, hn, b⟩ := q
  exact ⟨D, _, rfl, hD, hn, zn, c0, c1, c2, c3, t0, t1, t2, t3, rfl, b⟩
set_option maxHeartbeats 8000000 in
theorem st0c : P0 cS := by
  k_with_none
  w_top off
  k_with "own call ref" => (k_here; k_dflt (refine call_specN (spN_cells _ _ _ _ _ _ _ ) (by k_asm) (by k_asm) (by k_asm) (by k_asm) (by k_asm) (by exact rfl) (by exact rfl) (by exact rfl) (by first | exact room1 (by assumption) rfl | exact room0 (by assumption) rfl | omega | ((try dsimp only [topA, Around.deeper, Around.in1]); omega)) (by first | exact room1 (by assumption) rfl | exact room0 (by assumption) rfl | omega | ((try dsimp only [topA, Around.deeper, Around.in1]); omega)) (by exact ⟨Fr.lst (by assumption) (by assumption), by assumption, by assumption⟩) ?_; intro D' o' h' tk' F' N' q' p'; (try k_sweep); (try dsimp only)))
  unfold P0 II1 CC0
  intro H cx F N escript dbase dturn dmark dports dtold danswers dneeds ddues dtotal deven dsome dseen hI h63 hpre hFin
  have H9 := fun (h' : Heap) (tk' : Nat) (m' : Str → Option Value) (Dc : Addr) (zc : Nat) (c0 c1 c2 c3 : Int) (t0 t1 t2 t3 : Tok) => H { cS with s := { cS.s with heap := h', toks := tk' }, m := m', Dc := Dc, zc := zc, c0 := c0, c1 := c1, c2 := c2, c3 := c3, t0 := t0, t1 := t1, t2 := t2, t3 := t3 }
  dsimp only [CC1] at H9
  clear H
  have cx0 := cx
  obtain ⟨hd, hu, B', X', T'⟩ := cx
  have F := fr_top F (escript)
  refine' law_go ?hq ?hs ?hc ?hb ?_
  case hq => exact rfl
  case hs => (conv => lhs; whnf)
  case hc => (conv => lhs; whnf)
  case hb => exact rfl
  (try dsimp only)
  (try k_fold)
  k_steps
  (rename Fr _ _ _ _ => F9); (rename News _ _ _ _ => N9)
  (rename CellsP _ => p9); obtain ⟨zc, c0, c1, c2, c3, t0, t1, t2, t3, rfl, ⟨a0, b0⟩, ⟨a1, b1⟩, ⟨a2, b2⟩, ⟨a3, b3⟩⟩ := p9
  exact H9 _ _ _ _ _ _ _ _ _ _ _ _ _ cx0 F9 N9 rfl dbase dturn dmark dports dtold danswers dneeds ddues dtotal deven dsome dseen a0 a1 a2 a3 b0 b1 b2 b3 hFin
end

-- S1
section
set_option maxHeartbeats 8000000 in
theorem st1c : P1 cS := by
  k_with_none
  w_top off
  k_with "own binaryOp Mod int int" => (k_here; (with_reducible refine mod_e ?_ ?_); (focus (first | decide | omega)); intro k')
  k_with "own subscriptTail Name Constant ref int" => (k_here; (with_reducible show wpAny _ _ (subscriptTail _ _ (Value.ref _) (Value.int _ _)) _ _ _); k_dflt (refine item_litK (by is_list) (by decide) (by decide) (by rfl) ?_ (by with_unfolding_all rfl)))
  k_with "own storeName" => (k_here; k_dflt (refine storeN (by k_asm) (by k_asm) (by exact rfl) (by (repeat' first | ((with_reducible apply NcU.skip); exact rfl) | ((with_reducible apply NcU.cells); exact nodup_cells _) | (with_reducible apply NdU.head) | (with_reducible apply NdU.tail))) (by k_asm) ?_ (by exact rfl) (by exact rfl)); intro h' o' F' N' d'; (try dsimp only at N'); (try k_sweep); (try dsimp only))
  unfold P1 II2 CC1
  intro H cx F N ecells dbase dturn dmark dports dtold danswers dneeds ddues dtotal deven dsome dseen a0 a1 a2 a3 b0 b1 b2 b3 hFin
  have H9 := fun (h' : Heap) (tk' : Nat) (m' : Str → Option Value) (oBase' : Obj) (bv : Int) (tB : Tok) => H { cS with s := { cS.s with heap := h', toks := tk' }, m := m', oBase := oBase', bv := bv, tB := tB }
  dsimp only [CC2] at H9
  clear H
  have cx0 := cx
  obtain ⟨hd, hu, B', X', T'⟩ := cx
  have F := fr_top F (ecells)
  refine' law_go ?hq ?hs ?hc ?hb ?_
  case hq => exact rfl
  case hs => (conv => lhs; whnf)
  case hc => (conv => lhs; whnf)
  case hb => exact rfl
  (try dsimp only)
  (try k_fold)
  k_steps
  (rename Fr _ _ _ _ => F9); (rename News _ _ _ _ => N9)
  exact H9 _ _ _ _ _ _ cx0 F9 N9 rfl (by assumption) dturn dmark dports dtold danswers dneeds ddues dtotal deven dsome dseen a0 a1 a2 a3 b0 b1 b2 b3 (by omega) (by omega) (by omega) hFin
end

-- S2
section
set_option maxHeartbeats 8000000 in
theorem st2c : P2 cS := by
  k_with_none
  w_top off
  k_with "own binaryOp Mod int int" => (k_here; (with_reducible refine mod_e ?_ ?_); (focus (first | decide | omega)); intro k')
  k_with "own binaryOp FloorDiv int int" => (k_here; (with_reducible refine div_e ?_ ?_ ?_); (focus (first | decide | omega)); (focus (exact PyProof.noPylong_small (by first | decide | omega))); intro k')
  k_with "own subscriptTail Name Constant ref int" => (k_here; (with_reducible show wpAny _ _ (subscriptTail _ _ (Value.ref _) (Value.int _ _)) _ _ _); k_dflt (refine item_litK (by is_list) (by decide) (by decide) (by rfl) ?_ (by with_unfolding_all rfl)))
  k_with "own storeName" => (k_here; k_dflt (refine storeN (by k_asm) (by k_asm) (by exact rfl) (by (repeat' first | ((with_reducible apply NcU.skip); exact rfl) | ((with_reducible apply NcU.cells); exact nodup_cells _) | (with_reducible apply NdU.head) | (with_reducible apply NdU.tail))) (by k_asm) ?_ (by exact rfl) (by exact rfl)); intro h' o' F' N' d'; (try dsimp only at N'); (try k_sweep); (try dsimp only))
  unfold P2 II3 CC2
  intro H cx F N ecells dbase dturn dmark dports dtold danswers dneeds ddues dtotal deven dsome dseen a0 a1 a2 a3 b0 b1 b2 b3 hb8 hb0 hb1 hFin
  have H9 := fun (h' : Heap) (tk' : Nat) (m' : Str → Option Value) (oTurn' : Obj) (tv : Int) (tT : Tok) => H { cS with s := { cS.s with heap := h', toks := tk' }, m := m', oTurn := oTurn', tv := tv, tT := tT }
  dsimp only [CC3] at H9
  clear H
  have cx0 := cx
  obtain ⟨hd, hu, B', X', T'⟩ := cx
  have F := fr_top F (ecells)
  refine' law_go ?hq ?hs ?hc ?hb ?_
  case hq => exact rfl
  case hs => (conv => lhs; whnf)
  case hc => (conv => lhs; whnf)
  case hb => exact rfl
  (try dsimp only)
  (try k_fold)
  k_steps
  (rename Fr _ _ _ _ => F9); (rename News _ _ _ _ => N9)
  exact H9 _ _ _ _ _ _ cx0 F9 N9 rfl dbase (by assumption) dmark dports dtold danswers dneeds ddues dtotal deven dsome dseen a0 a1 a2 a3 b0 b1 b2 b3 hb8 hb0 hb1 hFin
end

-- X_code
section
def codeOf (n : Int) : Int := 65536 * (n / 8 % 17) + [64975, 64976, 65007, 65008, 65533, 65534, 65535, 64].getD (n % 8).toNat 0
set_option maxHeartbeats 4000000 in
theorem sp_code (w : World) (mean : ExcName → Option Value) (mg mb : Str → Option Value) (n : Int) (t : Tok) (h0 : -2^40 < n) (h1 : n < 2^40) :
    Spec w mean mg mb 149 1 3 [.int n t] (fun _ => True) (fun _ _ v => ∃ t, v = .int (codeOf n) t) := by
  k_with_none
  w_top off
  k_with "own binaryOp Mod int int" => (k_here; (with_reducible refine mod_e ?_ ?_); (focus (first | decide | omega)); intro k')
  k_with "own binaryOp FloorDiv int int" => (k_here; (with_reducible refine div_e ?_ ?_ ?_); (focus (first | decide | omega)); (focus (exact PyProof.noPylong_small (by first | decide | omega))); intro k')
  unfold Spec
  intro dp un gd outer base s R B X T hd hu hpre hret
  k_dflt (refine' enter ?k1 ?k2 ?k3 ?k6 ?k7 ?k8 ?k9 ?kB ?_ ?c2 ?c3 ?c4 ?c5; (case k1 => exact B); (case k2 => exact X); (case k3 => exact T); (case k6 => k_is); (case k7 => k_is); (case k8 => ktr_room); (case k9 => exact BindsTo.of_eq rfl); (case c5 => decide); (case kB => exact locs rfl); (case c2 => exact rfl); (case c3 => exact rfl); (case c4 => exact rfl); k_whole)
  clear B X T
  intro g' L' h' hg B' X' T' F' N'
  w_binds F'
  (try dsimp only)
  (try dsimp only at hpre)
  (try rw [hg] at hpre)
  (try k_fold)
  k_steps
  all_goals (subst hg; refine hret _ _ _ (Fr.keep (by assumption)) ?_)
  all_goals (exact ⟨_, rfl⟩)
end

-- S3
section
def placesN : List Nat := [64975, 64976, 65007, 65008, 65533, 65534, 65535, 64]
theorem places_cast : ∀ r, r < 8 → ([64975, 64976, 65007, 65008, 65533, 65534, 65535, 64] : List Int).getD r 0 = ((placesN.getD r 0 : Nat) : Int) := by decide
theorem code_chk : ∀ q, q < 17 → ∀ r, r < 8 → 64 ≤ 65536 * q + placesN.getD r 0 ∧ 65536 * q + placesN.getD r 0 ≤ 1114111 ∧ 65536 * q + placesN.getD r 0 ≠ 34 ∧ 65536 * q + placesN.getD r 0 ≠ 120 := by decide +kernel
theorem code_facts (n : Int) : ∃ c : Nat, codeOf n = (c : Int) ∧ 64 ≤ c ∧ c ≤ 1114111 ∧ c ≠ 34 ∧ c ≠ 120 := by
  obtain ⟨q, hq⟩ := Int.eq_ofNat_of_zero_le (Int.emod_nonneg (n / 8) (by decide : (17 : Int) ≠ 0))
  obtain ⟨r, hr⟩ := Int.eq_ofNat_of_zero_le (Int.emod_nonneg n (by decide : (8 : Int) ≠ 0))
  have h1 : q < 17 := Int.ofNat_lt.mp (hq ▸ Int.emod_lt_of_pos (n / 8) (by decide))
  have h2 : r < 8 := Int.ofNat_lt.mp (hr ▸ Int.emod_lt_of_pos n (by decide))
  refine ⟨65536 * q + placesN.getD r 0, ?_, code_chk q h1 r h2⟩
  unfold codeOf
  rw [hq, hr, Int.toNat_natCast, places_cast r h2]
  rfl
set_option maxHeartbeats 8000000 in
theorem st3c : P3 cS := by
  k_with_none
  w_top off
  k_with "own subscriptTail Name Constant ref int" => (k_here; (with_reducible show wpAny _ _ (subscriptTail _ _ (Value.ref _) (Value.int _ _)) _ _ _); k_dflt (refine item_litK (by is_list) (by decide) (by decide) (by rfl) ?_ (by with_unfolding_all rfl)))
  k_with "own call ref" => (k_here; k_dflt (refine call_aI (sp_code _ _ _ _ _ _ (by first | assumption | omega) (by first | assumption | omega)) ?_; intro t' h' tk' F' N'; (try k_sweep); (try dsimp only); (try k_fold)))
  unfold P3 II4 CC3
  intro H cx F N ecells dbase dturn dmark dports dtold danswers dneeds ddues dtotal deven dsome dseen a0 a1 a2 a3 b0 b1 b2 b3 hb8 hb0 hb1 hFin
  have H9 := fun (h' : Heap) (tk' : Nat) (m' : Str → Option Value) (c : Nat) (tC : Tok) => H { cS with s := { cS.s with heap := h', toks := tk' }, m := m', c := c, tC := tC }
  dsimp only [CC4] at H9
  clear H
  have cx0 := cx
  obtain ⟨hd, hu, B', X', T'⟩ := cx
  have F := fr_top F (ecells)
  refine' law_go ?hq ?hs ?hc ?hb ?_
  case hq => exact rfl
  case hs => (conv => lhs; whnf)
  case hc => (conv => lhs; whnf)
  case hb => exact rfl
  (try dsimp only)
  (try k_fold)
  k_steps
  (rename Fr _ _ _ _ => F9); (rename News _ _ _ _ => N9)
  obtain ⟨c, hcode, hc64, hc111, hc34, hc120⟩ := code_facts cS.c3
  rw [hcode] at F9
  exact H9 _ _ _ c _ cx0 F9 N9 rfl rfl dbase dturn dmark dports dtold danswers dneeds ddues dtotal deven dsome dseen a0 a1 a2 a3 b0 b1 b2 b3 hb8 hb0 hb1 hc64 hc111 hc34 hc120 hFin
end

-- S4
section
set_option maxHeartbeats 8000000 in
theorem st4c : P4 cS := by
  k_with_none
  w_top off
  k_with "own storeName" => (k_here; k_dflt (refine storeN (by k_asm) (by k_asm) (by exact rfl) (by (repeat' first | ((with_reducible apply NcU.skip); exact rfl) | ((with_reducible apply NcU.cells); exact nodup_cells _) | (with_reducible apply NdU.head) | (with_reducible apply NdU.tail))) (by k_asm) ?_ (by exact rfl) (by exact rfl)); intro h' o' F' N' d'; (try dsimp only at N'); (try k_sweep); (try dsimp only))
  unfold P4 II5 CC4
  intro H cx F N ecells ecode dbase dturn dmark dports dtold danswers dneeds ddues dtotal deven dsome dseen a0 a1 a2 a3 b0 b1 b2 b3 hb8 hb0 hb1 hc64 hc111 hc34 hc120 hFin
  have H9 := fun (h' : Heap) (tk' : Nat) (m' : Str → Option Value) (oMark' : Obj) (tM : Tok) => H { cS with s := { cS.s with heap := h', toks := tk' }, m := m', oMark := oMark', tM := tM }
  dsimp only [CC5] at H9
  clear H
  have cx0 := cx
  obtain ⟨hd, hu, B', X', T'⟩ := cx
  have F := fr_top F (ecells)
  have F := fr_top F ((if_neg (by decide)).trans (ecode))
  refine' law_go ?hq ?hs ?hc ?hb ?_
  case hq => exact rfl
  case hs => (conv => lhs; whnf)
  case hc => (conv => lhs; whnf)
  case hb => exact rfl
  (try dsimp only)
  (try k_fold)
  k_steps
  (rename Fr _ _ _ _ => F9); (rename News _ _ _ _ => N9)
  (rename Obj.data _ = Data.cell (some (Value.str _ _)) => d9); rw [Int.toNat_natCast] at d9
  exact H9 _ _ _ _ _ cx0 F9 N9 rfl rfl dbase dturn d9 dports dtold danswers dneeds ddues dtotal deven dsome dseen a0 a1 a2 a3 b0 b1 b2 b3 hb8 hb0 hb1 hc64 hc111 hc34 hc120 hFin
end

-- S5
section
set_option maxHeartbeats 8000000 in
theorem st5c : P5 cS := by
  k_with_none
  w_top off
  k_with "own binaryOp Mod int int" => (k_here; (with_reducible refine mod_e ?_ ?_); (focus (first | decide | omega)); intro k')
  k_with "own binaryOp FloorDiv int int" => (k_here; (with_reducible refine div_e ?_ ?_ ?_); (focus (first | decide | omega)); (focus (exact PyProof.noPylong_small (by first | decide | omega))); intro k')
  k_with "own subscriptTail Name Constant ref int" => (k_here; (with_reducible show wpAny _ _ (subscriptTail _ _ (Value.ref _) (Value.int _ _)) _ _ _); k_dflt (refine item_litK (by is_list) (by decide) (by decide) (by rfl) ?_ (by with_unfolding_all rfl)))
  k_with "own newList" => (k_here; (rename Fr _ _ _ _ => F9'); (rename News _ _ _ _ => N9'); k_dflt (refine newList_ne F9' N9' (by rfl) ?_); intro l' h' F' N' q'; (try k_sweep))
  k_with "own subscriptTail" => (k_here; (with_reducible show wpAny _ _ (subscriptTail _ _ (Value.ref _) (Value.int _ _)) _ _ _); k_dflt (refine item_litK (News.isList (by k_asm) (by k_mem)) (by decide) (by decide) (by rfl) ?_ (by with_unfolding_all rfl)))
  unfold P5 II6 CC5
  intro H cx F N ecells ecode dbase dturn dmark dports dtold danswers dneeds ddues dtotal deven dsome dseen a0 a1 a2 a3 b0 b1 b2 b3 hb8 hb0 hb1 hc64 hc111 hc34 hc120 hFin
  have H9 := fun (h' : Heap) (tk' : Nat) (m' : Str → Option Value) (tl : Str) (tTl : Tok) => H { cS with s := { cS.s with heap := h', toks := tk' }, m := m', tl := tl, tTl := tTl }
  dsimp only [CC6] at H9
  clear H
  have cx0 := cx
  obtain ⟨hd, hu, B', X', T'⟩ := cx
  have F := fr_top F (ecells)
  have F := fr_top F ((if_neg (by decide)).trans (ecode))
  refine' law_go ?hq ?hs ?hc ?hb ?_
  case hq => exact rfl
  case hs => (conv => lhs; whnf)
  case hc => (conv => lhs; whnf)
  case hb => exact rfl
  (try dsimp only)
  (try k_fold)
  generalize hx3 : cS.c3 = x3 at *
  k_steps
  all_goals ((rename Fr _ _ _ _ => F9); (rename News _ _ _ _ => N9))
  · exact H9 _ _ _ _ _ cx0 F9 (fun p hp => N9 p (.tail _ hp)) rfl rfl rfl dbase dturn dmark dports dtold danswers dneeds ddues dtotal deven dsome dseen a0 a1 a2 a3 b0 b1 b2 b3 hb8 hb0 hb1 hc64 hc111 hc34 hc120 (tail0 hc34) (by decide) hFin
  · exact H9 _ _ _ _ _ cx0 F9 (fun p hp => N9 p (.tail _ hp)) rfl rfl rfl dbase dturn dmark dports dtold danswers dneeds ddues dtotal deven dsome dseen a0 a1 a2 a3 b0 b1 b2 b3 hb8 hb0 hb1 hc64 hc111 hc34 hc120 (tail1 hc34) (by decide) hFin
  · exact H9 _ _ _ _ _ cx0 F9 (fun p hp => N9 p (.tail _ hp)) rfl rfl rfl dbase dturn dmark dports dtold danswers dneeds ddues dtotal deven dsome dseen a0 a1 a2 a3 b0 b1 b2 b3 hb8 hb0 hb1 hc64 hc111 hc34 hc120 (tail2 hc34) (by decide) hFin
  · exact H9 _ _ _ _ _ cx0 F9 (fun p hp => N9 p (.tail _ hp)) rfl rfl rfl dbase dturn dmark dports dtold danswers dneeds ddues dtotal deven dsome dseen a0 a1 a2 a3 b0 b1 b2 b3 hb8 hb0 hb1 hc64 hc111 hc34 hc120 (tail3 hc34) (by decide) hFin
end

-- S6
section
set_option maxHeartbeats 8000000 in
theorem st6c : P6 cS := by
  k_with_none
  w_top off
  k_with "own binaryOp Mod int int" => (k_here; (with_reducible refine mod_e ?_ ?_); (focus (first | decide | omega)); intro k')
  k_with "own subscriptTail Name Constant ref int" => (k_here; (with_reducible show wpAny _ _ (subscriptTail _ _ (Value.ref _) (Value.int _ _)) _ _ _); k_dflt (refine item_litK (by is_list) (by decide) (by decide) (by rfl) ?_ (by with_unfolding_all rfl)))
  unfold P6 II7 CC6
  intro H cx F N ecells ecode etail dbase dturn dmark dports dtold danswers dneeds ddues dtotal deven dsome dseen a0 a1 a2 a3 b0 b1 b2 b3 hb8 hb0 hb1 hc64 hc111 hc34 hc120 htl hll hFin
  have H9 := fun (h' : Heap) (tk' : Nat) (m' : Str → Option Value) (av : Int) (tA : Tok) => H { cS with s := { cS.s with heap := h', toks := tk' }, m := m', av := av, tA := tA }
  dsimp only [CC7] at H9
  clear H
  have cx0 := cx
  obtain ⟨hd, hu, B', X', T'⟩ := cx
  have F := fr_top F (ecells)
  have F := fr_top F ((if_neg (by decide)).trans (ecode))
  have F := fr_top F ((if_neg (by decide)).trans ((if_neg (by decide)).trans (etail)))
  refine' law_go ?hq ?hs ?hc ?hb ?_
  case hq => exact rfl
  case hs => (conv => lhs; whnf)
  case hc => (conv => lhs; whnf)
  case hb => exact rfl
  (try dsimp only)
  (try k_fold)
  k_steps
  (rename Fr _ _ _ _ => F9); (rename News _ _ _ _ => N9)
  exact H9 _ _ _ _ _ cx0 F9 N9 rfl rfl rfl rfl dbase dturn dmark dports dtold danswers dneeds ddues dtotal deven dsome dseen a0 a1 a2 a3 b0 b1 b2 b3 hb8 hb0 hb1 hc64 hc111 hc34 hc120 htl hll (by omega) (by omega) (by omega) hFin
end

-- S7
section
set_option maxHeartbeats 8000000 in
theorem st7c : P7 cS := by
  k_with_none
  w_top off
  k_with "own binaryOp Mod int int" => (k_here; (with_reducible refine mod_e ?_ ?_); (focus (first | decide | omega)); intro k')
  k_with "own subscriptTail Name Constant ref int" => (k_here; (with_reducible show wpAny _ _ (subscriptTail _ _ (Value.ref _) (Value.int _ _)) _ _ _); k_dflt (refine item_litK (by is_list) (by decide) (by decide) (by rfl) ?_ (by with_unfolding_all rfl)))
  unfold P7 II8 CC7
  intro H cx F N ecells ecode etail ea dbase dturn dmark dports dtold danswers dneeds ddues dtotal deven dsome dseen a0 a1 a2 a3 b0 b1 b2 b3 hb8 hb0 hb1 hc64 hc111 hc34 hc120 htl hll ha2 ha0 ha1 hFin
  have H9 := fun (h' : Heap) (tk' : Nat) (m' : Str → Option Value) (bb : Int) (tBb : Tok) => H { cS with s := { cS.s with heap := h', toks := tk' }, m := m', bb := bb, tBb := tBb }
  dsimp only [CC8] at H9
  clear H
  have cx0 := cx
  obtain ⟨hd, hu, B', X', T'⟩ := cx
  have F := fr_top F (ecells)
  have F := fr_top F ((if_neg (by decide)).trans (ecode))
  have F := fr_top F ((if_neg (by decide)).trans ((if_neg (by decide)).trans (etail)))
  have F := fr_top F ((if_neg (by decide)).trans ((if_neg (by decide)).trans ((if_neg (by decide)).trans (ea))))
  refine' law_go ?hq ?hs ?hc ?hb ?_
  case hq => exact rfl
  case hs => (conv => lhs; whnf)
  case hc => (conv => lhs; whnf)
  case hb => exact rfl
  (try dsimp only)
  (try k_fold)
  k_steps
  (rename Fr _ _ _ _ => F9); (rename News _ _ _ _ => N9)
  exact H9 _ _ _ _ _ cx0 F9 N9 rfl rfl rfl rfl rfl dbase dturn dmark dports dtold danswers dneeds ddues dtotal deven dsome dseen a0 a1 a2 a3 b0 b1 b2 b3 hb8 hb0 hb1 hc64 hc111 hc34 hc120 htl hll ha2 ha0 ha1 (by omega) (by omega) (by omega) hFin
end

-- S8
section
theorem prod_facts {a b : Int} (ha2 : a % 2 = 1) (ha0 : -4096 < a) (ha1 : a < 4096) (hb2 : b % 2 = 1) (hb0 : -4096 < b) (hb1 : b < 4096) : a * b % 2 = 1 ∧ -(2 ^ 24) < a * b ∧ a * b < 2 ^ 24 := by
  refine ⟨by rw [Int.mul_emod, ha2, hb2]; rfl, ?_⟩
  have h1 : (a * b).natAbs ≤ 4095 * 4095 := by
    rw [Int.natAbs_mul]
    exact Nat.mul_le_mul (by omega) (by omega)
  omega
set_option maxHeartbeats 8000000 in
theorem st8c : P8 cS := by
  k_with_none
  w_top off
  k_with "own newList" => (k_here; (rename Fr _ _ _ _ => F9'); (rename News _ _ _ _ => N9'); k_dflt (refine newList_ne F9' N9' (by rfl) ?_); intro l' h' F' N' q'; (try k_sweep))
  k_with "own storeName" => (k_here; k_dflt (refine storeN (by k_asm) (by k_asm) (by exact rfl) (by (repeat' first | ((with_reducible apply NcU.skip); exact rfl) | ((with_reducible apply NcU.cells); exact nodup_cells _) | (with_reducible apply NdU.head) | (with_reducible apply NdU.tail))) (by k_asm) ?_ (by exact rfl) (by exact rfl)); intro h' o' F' N' d'; (try dsimp only at N'); (try k_sweep); (try dsimp only))
  unfold P8 II9 CC8
  intro H cx F N ecells ecode etail ea eb dbase dturn dmark dports dtold danswers dneeds ddues dtotal deven dsome dseen a0 a1 a2 a3 b0 b1 b2 b3 hb8 hb0 hb1 hc64 hc111 hc34 hc120 htl hll ha2 ha0 ha1 hd2 hd0 hd1 hFin
  have H9 := fun (h' : Heap) (tk' : Nat) (m' : Str → Option Value) (oPorts' : Obj) (pv : Int) (Dp : Addr) (zp : Nat) (u0 u1 u2 u3 : Tok) => H { cS with s := { cS.s with heap := h', toks := tk' }, m := m', oPorts := oPorts', pv := pv, Dp := Dp, zp := zp, u0 := u0, u1 := u1, u2 := u2, u3 := u3 }
  dsimp only [CC9] at H9
  clear H
  have cx0 := cx
  obtain ⟨hd, hu, B', X', T'⟩ := cx
  have F := fr_top F (ecells)
  have F := fr_top F ((if_neg (by decide)).trans (ecode))
  have F := fr_top F ((if_neg (by decide)).trans ((if_neg (by decide)).trans (etail)))
  have F := fr_top F ((if_neg (by decide)).trans ((if_neg (by decide)).trans ((if_neg (by decide)).trans (ea))))
  have F := fr_top F ((if_neg (by decide)).trans ((if_neg (by decide)).trans ((if_neg (by decide)).trans ((if_neg (by decide)).trans (eb)))))
  refine' law_go ?hq ?hs ?hc ?hb ?_
  case hq => exact rfl
  case hs => (conv => lhs; whnf)
  case hc => (conv => lhs; whnf)
  case hb => exact rfl
  (try dsimp only)
  (try k_fold)
  k_steps
  (rename Fr _ _ _ _ => F9); (rename News _ _ _ _ => N9)
  have hp9 := prod_facts ha2 ha0 ha1 hd2 hd0 hd1
  (rename Obj.data _ = Data.cell (some (Value.ref _)) => d9)
  exact H9 _ _ _ _ _ _ _ _ _ _ _ cx0 F9 N9 rfl rfl rfl rfl dbase dturn dmark d9 dtold danswers dneeds ddues dtotal deven dsome dseen a0 a1 a2 a3 b0 b1 b2 b3 hb8 hb0 hb1 hc64 hc111 hc34 hc120 htl hll ha2 ha0 ha1 hd2 hd0 hd1 rfl hp9.1 hp9.2.1 hp9.2.2 hFin
end

-- X_p229
section
theorem item_own {prog : Program} {w : World} {A : Around} {E : Value → Shared → Prop} {s : Shared} {value slice : Expr} {x y : Str} {t u : Tok} {i : Int} {Q : Value → Shared → Prop} (e : Txt.item x i = y) (h0 : 0 ≤ i) (h1 : i < x.length) (hx : x.length ≤ 400) (h : Q (.str y s.toks) { s with toks := s.toks + 1 })
    (hs : subscripted slice false (.str x t) (.int i u) = operate [.str x t, .int i u] (getItem (.str x t) (.int i u)) := by with_unfolding_all rfl)
    (ht : ∀ r, letTemporaryGo value (.str x t) r = pure () := by intro _; with_unfolding_all rfl) :
    wpAny (model prog w) A (subscriptTail value slice (.str x t) (.int i u)) Q E s := by
  subst e
  exact item_str (fitsSsize_of (N := 9223372036854775808) (by omega) (by omega) (Int.le_refl _)) (by omega) (by omega) (fun _ => h) hs ht

theorem third_of {l : List (Str × Tok)} {x y a0 a1 a2 s a4 z : Str} (hm : List.map (fun x => x.1) l = Txt.split x y) (h6 : Txt.split x y = [a0, a1, a2, s, a4]) (hq : (List.map (fun x => x.1) l)[Int.toNat 3]? = some z) : s = z := by
  rw [hm, h6] at hq; exact Option.some.inj hq
theorem dead_of {l : List (Str × Tok)} {x y a0 a1 a2 s a4 : Str} (hm : List.map (fun x => x.1) l = Txt.split x y) (h6 : Txt.split x y = [a0, a1, a2, s, a4]) (hq : (l.length : Int) ≠ 5) : False := by
  rw [h6] at hm
  have := congrArg List.length hm
  simp at this
  omega
set_option maxHeartbeats 4000000 in
theorem sp_p229 (w : World) (mean : ExcName → Option Value) (mg mb : Str → Option Value) (x y a0 a1 a2 a3 a4 : Str) (c : Nat) (n : Int) (k : Addr) (i : Int) (ta tb tc : Tok) (hx : x.length ≤ 400) (h1 : (Txt.slice x none (some 3) != Str.ofString "229") = false) (h2 : 0 ≤ Txt.find x (Str.ofString "(")) (h2b : ¬ Txt.find x (Str.ofString "(") < 0) (h3 : Txt.find x (Str.ofString "(") + 1 < Txt.find3 x (Str.ofString ")") (Txt.find x (Str.ofString "(") + 1)) (h3a : ¬ Txt.find3 x (Str.ofString ")") (Txt.find x (Str.ofString "(") + 1) < 0) (h3b : Txt.find3 x (Str.ofString ")") (Txt.find x (Str.ofString "(") + 1) < x.length) (h4 : Txt.item x (Txt.find x (Str.ofString "(") + 1) = ⟨#[c]⟩) (h5 : Txt.item x (Txt.find3 x (Str.ofString ")") (Txt.find x (Str.ofString "(") + 1) - 1) = ⟨#[c]⟩) (hcc : ((⟨#[c]⟩ : Str) != ⟨#[c]⟩) = false) (h6 : Txt.split (Txt.slice x (some (Txt.find x (Str.ofString "(") + 1)) (some (Txt.find3 x (Str.ofString ")") (Txt.find x (Str.ofString "(") + 1)))) ⟨#[c]⟩ = [a0, a1, a2, a3, a4]) (h7 : PySem.intText? a3 = some n) (h8 : a3.length ≤ 400) :
    Spec w mean mg mb 65 1 3 [.str x ta, .ref k] (fun h => h.IsTuple k #[.str y tb, .int i tc]) (fun h h' v => ∃ D t, v = .ref D ∧ h'.get? D = some { cls := .type "tuple", data := .seq #[.str y tb, .int n t] } ∧ h.get? D = none) := by
  k_with_none
  w_top off
  k_with "own subscriptTail Name BinOp str int" => (k_here; refine item_own (by assumption) (by omega) (by omega) (by assumption) ?_)
  k_with "own call type:int" => (k_here; (with_reducible show wpAny _ _ (call (Value.type "int") [Value.str _ _]) _ _ _); (have hz := third_of (by assumption : List.map _ _ = Txt.split _ _) (by assumption) (by assumption)); subst hz; (refine KIN.call_text (by with_reducible assumption) (by omega) ?_))
  k_with "own ite" => (k_here; first | refine ite_t (by assumption) ?_ | refine ite_f (by assumption) ?_ | refine ite_fb (by assumption) ?_)
  unfold Spec
  intro dp un gd outer base s R B X T hd hu hpre hret
  k_dflt (refine' enter ?k1 ?k2 ?k3 ?k6 ?k7 ?k8 ?k9 ?kB ?_ ?c2 ?c3 ?c4 ?c5; (case k1 => exact B); (case k2 => exact X); (case k3 => exact T); (case k6 => k_is); (case k7 => k_is); (case k8 => ktr_room); (case k9 => exact BindsTo.of_eq rfl); (case c5 => decide); (case kB => exact locs rfl); (case c2 => exact rfl); (case c3 => exact rfl); (case c4 => exact rfl); k_whole)
  clear B X T
  intro g' L' h' hg B' X' T' F' N'
  w_binds F'
  (try dsimp only)
  (try dsimp only at hpre)
  (try rw [hg] at hpre)
  (try k_fold)
  k_steps
  all_goals (first | (exfalso; exact dead_of (by assumption : List.map _ _ = Txt.split _ _) (by assumption) (by assumption)) | skip)
  all_goals (subst hg; (try dsimp only); refine hret _ _ _ (Fr.keep (by assumption)) ?_)
  all_goals (refine ⟨_, _, rfl, got_new (by assumption) rfl, new_none (h := _) (by assumption)⟩)
end

-- X_reply
section
theorem mul4 {prog : Program} {w : World} {A : Around} {E : Value → Shared → Prop} {s : Shared} {Q : Value → Shared → Prop} {c : Nat} {t u : Tok} (h : ∀ t' k, Q (.str ⟨#[c, c, c, c]⟩ t') { s with toks := k }) : wpAny (model prog w) A (binaryOp .Mult (.str ⟨#[c]⟩ t) (.int 4 u)) Q E s := by
  refine PySem.SB.mul (n := 4) ⟨by decide, fun _ _ => by show ¬ ((1 : Int) > _); decide, fun _ _ => by show Builtin.Str.tooLong (1 * 4) = false; decide⟩ h

def replyS (n : Int) (c : Nat) : Str := Str.ofString "229 ok) (" ++ ⟨#[c]⟩ ++ Str.ofString "7" ++ ⟨#[c]⟩ ++ Str.ofString "9" ++ ⟨#[c]⟩ ++ Str.ofString (toString n) ++ ⟨#[c]⟩ ++ Str.ofString ") (" ++ ⟨#[c, c, c, c]⟩ ++ Str.ofString ")"
set_option genInjectivity false in
structure ZVreply where
  w : World
  mean : ExcName → Option Value
  mg : Str → Option Value
  mb : Str → Option Value
  n : Int
  c : Nat
  ta : Tok
  tb : Tok
  dp : Nat
  un : Nat
  gd : Option (List Code)
  outer : List Env
  base : Heap
  s : Shared
  R : Result → Shared → Prop
def PZreply (zv : ZVreply) : Prop := (-2^40 < zv.n) → (zv.n < 2^40) → Below (topA zv.dp zv.un zv.gd zv.outer) zv.base zv.outer zv.s.heap → Frag.In (Mine.hd.heap_39 zv.w.params) zv.s.heap → Top Mine.hd.view_39 (looseW Mine.hd.view_39 []) zv.mean zv.mg zv.mb zv.s.heap →
    zv.dp + 1 < recursionLimit → zv.un + 3 < cLine → (fun _ => True) zv.s.heap →
    (∀ r h' tk', (∀ b o, zv.s.heap.get? b = some o → h'.get? b = some o) → (fun _ _ v => ∃ t, v = .str (replyS zv.n zv.c) t) zv.s.heap h' r → zv.R (.ok (.ret r)) (Shared.mk h' zv.s.gens zv.s.drawn tk' zv.s.os)) →
    codeAny (model PySem.Challenge.pw_yf0007_01 zv.w) (topA zv.dp zv.un zv.gd zv.outer) (.call (.ref 156) ⟨[.int zv.n zv.ta, .str ⟨#[zv.c]⟩ zv.tb], []⟩) zv.R zv.s
def aZVreply : ZVreply where
  w := aWorld
  mean := fun _ => none
  mg := fun _ => none
  mb := fun _ => none
  n := 0
  c := 0
  ta := 0
  tb := 0
  dp := 0
  un := 0
  gd := none
  outer := []
  base := {}
  s := {}
  R := fun _ _ => True
@[irreducible] noncomputable def cZreply : ZVreply := eps aZVreply PZreply
set_option maxHeartbeats 4000000 in
theorem st_reply : PZreply cZreply := by
  k_with_none
  w_top off
  k_with "own my_len" => (repeat' first | (with_reducible refine len_half ?_ ?_) | (with_reducible refine len_slice_le ?_) | (k_dflt exact fits14 (by with_reducible assumption) rfl) | (k_dflt exact Nat.le_of_ble_eq_true rfl))
  k_with "own binaryOp Add str str" => (k_here; (with_reducible show wpAny _ _ (binaryOp Operator.Add (Value.str _ _) (Value.str _ _)) _ _ _); (refine add_ownB ?_ ?_ ?_); (focus walk_at "my_len"); (focus walk_at "my_len"); intro t' k')
  k_with "own binaryOp Mult str int" => (k_here; refine mul4 ?_; intro t' k')
  unfold PZreply
  intro h0 h1 B X T hd hu hpre hret
  have hnl := num_len h0 h1
  k_dflt (refine' enterE ?k1 ?k2 ?k3 ?k6 ?k7 ?k8 ?k9 ?kB ?_ ?c2 ?c3 ?c4 ?c5; (case k1 => exact B); (case k2 => exact X); (case k3 => exact T); (case k6 => k_is); (case k7 => k_is); (case k8 => ktr_room); (case k9 => exact BindsTo.of_eq rfl); (case c5 => decide); (case kB => exact locs rfl); (case c2 => exact rfl); (case c3 => exact rfl); (case c4 => exact rfl); k_whole)
  clear B X T
  intro h' B' X' T' F' N'
  w_binds F'
  (try dsimp only)
  (try dsimp only at hpre)
  (try k_fold)
  k_steps
  all_goals ((try dsimp only); refine hret _ _ _ (Fr.keep (by assumption)) ?_)
  all_goals (exact ⟨_, rfl⟩)
theorem sp_reply (w : World) (mean : ExcName → Option Value) (mg mb : Str → Option Value) (n : Int) (c : Nat) (ta tb : Tok) (h0 : -2^40 < n) (h1 : n < 2^40) :
    Spec w mean mg mb 156 1 3 [.int n ta, .str ⟨#[c]⟩ tb] (fun _ => True) (fun _ _ v => ∃ t, v = .str (replyS n c) t) := by
  have eZ : cZreply = eps aZVreply PZreply := by unfold cZreply; rfl
  have hZ := st_reply
  rw [eZ] at hZ
  unfold Spec
  intro dp un gd outer base s R
  exact eps_all hZ (ZVreply.mk w mean mg mb n c ta tb dp un gd outer base s R) h0 h1
end

-- P229R
section
theorem reply_list (n : Int) (c : Nat) : (replyS n c).cps.toList = (50 :: 50 :: 57 :: [32, 111, 107, 41, 32]) ++ 40 :: ((c :: 55 :: c :: 57 :: c :: ((numS n).cps.toList ++ [c])) ++ 41 :: [32, 40, c, c, c, c, 41]) := by
  unfold replyS
  simp only [app_list, List.append_assoc, List.cons_append, List.nil_append]; rfl
theorem five_list {l : List Str} {a b c d e : List Nat} (h : l.map (fun y => y.cps.toList) = [a, b, c, d, e]) : ∃ s0 s1 s2 s3 s4, l = [s0, s1, s2, s3, s4] ∧ s3.cps.toList = d := by
  match l, h with
  | [s0, s1, s2, s3, s4], h =>
    simp only [List.map_cons, List.map_nil, List.cons.injEq] at h
    exact ⟨s0, s1, s2, s3, s4, rfl, h.2.2.2.1⟩
set_option maxHeartbeats 1000000 in
theorem sp_told (w : World) (mean : ExcName → Option Value) (mg mb : Str → Option Value) (n : Int) (c : Nat) (y : Str) (k : Addr) (i : Int) (ta tb tc : Tok) (h0 : -(10^10) < n) (h1 : n < 10^10) (hc : 64 ≤ c) :
    Spec w mean mg mb 65 1 3 [.str (replyS n c) ta, .ref k] (fun h => h.IsTuple k #[.str y tb, .int i tc]) (fun h h' v => ∃ D t, v = .ref D ∧ h'.get? D = some { cls := .type "tuple", data := .seq #[.str y tb, .int n t] } ∧ h.get? D = none) := by
  have hD : (numS n).cps.toList.length ≤ 14 := num_len14 (by omega) (by omega)
  have d41 : (41 : Nat) ∉ (numS n).cps.toList := num_no (by decide)
  have dc : c ∉ (numS n).cps.toList := num_no (by omega)
  have e := reply_list n c
  have n41 : (41 : Nat) ≠ c := by omega
  have n55 : (55 : Nat) ≠ c := by omega
  have n57 : (57 : Nat) ≠ c := by omega
  obtain ⟨hf, hr, hcd, hl⟩ := both e (by decide) (by simp only [List.cons_append, List.mem_cons, List.mem_append, List.not_mem_nil, or_false, d41, n41, false_or]; simp; try omega)
  generalize hx : replyS n c = x at *
  have i1 : Txt.item x (Txt.find x (Str.ofString "(") + 1) = ⟨#[c]⟩ := by
    rw [hf]
    exact item_at (k := 9) (pre := (50 :: 50 :: 57 :: [32, 111, 107, 41, 32]) ++ [40]) (post := 55 :: c :: 57 :: c :: ((numS n).cps.toList ++ [c]) ++ 41 :: [32, 40, c, c, c, c, 41]) (by rw [e]; simp) rfl
  have i2 : Txt.item x (Txt.find3 x (Str.ofString ")") (Txt.find x (Str.ofString "(") + 1) - 1) = ⟨#[c]⟩ := by
    rw [hr, show ((([32, 111, 107, 41, 32] : List Nat).length + 4 + (c :: 55 :: c :: 57 :: c :: ((numS n).cps.toList ++ [c])).length : Nat) : Int) - 1 = ((14 + (numS n).cps.toList.length : Nat) : Int) by simp only [List.length_cons, List.length_append, List.length_nil]; omega]
    exact item_at (pre := (50 :: 50 :: 57 :: [32, 111, 107, 41, 32]) ++ 40 :: c :: 55 :: c :: 57 :: c :: (numS n).cps.toList) (post := 41 :: [32, 40, c, c, c, c, 41]) (by rw [e]; simp) (by simp only [List.length_append, List.length_cons, List.length_nil]; omega)
  have hs : (Txt.slice x (some (Txt.find x (Str.ofString "(") + 1)) (some (Txt.find3 x (Str.ofString ")") (Txt.find x (Str.ofString "(") + 1)))).cps.toList = c :: 55 :: c :: 57 :: c :: ((numS n).cps.toList ++ [c]) := by
    rw [hr, hf]
    exact slice_at (i := 9) (pre := (50 :: 50 :: 57 :: [32, 111, 107, 41, 32]) ++ [40]) (post := 41 :: [32, 40, c, c, c, c, 41]) (by rw [e]; simp) rfl rfl
  have h6 := split_at (x := Txt.slice x (some (Txt.find x (Str.ofString "(") + 1)) (some (Txt.find3 x (Str.ofString ")") (Txt.find x (Str.ofString "(") + 1)))) (c := c) (by rw [hs]; exact .head _)
  rw [hs, splitA_sign, splitA, if_neg n55, splitA_sign, splitA, if_neg n57, splitA_sign, splitA_app _ _ dc, splitA_sign, splitA] at h6
  obtain ⟨s0, s1, s2, s3, s4, hsp, h3⟩ := five_list h6
  have e3 : s3 = numS n := ext_list (by rw [h3]; rfl)
  subst e3
  have hl2 : x.length = 23 + (numS n).cps.toList.length := by rw [len_toList, e]; simp only [List.length_cons, List.length_append, List.length_nil]; omega
  simp only [List.length_cons, List.length_append, List.length_nil] at hr hf
  refine sp_p229 w mean mg mb x y s0 s1 s2 (numS n) s4 c n k i ta tb tc (by omega) hcd (by rw [hf]; decide) (by rw [hf]; decide) ?_ ?_ ?_ i1 i2 (by simp) hsp (num_back h0 h1) (by rw [len_toList]; omega)
  · rw [hr, hf]; omega
  · rw [hr]; omega
  · rw [hr]; omega
end

-- S9
section
theorem spN_told (w : World) (mean : ExcName → Option Value) (mg mb : Str → Option Value) (n : Int) (c : Nat) (k : Addr) (ta tb tc : Tok) (h0 : -(2^25) < n) (h1 : n < 2^25) (hc : 64 ≤ c) :
    Spec w mean mg mb 65 1 3 [.str (replyS n c) ta, .ref k] (fun h => h.IsTuple k #[.str (Str.ofString "h" ++ Str.ofString (toString n)) tb, .int 21 tc]) (NewP fun o => ∃ t u, o = tupO n t u) :=
  spec_weak (sp_told w mean mg mb n c _ k 21 ta tb tc (by omega) (by omega) hc) fun h h' v q => by
    obtain ⟨D, t, rfl, hD, hn⟩ := q
    exact ⟨D, _, rfl, hD, hn, _, _, rfl⟩
set_option maxHeartbeats 8000000 in
theorem st9c : P9 cS := by
  k_with_none
  w_top off
  k_with "own newTuple" => (k_here; (rename Fr _ _ _ _ => F9'); (rename News _ _ _ _ => N9'); k_dflt (refine newTuple_ne F9' N9' (by rfl) ?_); intro l' h' F' N' q'; (try k_sweep))
  k_with "own storeName" => (k_here; k_dflt (refine storeN (by k_asm) (by k_asm) (by exact rfl) (by (repeat' first | ((with_reducible apply NcU.skip); exact rfl) | ((with_reducible apply NcU.cells); exact nodup_cells _) | (with_reducible apply NdU.head) | (with_reducible apply NdU.tail))) (by k_asm) ?_ (by exact rfl) (by exact rfl)); intro h' o' F' N' d'; (try dsimp only at N'); (try k_sweep); (try dsimp only))
  k_with "own call ref" => (k_here; k_dflt (refine call_aS (sp_reply _ _ _ _ _ _ _ _ (by first | assumption | omega) (by first | assumption | omega)) ?_; intro t' h' tk' F' N'; (try k_sweep); (try dsimp only); (try k_fold)))
  k_with "own call ref" => (k_here; k_dflt (refine call_specN (spN_told _ _ _ _ _ _ _ _ _ _ (by omega) (by omega) (by assumption)) (by k_asm) (by k_asm) (by k_asm) (by k_asm) (by k_asm) (by exact rfl) (by exact rfl) (by exact rfl) (by first | exact room1 (by assumption) rfl | exact room0 (by assumption) rfl | omega | ((try dsimp only [topA, Around.deeper, Around.in1]); omega)) (by first | exact room1 (by assumption) rfl | exact room0 (by assumption) rfl | omega | ((try dsimp only [topA, Around.deeper, Around.in1]); omega)) (by exact ⟨_, News.get (by k_asm) (by k_mem), rfl, _, rfl⟩) ?_; intro D' o' h' tk' F' N' q' p'; (try k_sweep); (try dsimp only)))
  k_with "own CompSrc" => (k_dflt (k_extra "my CompSrc"))
  unfold P9 II10 CC9
  intro H cx F N ecells ecode etail ea dbase dturn dmark dports dtold danswers dneeds ddues dtotal deven dsome dseen a0 a1 a2 a3 b0 b1 b2 b3 hb8 hb0 hb1 hc64 hc111 hc34 hc120 htl hll ha2 ha0 ha1 hd2 hd0 hd1 hpv hp2 hp0 hp1 hFin
  have H9 := fun (h' : Heap) (tk' : Nat) (m' : Str → Option Value) (oTold' : Obj) (Dt : Addr) (zt : Nat) (X0 X1 X2 X3 : Addr) (w0 w1 w2 w3 v0 v1 v2 v3 : Tok) => H { cS with s := { cS.s with heap := h', toks := tk' }, m := m', oTold := oTold', Dt := Dt, zt := zt, X0 := X0, X1 := X1, X2 := X2, X3 := X3, w0 := w0, w1 := w1, w2 := w2, w3 := w3, v0 := v0, v1 := v1, v2 := v2, v3 := v3 }
  dsimp only [CC10] at H9
  clear H
  have cx0 := cx
  obtain ⟨hd, hu, B', X', T'⟩ := cx
  have F := fr_top F (ecells)
  have F := fr_top F ((if_neg (by decide)).trans (ecode))
  have F := fr_top F ((if_neg (by decide)).trans ((if_neg (by decide)).trans (etail)))
  have F := fr_top F ((if_neg (by decide)).trans ((if_neg (by decide)).trans ((if_neg (by decide)).trans (ea))))
  refine' law_go ?hq ?hs ?hc ?hb ?_
  case hq => exact rfl
  case hs => (conv => lhs; whnf)
  case hc => (conv => lhs; whnf)
  case hb => exact rfl
  (try dsimp only)
  (try k_fold)
  k_with "my CompSrc" => (
    (rename Fr _ _ _ _ => F8); (rename News _ _ _ _ => N8)
    refine' CompSrc.own (TTold [cS.av, cS.bb, cS.pv, cS.bv]) ?ch F8 N8 ?chm ?csz ?cturn ?cfin
    case ch => exact rfl
    case chm => k_mem
    case csz => exact rfl
    case cturn =>
      clear F8 N8
      intro g9 i9 v9 hi9 hv9
      obtain ⟨p9, t9, rfl, hp9, hp90, hp91⟩ := item4 (lo := -(2^25)) (hi := 2^25) hv9 (by omega) (by omega) (by omega) (by omega)
      clear hv9 hi9
      intro C9 oC9 m9 h9 tk9 E9 extra9 hC9 hx9 F9 N9
      simp only [List.cons_append, List.nil_append] at N9
      k_steps
      (rename Fr _ _ _ _ => F7); (rename News _ _ _ _ => N7); (rename AllNe _ _ => q7); (rename ∃ t u, _ = tupO _ t u => p7)
      obtain ⟨t7, u7, rfl⟩ := p7
      exact TEnd.one F7 N7 (.head _) (fun p hp => .tail _ (.tail _ hp)) (fun p hp => q7 p (.tail _ hp)) ⟨_, _, _, rfl, by rw [hp9]⟩
    case' cfin =>
      intro g9 ys9 res9 hr9 hy9
      obtain ⟨yy0, yy1, yy2, yy3, o0, o1, o2, o3, rfl, rfl, ⟨X0, w0, v0, rfl, rfl⟩, ⟨X1, w1, v1, rfl, rfl⟩, ⟨X2, w2, v2, rfl, rfl⟩, ⟨X3, w3, v3, rfl, rfl⟩⟩ := rows4 hr9 hy9
      clear F8 N8 hr9 hy9
      (first | unfold LCg.FinE | unfold LCg.FinA)
      intro D9 h9 tk9 F9 N9 o9
      (try simp only [List.cons_append, List.nil_append, List.append_nil, List.getD_cons_zero, List.getD_cons_succ] at N9))
  k_steps
  (rename Fr _ _ _ _ => F9); (rename News _ _ _ _ => N9)
  (rename Obj.data _ = Data.cell (some (Value.ref _)) => d9)
  exact H9 _ _ _ _ _ _ X0 X1 X2 X3 _ _ _ _ _ _ _ _ cx0 F9 (by (repeat first | exact News.nil | refine news_cons (N9 _ (by k_dflt k_mem)) ?_)) rfl rfl rfl rfl dbase dturn dmark dports d9 danswers dneeds ddues dtotal deven dsome dseen a0 a1 a2 a3 b0 b1 b2 b3 hb8 hb0 hb1 hc64 hc111 hc34 hc120 htl hll ha2 ha0 ha1 hd2 hd0 hd1 hpv hp2 hp0 hp1 hFin
end

-- S10
section
set_option maxHeartbeats 8000000 in
theorem st10c : P10 cS := by
  k_with_none
  w_top off
  k_with "own eval ListComp" => (k_here; (with_reducible show wpAny _ _ (eval (Expr.ListComp _ _ _ _) _) _ _ _); lcg_look; lcg_calm; k_dflt (refine LCg.ListComp_U (F₀ := by k_asm) (by rfl) (by decide) (by rfl) (by decide) (by rfl) ?_); k_dflt lcg_toSrc)
  k_with "own newTuple" => (k_here; (rename Fr _ _ _ _ => F9'); (rename News _ _ _ _ => N9'); k_dflt (refine newTuple_ne F9' N9' (by rfl) ?_); intro l' h' F' N' q'; (try k_sweep))
  k_with "own compareOp NotEq ref ref" => (k_here; (with_reducible show wpAny _ _ (compareOp CmpOp.NotEq (Value.ref _) (Value.ref _)) _ _ _); k_dflt (refine ne_told (by k_asm) (by k_mem) (by k_mem) (by k_mem) (by k_mem) (by k_mem) (by k_mem) (by k_mem) (by k_mem) (by k_mem) (by k_mem) (by first | exact room1 (by assumption) rfl | exact room0 (by assumption) rfl | omega | ((try dsimp only [topA, Around.deeper, Around.in1]); omega)) ?_))
  k_with "own CompSrc" => (k_dflt (k_extra "my CompSrc"))
  unfold P10 II11 CC10
  intro H cx F N ecells ecode etail ea dbase dturn dmark dports dtold danswers dneeds ddues dtotal deven dsome dseen a0 a1 a2 a3 b0 b1 b2 b3 hb8 hb0 hb1 hc64 hc111 hc34 hc120 htl hll ha2 ha0 ha1 hd2 hd0 hd1 hpv hp2 hp0 hp1 hFin
  have H9 := fun (h' : Heap) (tk' : Nat) (m' : Str → Option Value) => H { cS with s := { cS.s with heap := h', toks := tk' }, m := m' }
  dsimp only [CC11] at H9
  clear H
  have cx0 := cx
  obtain ⟨hd, hu, B', X', T'⟩ := cx
  have F := fr_top F (ecells)
  have F := fr_top F ((if_neg (by decide)).trans (ecode))
  have F := fr_top F ((if_neg (by decide)).trans ((if_neg (by decide)).trans (etail)))
  have F := fr_top F ((if_neg (by decide)).trans ((if_neg (by decide)).trans ((if_neg (by decide)).trans (ea))))
  refine' law_go ?hq ?hs ?hc ?hb ?_
  case hq => exact rfl
  case hs => (conv => lhs; whnf)
  case hc => (conv => lhs; whnf)
  case hb => exact rfl
  (try dsimp only)
  (try k_fold)
  k_with "my CompSrc" => (
    (rename Fr _ _ _ _ => F8); (rename News _ _ _ _ => N8)
    refine' CompSrc.own (TTold [cS.av, cS.bb, cS.pv, cS.bv]) ?ch F8 N8 ?chm ?csz ?cturn ?cfin
    case ch => exact rfl
    case chm => k_mem
    case csz => exact rfl
    case cturn =>
      clear F8 N8
      intro g9 i9 v9 hi9 hv9
      obtain ⟨p9, t9, rfl, hp9, hp90, hp91⟩ := item4 (lo := -(2^25)) (hi := 2^25) hv9 (by omega) (by omega) (by omega) (by omega)
      clear hv9 hi9
      intro C9 oC9 m9 h9 tk9 E9 extra9 hC9 hx9 F9 N9
      simp only [List.cons_append, List.nil_append] at N9
      k_steps
      (rename Fr _ _ _ _ => F7); (rename News _ _ _ _ => N7)
      (rename AllNe _ _ => q7)
      exact TEnd.one F7 N7 (.head _) (fun p hp => .tail _ hp) q7 ⟨_, _, _, rfl, by rw [hp9]; rfl⟩
    case' cfin =>
      intro g9 ys9 res9 hr9 hy9
      obtain ⟨yy0, yy1, yy2, yy3, o0, o1, o2, o3, rfl, rfl, ⟨Y0, s0, r0, rfl, rfl⟩, ⟨Y1, s1, r1, rfl, rfl⟩, ⟨Y2, s2, r2, rfl, rfl⟩, ⟨Y3, s3, r3, rfl, rfl⟩⟩ := rows4 hr9 hy9
      clear F8 N8 hr9 hy9
      (first | unfold LCg.FinE | unfold LCg.FinA)
      intro D9 h9 tk9 F9 N9 o9
      (try simp only [List.cons_append, List.nil_append, List.append_nil, List.getD_cons_zero, List.getD_cons_succ] at N9))
  k_steps
  (rename Fr _ _ _ _ => F9); (rename News _ _ _ _ => N9)
  exact H9 _ _ _ cx0 F9 (by (repeat first | exact News.nil | refine news_cons (N9 _ (by k_dflt k_mem)) ?_)) rfl rfl rfl rfl dbase dturn dmark dports dtold danswers dneeds ddues dtotal deven dsome dseen a0 a1 a2 a3 b0 b1 b2 b3 hb8 hb0 hb1 hc64 hc111 hc34 hc120 htl hll ha2 ha0 ha1 hd2 hd0 hd1 hpv hp2 hp0 hp1 hFin
end

-- S11
section
theorem pair_a {X : Addr} {p b : Int} {t u : Tok} : [(X, listOf [.int (p % 256) t, .int (p - b + b) u].toArray 0)] = [(X, pairO (p % 256) p t u 0)] := by
  rw [show p - b + b = p by omega]; rfl
theorem pair_b {X : Addr} {p : Int} {t u : Tok} : [(X, listOf [.int (p - 256 * (p / 256)) t, .int p u].toArray 0)] = [(X, pairO (p % 256) p t u 0)] := by
  rw [show p - 256 * (p / 256) = p % 256 by omega]; rfl
set_option maxHeartbeats 8000000 in
theorem st11c : P11 cS := by
  k_with_none
  w_top off
  k_with "own binaryOp FloorDiv int int" => (k_here; (with_reducible refine div_e ?_ ?_ ?_); (focus (first | decide | omega)); (focus (exact PyProof.noPylong_small (by first | decide | omega))); intro k')
  k_with "own eval ListComp" => (k_here; (with_reducible show wpAny _ _ (eval (Expr.ListComp _ _ _ _) _) _ _ _); lcg_look; lcg_calm; k_dflt (refine LCg.ListComp_U (F₀ := by k_asm) (by rfl) (by decide) (by rfl) (by decide) (by rfl) ?_); k_dflt lcg_toSrc)
  k_with "own eval ListComp" => (k_here; (with_reducible show wpAny _ _ (eval (Expr.ListComp _ _ _ _) _) _ _ _); lcf_look; lcg_calm; k_dflt (refine LCg.ListComp_U (F₀ := by k_asm) (by with_unfolding_all rfl) (by decide) (by rfl) (by decide) (by rfl) ?_); k_dflt lcg_toSrc)
  k_with "own call ref" => (k_here; k_dflt (refine call_aI (sp_iadd _ _ _ _ _ _ _ _) ?_; intro t' h' tk' F' N'; (try k_sweep); (try dsimp only); (try k_fold)))
  k_with "own call ref" => (k_here; k_dflt (refine call_aI (sp_imod _ _ _ _ _ _ _ _ (by first | assumption | omega)) ?_; intro t' h' tk' F' N'; (try k_sweep); (try dsimp only); (try k_fold)))
  k_with "own call ref" => (k_here; k_dflt (refine call_aI (sp_isub _ _ _ _ _ _ _ _) ?_; intro t' h' tk' F' N'; (try k_sweep); (try dsimp only); (try k_fold)))
  k_with "own newList" => (k_here; (rename Fr _ _ _ _ => F9'); (rename News _ _ _ _ => N9'); k_dflt (refine newList_ne F9' N9' (by rfl) ?_); intro l' h' F' N' q'; (try k_sweep))
  k_with "own compareOp NotEq ref ref" => (k_here; (with_reducible show wpAny _ _ (compareOp CmpOp.NotEq (Value.ref _) (Value.ref _)) _ _ _); k_dflt (refine ne_pairs (by k_asm) (by k_mem) (by k_mem) (by k_mem) (by k_mem) (by k_mem) (by k_mem) (by k_mem) (by k_mem) (by k_mem) (by k_mem) (by first | exact room1 (by assumption) rfl | exact room0 (by assumption) rfl | omega | ((try dsimp only [topA, Around.deeper, Around.in1]); omega)) ?_))
  k_with "own CompSrc" => (k_dflt (k_extra "my CompSrc"))
  unfold P11 II12 CC11
  intro H cx F N ecells ecode etail ea dbase dturn dmark dports dtold danswers dneeds ddues dtotal deven dsome dseen a0 a1 a2 a3 b0 b1 b2 b3 hb8 hb0 hb1 hc64 hc111 hc34 hc120 htl hll ha2 ha0 ha1 hd2 hd0 hd1 hpv hp2 hp0 hp1 hFin
  have H9 := fun (h' : Heap) (tk' : Nat) (m' : Str → Option Value) => H { cS with s := { cS.s with heap := h', toks := tk' }, m := m' }
  dsimp only [CC12] at H9
  clear H
  have cx0 := cx
  obtain ⟨hd, hu, B', X', T'⟩ := cx
  have F := fr_top F (ecells)
  have F := fr_top F ((if_neg (by decide)).trans (ecode))
  have F := fr_top F ((if_neg (by decide)).trans ((if_neg (by decide)).trans (etail)))
  have F := fr_top F ((if_neg (by decide)).trans ((if_neg (by decide)).trans ((if_neg (by decide)).trans (ea))))
  refine' law_go ?hq ?hs ?hc ?hb ?_
  case hq => exact rfl
  case hs => (conv => lhs; whnf)
  case hc => (conv => lhs; whnf)
  case hb => exact rfl
  (try dsimp only)
  (try k_fold)
  k_with "my CompSrc" => (first
   | (
    (rename Fr _ _ _ _ => F8); (rename News _ _ _ _ => N8)
    refine' CompSrc.own (TPair [cS.av, cS.bb, cS.pv, cS.bv]) ?ch0 F8 N8 ?chm0 ?csz0 ?cturn0 ?cfin0
    case ch0 => exact rfl
    case chm0 => k_mem
    case csz0 => exact rfl
    case cturn0 =>
      clear F8 N8
      intro g9 i9 v9 hi9 hv9
      obtain ⟨p9, t9, rfl, hp9, hp90, hp91⟩ := item4 (lo := -(2^25)) (hi := 2^25) hv9 (by omega) (by omega) (by omega) (by omega)
      clear hv9 hi9
      intro C9 oC9 m9 h9 tk9 E9 extra9 hC9 hx9 F9 N9
      simp only [List.cons_append, List.nil_append] at N9
      k_steps
      (rename Fr _ _ _ _ => F7); (rename News _ _ _ _ => N7)
      (rename AllNe _ _ => q7)
      exact TEnd.one F7 N7 (.head _) (fun p hp => .tail _ hp) q7 ⟨_, _, _, _, rfl, by rw [hp9]; first | exact pair_a | exact pair_b⟩
    case' cfin0 =>
      intro g9 ys9 res9 hr9 hy9
      obtain ⟨yy0, yy1, yy2, yy3, o0, o1, o2, o3, rfl, rfl, ⟨Y0, s0, r0, q0, rfl, rfl⟩, ⟨Y1, s1, r1, q1, rfl, rfl⟩, ⟨Y2, s2, r2, q2, rfl, rfl⟩, ⟨Y3, s3, r3, q3, rfl, rfl⟩⟩ := rows4 hr9 hy9
      clear F8 N8 hr9 hy9
      (first | unfold LCg.FinE | unfold LCg.FinA)
      intro D9 h9 tk9 F9 N9 o9
      (try simp only [List.cons_append, List.nil_append, List.append_nil, List.getD_cons_zero, List.getD_cons_succ] at N9))
   | (
    (rename Fr _ _ _ _ => F8); (rename News _ _ _ _ => N8)
    refine' CompSrc.own (TPair [cS.av, cS.bb, cS.pv, cS.bv]) ?ch1 F8 N8 ?chm1 ?csz1 ?cturn1 ?cfin1
    case ch1 => exact rfl
    case chm1 => k_mem
    case csz1 => exact rfl
    case cturn1 =>
      clear F8 N8
      intro g9 i9 v9 hi9 hv9
      obtain ⟨p9, t9, rfl, hp9, hp90, hp91⟩ := item4 (lo := -(2^25)) (hi := 2^25) hv9 (by omega) (by omega) (by omega) (by omega)
      clear hv9 hi9
      intro C9 oC9 m9 h9 tk9 E9 extra9 hC9 hx9 F9 N9
      simp only [List.cons_append, List.nil_append] at N9
      k_steps
      (rename Fr _ _ _ _ => F7); (rename News _ _ _ _ => N7)
      (rename AllNe _ _ => q7)
      exact TEnd.one F7 N7 (.head _) (fun p hp => .tail _ hp) q7 ⟨_, _, _, _, rfl, by rw [hp9]; first | exact pair_a | exact pair_b⟩
    case' cfin1 =>
      intro g9 ys9 res9 hr9 hy9
      obtain ⟨yy0, yy1, yy2, yy3, o0, o1, o2, o3, rfl, rfl, ⟨Y0, s0, r0, q0, rfl, rfl⟩, ⟨Y1, s1, r1, q1, rfl, rfl⟩, ⟨Y2, s2, r2, q2, rfl, rfl⟩, ⟨Y3, s3, r3, q3, rfl, rfl⟩⟩ := rows4 hr9 hy9
      clear F8 N8 hr9 hy9
      (first | unfold LCg.FinE | unfold LCg.FinA)
      intro D9 h9 tk9 F9 N9 o9
      (try simp only [List.cons_append, List.nil_append, List.append_nil, List.getD_cons_zero, List.getD_cons_succ] at N9)))
  k_steps
  (rename Fr _ _ _ _ => F9); (rename News _ _ _ _ => N9)
  exact H9 _ _ _ cx0 F9 (by (repeat first | exact News.nil | refine news_cons (N9 _ (by k_dflt k_mem)) ?_)) rfl rfl rfl rfl dbase dturn dmark dports dtold danswers dneeds ddues dtotal deven dsome dseen a0 a1 a2 a3 b0 b1 b2 b3 hb8 hb0 hb1 hc64 hc111 hc34 hc120 htl hll ha2 ha0 ha1 hd2 hd0 hd1 hpv hp2 hp0 hp1 hFin
end

-- S12
section
set_option maxHeartbeats 8000000 in
theorem st12c : P12 cS := by
  k_with_none
  w_top off
  k_with "own eval ListComp" => (k_here; (with_reducible show wpAny _ _ (eval (Expr.ListComp _ _ _ _) _) _ _ _); lcf_look; lcg_calm; k_dflt (refine LCg.ListComp_U (F₀ := by k_asm) (by with_unfolding_all rfl) (by decide) (by rfl) (by decide) (by rfl) ?_); k_dflt lcg_toSrc)
  k_with "own subscriptTail Name Name ref int" => (k_here; (with_reducible show wpAny _ _ (subscriptTail _ _ (Value.ref _) (Value.int _ _)) _ _ _); k_dflt (refine item_litK (by is_list) (by decide) (by decide) (by rfl) ?_ (by with_unfolding_all rfl)))
  k_with "own subscriptTail Name Constant ref int" => (k_here; (with_reducible show wpAny _ _ (subscriptTail _ _ (Value.ref _) (Value.int _ _)) _ _ _); k_dflt (refine item_litK (by is_list) (by decide) (by decide) (by rfl) ?_ (by with_unfolding_all rfl)))
  k_with "own storeName" => (k_here; k_dflt (refine storeN (by k_asm) (by k_asm) (by exact rfl) (by (repeat' first | ((with_reducible apply NcU.skip); exact rfl) | ((with_reducible apply NcU.cells); exact nodup_cells _) | (with_reducible apply NdU.head) | (with_reducible apply NdU.tail))) (by k_asm) ?_ (by exact rfl) (by exact rfl)); intro h' o' F' N' d'; (try dsimp only at N'); (try k_sweep); (try dsimp only))
  k_with "own call ref" => (k_here; k_dflt (refine call_specN (spN_answers _ _ _ _ _ _ (by omega) (by omega) (by omega) (by omega) (by omega) (by omega)) (by k_asm) (by k_asm) (by k_asm) (by k_asm) (by k_asm) (by exact rfl) (by exact rfl) (by exact rfl) (by first | exact room1 (by assumption) rfl | exact room0 (by assumption) rfl | omega | ((try dsimp only [topA, Around.deeper, Around.in1]); omega)) (by first | exact room1 (by assumption) rfl | exact room0 (by assumption) rfl | omega | ((try dsimp only [topA, Around.deeper, Around.in1]); omega)) (by exact trivial) ?_; intro D' o' h' tk' F' N' q' p'; (try k_sweep); (try dsimp only)))
  k_with "own CompSrc" => (k_dflt (k_extra "my CompSrc"))
  unfold P12 II13 CC12
  intro H cx F N ecells ecode etail ea dbase dturn dmark dports dtold danswers dneeds ddues dtotal deven dsome dseen a0 a1 a2 a3 b0 b1 b2 b3 hb8 hb0 hb1 hc64 hc111 hc34 hc120 htl hll ha2 ha0 ha1 hd2 hd0 hd1 hpv hp2 hp0 hp1 hFin
  have H9 := fun (h' : Heap) (tk' : Nat) (m' : Str → Option Value) (oAnswers' : Obj) (Da : Addr) (za : Nat) (Y0 Y1 Y2 : Addr) (y0 y1 y2 : Nat) => H { cS with s := { cS.s with heap := h', toks := tk' }, m := m', oAnswers := oAnswers', Da := Da, za := za, Y0 := Y0, Y1 := Y1, Y2 := Y2, y0 := y0, y1 := y1, y2 := y2 }
  dsimp only [CC13] at H9
  clear H
  have cx0 := cx
  obtain ⟨hd, hu, B', X', T'⟩ := cx
  have F := fr_top F (ecells)
  have F := fr_top F ((if_neg (by decide)).trans (ecode))
  have F := fr_top F ((if_neg (by decide)).trans ((if_neg (by decide)).trans (etail)))
  have F := fr_top F ((if_neg (by decide)).trans ((if_neg (by decide)).trans ((if_neg (by decide)).trans (ea))))
  refine' law_go ?hq ?hs ?hc ?hb ?_
  case hq => exact rfl
  case hs => (conv => lhs; whnf)
  case hc => (conv => lhs; whnf)
  case hb => exact rfl
  (try dsimp only)
  (try k_fold)
  k_with "my CompSrc" => (
    (rename Fr _ _ _ _ => F8); (rename News _ _ _ _ => N8)
    refine' CompSrc.ownR 3 (TRow [cS.av, cS.bb, cS.pv] cS.bv) ?ch F8 N8 ?chr ?csm ?chn ?csz ?cturn ?cfin
    case ch => exact rfl
    case chr => assumption
    case csm => exact rfl
    case chn => exact rfl
    case csz => exact rfl
    case cturn =>
      clear F8 N8
      intro g9 i9 v9 hi9 hv9
      obtain ⟨t9, rfl⟩ := hv9
      rcases lt3 hi9 with rfl | rfl | rfl
      ·
        clear hi9; intro C9 oC9 m9 h9 tk9 E9 extra9 hC9 hx9 F9 N9; simp only [List.cons_append, List.nil_append] at N9; replace hx9 : m9 (Str.ofString "k") = some (.int 0 t9) := hx9
        k_steps
        (rename Fr _ _ _ _ => F7); (rename News _ _ _ _ => N7); (rename AllNe _ _ => q7); (rename RowP _ _ => p7)
        obtain ⟨z7, rfl⟩ := p7
        exact TEnd.one F7 N7 (.head _) (fun p hp => .tail _ hp) q7 ⟨_, _, rfl, rfl⟩
      ·
        clear hi9; intro C9 oC9 m9 h9 tk9 E9 extra9 hC9 hx9 F9 N9; simp only [List.cons_append, List.nil_append] at N9; replace hx9 : m9 (Str.ofString "k") = some (.int 1 t9) := hx9
        k_steps
        (rename Fr _ _ _ _ => F7); (rename News _ _ _ _ => N7); (rename AllNe _ _ => q7); (rename RowP _ _ => p7)
        obtain ⟨z7, rfl⟩ := p7
        exact TEnd.one F7 N7 (.head _) (fun p hp => .tail _ hp) q7 ⟨_, _, rfl, rfl⟩
      ·
        clear hi9; intro C9 oC9 m9 h9 tk9 E9 extra9 hC9 hx9 F9 N9; simp only [List.cons_append, List.nil_append] at N9; replace hx9 : m9 (Str.ofString "k") = some (.int 2 t9) := hx9
        k_steps
        (rename Fr _ _ _ _ => F7); (rename News _ _ _ _ => N7); (rename AllNe _ _ => q7); (rename RowP _ _ => p7)
        obtain ⟨z7, rfl⟩ := p7
        exact TEnd.one F7 N7 (.head _) (fun p hp => .tail _ hp) q7 ⟨_, _, rfl, rfl⟩

    case' cfin =>
      intro g9 ys9 res9 hr9 hy9
      obtain ⟨yy0, yy1, yy2, o0, o1, o2, rfl, rfl, ⟨Y0, s0, rfl, rfl⟩, ⟨Y1, s1, rfl, rfl⟩, ⟨Y2, s2, rfl, rfl⟩⟩ := rows3 hr9 hy9
      clear F8 N8 hr9 hy9
      (first | unfold LCg.FinE | unfold LCg.FinA)
      intro D9 h9 tk9 F9 N9 o9
      (try simp only [List.cons_append, List.nil_append, List.append_nil, List.getD_cons_zero, List.getD_cons_succ] at N9))
  k_steps
  (rename Fr _ _ _ _ => F9); (rename News _ _ _ _ => N9)
  (rename Obj.data _ = Data.cell (some (Value.ref _)) => d9)
  exact H9 _ _ _ _ _ _ _ _ _ _ _ _ cx0 F9 (by (repeat first | exact News.nil | refine news_cons (N9 _ (by k_dflt k_mem)) ?_)) rfl rfl rfl rfl dbase dturn dmark dports dtold d9 dneeds ddues dtotal deven dsome dseen a0 a1 a2 a3 b0 b1 b2 b3 hb8 hb0 hb1 hc64 hc111 hc34 hc120 htl hll ha2 ha0 ha1 hd2 hd0 hd1 hpv hp2 hp0 hp1 hFin
end

-- S13
section
set_option maxHeartbeats 8000000 in
theorem st13c : P13 cS := by
  k_with_none
  w_top off
  k_with "own eval ListComp" => (k_here; (with_reducible show wpAny _ _ (eval (Expr.ListComp _ _ _ _) _) _ _ _); lcf_look; lcg_calm; k_dflt (refine LCg.ListComp_U (F₀ := by k_asm) (by with_unfolding_all rfl) (by decide) (by rfl) (by decide) (by rfl) ?_); k_dflt lcg_toSrc)
  k_with "own storeName" => (k_here; k_dflt (refine storeN (by k_asm) (by k_asm) (by exact rfl) (by (repeat' first | ((with_reducible apply NcU.skip); exact rfl) | ((with_reducible apply NcU.cells); exact nodup_cells _) | (with_reducible apply NdU.head) | (with_reducible apply NdU.tail))) (by k_asm) ?_ (by exact rfl) (by exact rfl)); intro h' o' F' N' d'; (try dsimp only at N'); (try k_sweep); (try dsimp only))
  k_with "own call ref" => (k_here; k_dflt (refine call_spec (spI_need _ _ _ _ (by omega) (by omega) (by omega) (by omega) (by omega) (by omega)) (by k_asm) (by k_asm) (by k_asm) (by k_asm) (by k_asm) (by exact rfl) (by exact rfl) (by exact rfl) (by first | exact room1 (by assumption) rfl | exact room0 (by assumption) rfl | omega | ((try dsimp only [topA, Around.deeper, Around.in1]); omega)) (by first | exact room1 (by assumption) rfl | exact room0 (by assumption) rfl | omega | ((try dsimp only [topA, Around.deeper, Around.in1]); omega)) (by trivial) ?_; intro v' h' tk' F' N' kk' q'; obtain ⟨t', e'⟩ := q'; subst e'; (try k_sweep); (try dsimp only)))
  k_with "own CompSrc" => (k_dflt (k_extra "my CompSrc"))
  unfold P13 II14 CC13
  intro H cx F N ecells ecode etail ea dbase dturn dmark dports dtold danswers dneeds ddues dtotal deven dsome dseen a0 a1 a2 a3 b0 b1 b2 b3 hb8 hb0 hb1 hc64 hc111 hc34 hc120 htl hll ha2 ha0 ha1 hd2 hd0 hd1 hpv hp2 hp0 hp1 hFin
  have H9 := fun (h' : Heap) (tk' : Nat) (m' : Str → Option Value) (oNeeds' : Obj) (Dn : Addr) (zn : Nat) (n0 n1 n2 : Tok) => H { cS with s := { cS.s with heap := h', toks := tk' }, m := m', oNeeds := oNeeds', Dn := Dn, zn := zn, n0 := n0, n1 := n1, n2 := n2 }
  dsimp only [CC14] at H9
  clear H
  have cx0 := cx
  obtain ⟨hd, hu, B', X', T'⟩ := cx
  have F := fr_top F (ecells)
  have F := fr_top F ((if_neg (by decide)).trans (ecode))
  have F := fr_top F ((if_neg (by decide)).trans ((if_neg (by decide)).trans (etail)))
  have F := fr_top F ((if_neg (by decide)).trans ((if_neg (by decide)).trans ((if_neg (by decide)).trans (ea))))
  refine' law_go ?hq ?hs ?hc ?hb ?_
  case hq => exact rfl
  case hs => (conv => lhs; whnf)
  case hc => (conv => lhs; whnf)
  case hb => exact rfl
  (try dsimp only)
  (try k_fold)
  k_with "my CompSrc" => (
    (rename Fr _ _ _ _ => F8); (rename News _ _ _ _ => N8)
    refine' CompSrc.own (TNeed [cS.av, cS.bb, cS.pv] cS.bv) ?ch F8 N8 ?chm ?csz ?cturn ?cfin
    case ch => exact rfl
    case chm => k_mem
    case csz => exact rfl
    case cturn =>
      clear F8 N8
      intro g9 i9 v9 hi9 hv9
      rcases lt3 hi9 with rfl | rfl | rfl
      ·
        have hw9 := Option.some.inj (show some (Value.int cS.av cS.u0) = some v9 from hv9); clear hv9; subst hw9
        clear hi9; intro C9 oC9 m9 h9 tk9 E9 extra9 hC9 hx9 F9 N9; simp only [List.cons_append, List.nil_append] at N9
        k_steps
        (rename Fr _ _ _ _ => F7); (rename News _ _ _ _ => N7)
        exact TEnd.val F7 N7 (fun p hp => hp) ⟨⟨_, rfl⟩, rfl⟩
      ·
        have hw9 := Option.some.inj (show some (Value.int cS.bb cS.u1) = some v9 from hv9); clear hv9; subst hw9
        clear hi9; intro C9 oC9 m9 h9 tk9 E9 extra9 hC9 hx9 F9 N9; simp only [List.cons_append, List.nil_append] at N9
        k_steps
        (rename Fr _ _ _ _ => F7); (rename News _ _ _ _ => N7)
        exact TEnd.val F7 N7 (fun p hp => hp) ⟨⟨_, rfl⟩, rfl⟩
      ·
        have hw9 := Option.some.inj (show some (Value.int cS.pv cS.u2) = some v9 from hv9); clear hv9; subst hw9
        clear hi9; intro C9 oC9 m9 h9 tk9 E9 extra9 hC9 hx9 F9 N9; simp only [List.cons_append, List.nil_append] at N9
        k_steps
        (rename Fr _ _ _ _ => F7); (rename News _ _ _ _ => N7)
        exact TEnd.val F7 N7 (fun p hp => hp) ⟨⟨_, rfl⟩, rfl⟩

    case' cfin =>
      intro g9 ys9 res9 hr9 hy9
      obtain ⟨yy0, yy1, yy2, o0, o1, o2, rfl, rfl, ⟨⟨n0, rfl⟩, rfl⟩, ⟨⟨n1, rfl⟩, rfl⟩, ⟨⟨n2, rfl⟩, rfl⟩⟩ := rows3 hr9 hy9
      clear F8 N8 hr9 hy9
      (first | unfold LCg.FinE | unfold LCg.FinA)
      intro D9 h9 tk9 F9 N9 o9
      (try simp only [List.cons_append, List.nil_append, List.append_nil, List.getD_cons_zero, List.getD_cons_succ] at N9))
  k_steps
  (rename Fr _ _ _ _ => F9); (rename News _ _ _ _ => N9)
  (rename Obj.data _ = Data.cell (some (Value.ref _)) => d9)
  exact H9 _ _ _ _ _ _ _ _ _ cx0 F9 (by (repeat first | exact News.nil | refine news_cons (N9 _ (by k_dflt k_mem)) ?_)) rfl rfl rfl rfl dbase dturn dmark dports dtold danswers d9 ddues dtotal deven dsome dseen a0 a1 a2 a3 b0 b1 b2 b3 hb8 hb0 hb1 hc64 hc111 hc34 hc120 htl hll ha2 ha0 ha1 hd2 hd0 hd1 hpv hp2 hp0 hp1 hFin
end

-- S14
section
set_option maxHeartbeats 8000000 in
theorem st14c : P14 cS := by
  k_with_none
  w_top off
  k_with "own eval ListComp" => (k_here; (with_reducible show wpAny _ _ (eval (Expr.ListComp _ _ _ _) _) _ _ _); lcf_look; lcg_calm; k_dflt (refine LCg.ListComp_U (F₀ := by k_asm) (by with_unfolding_all rfl) (by decide) (by rfl) (by decide) (by rfl) ?_); k_dflt lcg_toSrc)
  k_with "own subscriptTail Name Name ref int" => (k_here; (with_reducible show wpAny _ _ (subscriptTail _ _ (Value.ref _) (Value.int _ _)) _ _ _); k_dflt (refine item_litK (by is_list) (by decide) (by decide) (by rfl) ?_ (by with_unfolding_all rfl)))
  k_with "own subscriptTail" => (k_here; (with_reducible show wpAny _ _ (subscriptTail _ _ (Value.ref _) (Value.int _ _)) _ _ _); k_dflt (refine item_litK (News.isList (by k_asm) (by k_mem)) (by decide) (by decide) (by rfl) ?_ (by with_unfolding_all rfl)))
  k_with "own storeName" => (k_here; k_dflt (refine storeN (by k_asm) (by k_asm) (by exact rfl) (by (repeat' first | ((with_reducible apply NcU.skip); exact rfl) | ((with_reducible apply NcU.cells); exact nodup_cells _) | (with_reducible apply NdU.head) | (with_reducible apply NdU.tail))) (by k_asm) ?_ (by exact rfl) (by exact rfl)); intro h' o' F' N' d'; (try dsimp only at N'); (try k_sweep); (try dsimp only))
  k_with "own call ref" => (k_here; k_dflt (refine call_specN (spN_due _ _ _ _ (by omega) (by omega) (by exact need_lt (by omega) (by omega))) (by k_asm) (by k_asm) (by k_asm) (by k_asm) (by k_asm) (by exact rfl) (by exact rfl) (by exact rfl) (by first | exact room1 (by assumption) rfl | exact room0 (by assumption) rfl | omega | ((try dsimp only [topA, Around.deeper, Around.in1]); omega)) (by first | exact room1 (by assumption) rfl | exact room0 (by assumption) rfl | omega | ((try dsimp only [topA, Around.deeper, Around.in1]); omega)) (by exact trivial) ?_; intro D' o' h' tk' F' N' q' p'; (try k_sweep); (try dsimp only)))
  k_with "own CompSrc" => (k_dflt (k_extra "my CompSrc"))
  unfold P14 II15 CC14
  intro H cx F N ecells ecode etail ea dbase dturn dmark dports dtold danswers dneeds ddues dtotal deven dsome dseen a0 a1 a2 a3 b0 b1 b2 b3 hb8 hb0 hb1 hc64 hc111 hc34 hc120 htl hll ha2 ha0 ha1 hd2 hd0 hd1 hpv hp2 hp0 hp1 hFin
  have H9 := fun (h' : Heap) (tk' : Nat) (m' : Str → Option Value) (oDues' : Obj) (Dd : Addr) (zd : Nat) (Z0 Z1 Z2 : Addr) (z0 z1 z2 : Nat) => H { cS with s := { cS.s with heap := h', toks := tk' }, m := m', oDues := oDues', Dd := Dd, zd := zd, Z0 := Z0, Z1 := Z1, Z2 := Z2, z0 := z0, z1 := z1, z2 := z2 }
  dsimp only [CC15] at H9
  clear H
  have cx0 := cx
  obtain ⟨hd, hu, B', X', T'⟩ := cx
  have F := fr_top F (ecells)
  have F := fr_top F ((if_neg (by decide)).trans (ecode))
  have F := fr_top F ((if_neg (by decide)).trans ((if_neg (by decide)).trans (etail)))
  have F := fr_top F ((if_neg (by decide)).trans ((if_neg (by decide)).trans ((if_neg (by decide)).trans (ea))))
  refine' law_go ?hq ?hs ?hc ?hb ?_
  case hq => exact rfl
  case hs => (conv => lhs; whnf)
  case hc => (conv => lhs; whnf)
  case hb => exact rfl
  (try dsimp only)
  (try k_fold)
  k_with "my CompSrc" => (
    (rename Fr _ _ _ _ => F8); (rename News _ _ _ _ => N8)
    refine' CompSrc.ownR 3 (TRow [cS.av, cS.bb, cS.pv] cS.bv) ?ch F8 N8 ?chr ?csm ?chn ?csz ?cturn ?cfin
    case ch => exact rfl
    case chr => assumption
    case csm => exact rfl
    case chn => exact rfl
    case csz => exact rfl
    case cturn =>
      clear F8 N8
      intro g9 i9 v9 hi9 hv9
      obtain ⟨t9, rfl⟩ := hv9
      rcases lt3 hi9 with rfl | rfl | rfl
      ·
        clear hi9; intro C9 oC9 m9 h9 tk9 E9 extra9 hC9 hx9 F9 N9; simp only [List.cons_append, List.nil_append] at N9; replace hx9 : m9 (Str.ofString "k") = some (.int 0 t9) := hx9
        k_steps
        (rename Fr _ _ _ _ => F7); (rename News _ _ _ _ => N7); (rename AllNe _ _ => q7); (rename RowP _ _ => p7)
        obtain ⟨z7, rfl⟩ := p7
        exact TEnd.one F7 N7 (.head _) (fun p hp => .tail _ hp) q7 ⟨_, _, rfl, rfl⟩
      ·
        clear hi9; intro C9 oC9 m9 h9 tk9 E9 extra9 hC9 hx9 F9 N9; simp only [List.cons_append, List.nil_append] at N9; replace hx9 : m9 (Str.ofString "k") = some (.int 1 t9) := hx9
        k_steps
        (rename Fr _ _ _ _ => F7); (rename News _ _ _ _ => N7); (rename AllNe _ _ => q7); (rename RowP _ _ => p7)
        obtain ⟨z7, rfl⟩ := p7
        exact TEnd.one F7 N7 (.head _) (fun p hp => .tail _ hp) q7 ⟨_, _, rfl, rfl⟩
      ·
        clear hi9; intro C9 oC9 m9 h9 tk9 E9 extra9 hC9 hx9 F9 N9; simp only [List.cons_append, List.nil_append] at N9; replace hx9 : m9 (Str.ofString "k") = some (.int 2 t9) := hx9
        k_steps
        (rename Fr _ _ _ _ => F7); (rename News _ _ _ _ => N7); (rename AllNe _ _ => q7); (rename RowP _ _ => p7)
        obtain ⟨z7, rfl⟩ := p7
        exact TEnd.one F7 N7 (.head _) (fun p hp => .tail _ hp) q7 ⟨_, _, rfl, rfl⟩

    case' cfin =>
      intro g9 ys9 res9 hr9 hy9
      obtain ⟨yy0, yy1, yy2, o0, o1, o2, rfl, rfl, ⟨Z0, s0, rfl, rfl⟩, ⟨Z1, s1, rfl, rfl⟩, ⟨Z2, s2, rfl, rfl⟩⟩ := rows3 hr9 hy9
      clear F8 N8 hr9 hy9
      (first | unfold LCg.FinE | unfold LCg.FinA)
      intro D9 h9 tk9 F9 N9 o9
      (try simp only [List.cons_append, List.nil_append, List.append_nil, List.getD_cons_zero, List.getD_cons_succ] at N9))
  k_steps
  (rename Fr _ _ _ _ => F9); (rename News _ _ _ _ => N9)
  (rename Obj.data _ = Data.cell (some (Value.ref _)) => d9)
  exact H9 _ _ _ _ _ _ _ _ _ _ _ _ cx0 F9 (by (repeat first | exact News.nil | refine news_cons (N9 _ (by k_dflt k_mem)) ?_)) rfl rfl rfl rfl dbase dturn dmark dports dtold danswers dneeds d9 dtotal deven dsome dseen a0 a1 a2 a3 b0 b1 b2 b3 hb8 hb0 hb1 hc64 hc111 hc34 hc120 htl hll ha2 ha0 ha1 hd2 hd0 hd1 hpv hp2 hp0 hp1 (off1_addrs o9) hFin
end

-- S15
section
set_option maxHeartbeats 8000000 in
theorem st15c : P15 cS := by
  k_with_none
  w_top off
  k_with "own eval ListComp" => (k_here; (with_reducible show wpAny _ _ (eval (Expr.ListComp _ _ _ _) _) _ _ _); lcf_look; lcg_calm; k_dflt (refine LCg.ListComp_U (F₀ := by k_asm) (by with_unfolding_all rfl) (by decide) (by rfl) (by decide) (by rfl) ?_); k_dflt lcg_toSrc)
  k_with "own binaryOp Mult ref int" => (k_here; (with_reducible show wpAny _ _ (binaryOp Operator.Mult (Value.ref _) (Value.int _ _)) _ _ _); k_dflt (refine mul_lit (by k_asm) (by k_asm) (by k_mem) (by decide) (by decide) (by decide) (by first | exact (rfl : _ = #[_, _, _]) | exact (rfl : _ = #[_, _, _, _, _]) | exact (rfl : _ = #[_, _, _, _, _, _, _])) ?_); intro D' h' F' N' lt')
  k_with "own subscriptTail Name Name ref int" => (k_here; (with_reducible show wpAny _ _ (subscriptTail _ _ (Value.ref _) (Value.int _ _)) _ _ _); k_dflt (refine item_litK (by is_list) (by decide) (by decide) (by rfl) ?_ (by with_unfolding_all rfl)))
  k_with "own newList" => (k_here; (rename Fr _ _ _ _ => F9'); (rename News _ _ _ _ => N9'); k_dflt (refine newList_ne F9' N9' (by rfl) ?_); intro l' h' F' N' q'; (try k_sweep))
  k_with "own subscriptTail" => (k_here; (with_reducible show wpAny _ _ (subscriptTail _ _ (Value.ref _) (Value.int _ _)) _ _ _); k_dflt (refine item_litK (News.isList (by k_asm) (by k_mem)) (by decide) (by decide) (by rfl) ?_ (by with_unfolding_all rfl)))
  k_with "own call ref" => (k_here; k_dflt (refine call_spec (spB_same7 _ _ _ _ ) (by k_asm) (by k_asm) (by k_asm) (by k_asm) (by k_asm) (by exact rfl) (by exact rfl) (by exact rfl) (by first | exact room1 (by assumption) rfl | exact room0 (by assumption) rfl | omega | ((try dsimp only [topA, Around.deeper, Around.in1]); omega)) (by first | exact room1 (by assumption) rfl | exact room0 (by assumption) rfl | omega | ((try dsimp only [topA, Around.deeper, Around.in1]); omega)) (by exact ⟨⟨_, News.get (by k_asm) (by k_mem), rfl, _, rfl⟩, ⟨_, News.get (by k_asm) (by k_mem), rfl, _, rfl⟩⟩) ?_; intro v' h' tk' F' N' kk' q'; (try k_sweep); (try subst q'); (try dsimp only)))
  k_with "own compareOp NotEq ref ref" => (k_here; (with_reducible show wpAny _ _ (compareOp CmpOp.NotEq (Value.ref _) (Value.ref _)) _ _ _); k_dflt (refine ne_same (bs := [true, true, true]) (by k_asm) (by k_mem) (by k_mem) (by first | exact room1 (by assumption) rfl | exact room0 (by assumption) rfl | omega | ((try dsimp only [topA, Around.deeper, Around.in1]); omega)) ?_))
  k_with "own call type:list" => (k_here; (with_reducible show wpAny _ _ (call (Value.type _) [Value.ref _]) _ _ _); k_dflt (first | refine list_bl (by k_asm) (by k_asm) (by k_mem) (by exact rfl) ?_ | refine list_ne (by k_asm) (by k_asm) (by k_mem) (by exact rfl) ?_); intro D' c' h' F' N' q'; (try k_sweep))
  k_with "own call ref" => (k_here; k_dflt (refine call_spec (sp_is_diff _ _ _ _ _ _ _ _ (by exact allNe_at (by assumption) (by k_mem))) (by k_asm) (by k_asm) (by k_asm) (by k_asm) (by k_asm) (by exact rfl) (by exact rfl) (by exact rfl) (by first | exact room1 (by assumption) rfl | exact room0 (by assumption) rfl | omega | ((try dsimp only [topA, Around.deeper, Around.in1]); omega)) (by first | exact room1 (by assumption) rfl | exact room0 (by assumption) rfl | omega | ((try dsimp only [topA, Around.deeper, Around.in1]); omega)) (by exact ⟨⟨_, News.get (by k_asm) (by k_mem), rfl, _, rfl⟩, News.get (by k_asm) (by k_mem)⟩) ?_; intro v' h' tk' F' N' kk' q'; (try k_sweep); (try subst q'); (try dsimp only)))
  k_with "own CompSrc" => (k_dflt (k_extra "my CompSrc"))
  unfold P15 II16 CC15
  intro H cx F N ecells ecode etail ea dbase dturn dmark dports dtold danswers dneeds ddues dtotal deven dsome dseen a0 a1 a2 a3 b0 b1 b2 b3 hb8 hb0 hb1 hc64 hc111 hc34 hc120 htl hll ha2 ha0 ha1 hd2 hd0 hd1 hpv hp2 hp0 hp1 offD hFin
  have H9 := fun (h' : Heap) (tk' : Nat) (m' : Str → Option Value) => H { cS with s := { cS.s with heap := h', toks := tk' }, m := m' }
  dsimp only [CC16] at H9
  clear H
  have cx0 := cx
  obtain ⟨hd, hu, B', X', T'⟩ := cx
  have F := fr_top F (ecells)
  have F := fr_top F ((if_neg (by decide)).trans (ecode))
  have F := fr_top F ((if_neg (by decide)).trans ((if_neg (by decide)).trans (etail)))
  have F := fr_top F ((if_neg (by decide)).trans ((if_neg (by decide)).trans ((if_neg (by decide)).trans (ea))))
  refine' law_go ?hq ?hs ?hc ?hb ?_
  case hq => exact rfl
  case hs => (conv => lhs; whnf)
  case hc => (conv => lhs; whnf)
  case hb => exact rfl
  (try dsimp only)
  (try k_fold)
  k_with "my CompSrc" => (
    (rename Fr _ _ _ _ => F8); (rename News _ _ _ _ => N8)
    refine' CompSrc.ownR 3 (TB [true, true, true]) ?ch F8 N8 ?chr ?csm ?chn ?csz ?cturn ?cfin
    case ch => exact rfl
    case chr => assumption
    case csm => exact rfl
    case chn => exact rfl
    case csz => exact rfl
    case cturn =>
      clear F8 N8
      intro g9 i9 v9 hi9 hv9
      obtain ⟨t9, rfl⟩ := hv9
      rcases lt3 hi9 with rfl | rfl | rfl
      ·
        clear hi9; intro C9 oC9 m9 h9 tk9 E9 extra9 hC9 hx9 F9 N9; simp only [List.cons_append, List.nil_append] at N9; replace hx9 : m9 (Str.ofString "k") = some (.int 0 t9) := hx9
        k_steps
        (rename Fr _ _ _ _ => F7); (rename News _ _ _ _ => N7)
        exact TEnd.val F7 N7 (fun p hp => hp) ⟨rfl, rfl⟩
      ·
        clear hi9; intro C9 oC9 m9 h9 tk9 E9 extra9 hC9 hx9 F9 N9; simp only [List.cons_append, List.nil_append] at N9; replace hx9 : m9 (Str.ofString "k") = some (.int 1 t9) := hx9
        k_steps
        (rename Fr _ _ _ _ => F7); (rename News _ _ _ _ => N7)
        exact TEnd.val F7 N7 (fun p hp => hp) ⟨rfl, rfl⟩
      ·
        clear hi9; intro C9 oC9 m9 h9 tk9 E9 extra9 hC9 hx9 F9 N9; simp only [List.cons_append, List.nil_append] at N9; replace hx9 : m9 (Str.ofString "k") = some (.int 2 t9) := hx9
        k_steps
        (rename Fr _ _ _ _ => F7); (rename News _ _ _ _ => N7)
        exact TEnd.val F7 N7 (fun p hp => hp) ⟨rfl, rfl⟩

    case' cfin =>
      intro g9 ys9 res9 hr9 hy9
      obtain ⟨rfl, rfl⟩ := rows_bools hr9 hy9
      clear F8 N8 hr9 hy9
      (first | unfold LCg.FinE | unfold LCg.FinA)
      intro D9 h9 tk9 F9 N9 o9
      (try simp only [List.cons_append, List.nil_append, List.append_nil, List.getD_cons_zero, List.getD_cons_succ] at N9))
  k_steps
  (rename Fr _ _ _ _ => F9); (rename News _ _ _ _ => N9)
  exact H9 _ _ _ cx0 F9 (by (repeat first | exact News.nil | refine news_cons (N9 _ (by k_dflt k_mem)) ?_)) rfl rfl rfl rfl dbase dturn dmark dports dtold danswers dneeds ddues dtotal deven dsome dseen a0 a1 a2 a3 b0 b1 b2 b3 hb8 hb0 hb1 hc64 hc111 hc34 hc120 htl hll ha2 ha0 ha1 hd2 hd0 hd1 hpv hp2 hp0 hp1 offD hFin
end

-- S16
section
set_option maxHeartbeats 8000000 in
theorem st16c : P16 cS := by
  k_with_none
  w_top off
  k_with "own subscriptTail Name Constant ref int" => (k_here; (with_reducible show wpAny _ _ (subscriptTail _ _ (Value.ref _) (Value.int _ _)) _ _ _); k_dflt (refine item_litK (by is_list) (by decide) (by decide) (by rfl) ?_ (by with_unfolding_all rfl)))
  k_with "own call ref" => (k_here; k_dflt (refine call_spec (sp_count3 _ _ _ _ _ _ _ _ _ ) (by k_asm) (by k_asm) (by k_asm) (by k_asm) (by k_asm) (by exact rfl) (by exact rfl) (by exact rfl) (by first | exact room1 (by assumption) rfl | exact room0 (by assumption) rfl | omega | ((try dsimp only [topA, Around.deeper, Around.in1]); omega)) (by first | exact room1 (by assumption) rfl | exact room0 (by assumption) rfl | omega | ((try dsimp only [topA, Around.deeper, Around.in1]); omega)) (by exact ⟨⟨_, News.get (by k_asm) (by k_mem), rfl, _, rfl⟩, ⟨_, News.get (by k_asm) (by k_mem), rfl, _, rfl⟩, ⟨_, News.get (by k_asm) (by k_mem), rfl, _, rfl⟩, ⟨_, News.get (by k_asm) (by k_mem), rfl, _, rfl⟩, ⟨_, News.get (by k_asm) (by k_mem), rfl, _, rfl⟩, allNe_at (by assumption) (by k_mem), allNe_at (by assumption) (by k_mem), allNe_at (by assumption) (by k_mem)⟩) ?_; intro v' h' tk' F' N' kk' q'; obtain ⟨t', e'⟩ := q'; subst e'; (try k_sweep); (try dsimp only)))
  k_with "own call type:list" => (k_here; (with_reducible show wpAny _ _ (call (Value.type _) [Value.ref _]) _ _ _); k_dflt (first | refine list_bl (by k_asm) (by k_asm) (by k_mem) (by exact rfl) ?_ | refine list_ne (by k_asm) (by k_asm) (by k_mem) (by exact rfl) ?_); intro D' c' h' F' N' q'; (try k_sweep))
  k_with "own compareOp Eq ref ref" => (k_here; (with_reducible show wpAny _ _ (compareOp CmpOp.Eq (Value.ref _) (Value.ref _)) _ _ _); k_dflt (refine eq_bl ⟨_, News.get (by k_asm) (by k_mem), rfl, _, rfl⟩ ⟨_, News.get (by k_asm) (by k_mem), rfl, _, rfl⟩ (by first | exact room1 (by assumption) rfl | exact room0 (by assumption) rfl | omega | ((try dsimp only [topA, Around.deeper, Around.in1]); omega)) ?_))
  k_with "own CompSrcT" => (k_dflt (k_extra "my CompSrcT"))
  k_with "own call builtin:len" => (k_here; (with_reducible show wpAny _ _ (call (Value.builtin _) [Value.ref _]) _ _ _); k_dflt (refine len_own (by k_asm) (by k_mem) (by assumption) (cntB_small _ _ _ _) ?_); intro k' tk')
  unfold P16 II17 CC16
  intro H cx F N ecells ecode etail ea dbase dturn dmark dports dtold danswers dneeds ddues dtotal deven dsome dseen a0 a1 a2 a3 b0 b1 b2 b3 hb8 hb0 hb1 hc64 hc111 hc34 hc120 htl hll ha2 ha0 ha1 hd2 hd0 hd1 hpv hp2 hp0 hp1 offD hFin
  have H9 := fun (h' : Heap) (tk' : Nat) (m' : Str → Option Value) => H { cS with s := { cS.s with heap := h', toks := tk' }, m := m' }
  dsimp only [CC17] at H9
  clear H
  have cx0 := cx
  obtain ⟨hd, hu, B', X', T'⟩ := cx
  have F := fr_top F (ecells)
  have F := fr_top F ((if_neg (by decide)).trans (ecode))
  have F := fr_top F ((if_neg (by decide)).trans ((if_neg (by decide)).trans (etail)))
  have F := fr_top F ((if_neg (by decide)).trans ((if_neg (by decide)).trans ((if_neg (by decide)).trans (ea))))
  refine' law_go ?hq ?hs ?hc ?hb ?_
  case hq => exact rfl
  case hs => (conv => lhs; whnf)
  case hc => (conv => lhs; whnf)
  case hb => exact rfl
  (try dsimp only)
  (try k_fold)
  k_with "my CompSrcT" => (
    (rename Fr _ _ _ _ => F8); (rename News _ _ _ _ => N8)
    refine' CompSrcT.own [decide (rowD cS.av (needE cS.av cS.bv) = rowD cS.pv (needE cS.pv cS.bv)), decide (rowD cS.bb (needE cS.bb cS.bv) = rowD cS.pv (needE cS.pv cS.bv)), decide (rowD cS.pv (needE cS.pv cS.bv) = rowD cS.pv (needE cS.pv cS.bv))] ?ch F8 N8 ?chm ?csz ?chn ?cturn ?cfin
    case ch => exact rfl
    case chm => k_mem
    case csz => exact rfl
    case chn => exact rfl
    case cturn =>
      clear F8 N8
      intro g9 i9 v9 hi9 hv9
      rcases lt3 hi9 with rfl | rfl | rfl
      ·
        have hw9 := Option.some.inj (show some (Value.ref cS.Z0) = some v9 from hv9); clear hv9; subst hw9
        clear hi9; intro C9 oC9 m9 h9 tk9 E9 extra9 hC9 hx9 F9 N9; simp only [List.cons_append, List.nil_append] at N9
        k_steps
        all_goals ((rename Fr _ _ _ _ => F7); (rename News _ _ _ _ => N7); first | exact FYes.of F7 N7 (fun p hp => hp) (by assumption) | exact FNo.of F7 N7 (fun p hp => hp) (by assumption) | exact FYes.of F7 N7 (fun p hp => hp) (by simp_all; done) | exact FNo.of F7 N7 (fun p hp => hp) (by simp_all; done))
      ·
        have hw9 := Option.some.inj (show some (Value.ref cS.Z1) = some v9 from hv9); clear hv9; subst hw9
        clear hi9; intro C9 oC9 m9 h9 tk9 E9 extra9 hC9 hx9 F9 N9; simp only [List.cons_append, List.nil_append] at N9
        k_steps
        all_goals ((rename Fr _ _ _ _ => F7); (rename News _ _ _ _ => N7); first | exact FYes.of F7 N7 (fun p hp => hp) (by assumption) | exact FNo.of F7 N7 (fun p hp => hp) (by assumption) | exact FYes.of F7 N7 (fun p hp => hp) (by simp_all; done) | exact FNo.of F7 N7 (fun p hp => hp) (by simp_all; done))
      ·
        have hw9 := Option.some.inj (show some (Value.ref cS.Z2) = some v9 from hv9); clear hv9; subst hw9
        clear hi9; intro C9 oC9 m9 h9 tk9 E9 extra9 hC9 hx9 F9 N9; simp only [List.cons_append, List.nil_append] at N9
        k_steps
        all_goals ((rename Fr _ _ _ _ => F7); (rename News _ _ _ _ => N7); first | exact FYes.of F7 N7 (fun p hp => hp) (by assumption) | exact FNo.of F7 N7 (fun p hp => hp) (by assumption) | exact FYes.of F7 N7 (fun p hp => hp) (by simp_all; done) | exact FNo.of F7 N7 (fun p hp => hp) (by simp_all; done))
    case' cfin =>
      intro g9 ys9 hy9
      have hy9 := count_law hy9
      clear F8 N8
      unfold LCg.FinE
      intro D9 h9 tk9 F9 N9 o9)
  k_steps
  all_goals first | exact absurd rfl (by assumption : cntB _ _ ≠ cntB _ _) | skip
  (rename Fr _ _ _ _ => F9); (rename News _ _ _ _ => N9)
  exact H9 _ _ _ cx0 F9 (by (repeat first | exact News.nil | refine news_cons (N9 _ (by k_dflt k_mem)) ?_)) rfl rfl rfl rfl dbase dturn dmark dports dtold danswers dneeds ddues dtotal deven dsome dseen a0 a1 a2 a3 b0 b1 b2 b3 hb8 hb0 hb1 hc64 hc111 hc34 hc120 htl hll ha2 ha0 ha1 hd2 hd0 hd1 hpv hp2 hp0 hp1 offD hFin
end

-- S17
section
set_option maxHeartbeats 8000000 in
theorem st17c : P17 cS := by
  k_with_none
  w_top off
  k_with "own eval ListComp" => (k_here; (with_reducible show wpAny _ _ (eval (Expr.ListComp _ _ _ _) _) _ _ _); lcf_look; lcg_calm; k_dflt (refine LCg.ListComp_U (F₀ := by k_asm) (by with_unfolding_all rfl) (by decide) (by rfl) (by decide) (by rfl) ?_); k_dflt lcg_toSrc)
  k_with "own newList" => (k_here; (rename Fr _ _ _ _ => F9'); (rename News _ _ _ _ => N9'); k_dflt (refine newList_ne F9' N9' (by rfl) ?_); intro l' h' F' N' q'; (try k_sweep))
  k_with "own call ref" => (k_here; k_dflt (refine call_aB (sp_is_same _ _ _ _ _) ?_; intro h' tk' F' N'; (try k_sweep); (try dsimp only); (try k_fold)))
  k_with "own call ref" => (k_here; (with_reducible show wpAny _ _ (call (Value.ref 107) [Value.ref _, Value.ref _]) _ _ _); k_dflt (k_extra "my iadd"))
  k_with "own compareOp NotEq ref ref" => (k_here; (with_reducible show wpAny _ _ (compareOp CmpOp.NotEq (Value.ref _) (Value.ref _)) _ _ _); k_dflt (refine ne_same (bs := [true]) (by k_asm) (by k_mem) (by k_mem) (by first | exact room1 (by assumption) rfl | exact room0 (by assumption) rfl | omega | ((try dsimp only [topA, Around.deeper, Around.in1]); omega)) ?_))
  k_with "own CompSrc" => (k_dflt (k_extra "my CompSrc"))
  unfold P17 II18 CC17
  intro H cx F N ecells ecode etail ea dbase dturn dmark dports dtold danswers dneeds ddues dtotal deven dsome dseen a0 a1 a2 a3 b0 b1 b2 b3 hb8 hb0 hb1 hc64 hc111 hc34 hc120 htl hll ha2 ha0 ha1 hd2 hd0 hd1 hpv hp2 hp0 hp1 offD hFin
  have H9 := fun (h' : Heap) (tk' : Nat) (m' : Str → Option Value) (zf : Nat) => H { cS with s := { cS.s with heap := h', toks := tk' }, m := m', zf := zf }
  dsimp only [CC18] at H9
  clear H
  have cx0 := cx
  obtain ⟨hd, hu, B', X', T'⟩ := cx
  have F := fr_top F (ecells)
  have F := fr_top F ((if_neg (by decide)).trans (ecode))
  have F := fr_top F ((if_neg (by decide)).trans ((if_neg (by decide)).trans (etail)))
  have F := fr_top F ((if_neg (by decide)).trans ((if_neg (by decide)).trans ((if_neg (by decide)).trans (ea))))
  refine' law_go ?hq ?hs ?hc ?hb ?_
  case hq => exact rfl
  case hs => (conv => lhs; whnf)
  case hc => (conv => lhs; whnf)
  case hb => exact rfl
  (try dsimp only)
  (try k_fold)
  k_with "my iadd" => (
    (rename Fr _ _ _ _ => F8); (rename News _ _ _ _ => N8)
    refine call_iadd (rest := [(cS.Z0, listOf (bl (rowD cS.av (needE cS.av cS.bv))) cS.z0), (cS.Z1, listOf (bl (rowD cS.bb (needE cS.bb cS.bv))) cS.z1), (cS.Z2, listOf (bl (rowD cS.pv (needE cS.pv cS.bv))) cS.z2), (cS.Dn, listOf [.int (needE cS.av cS.bv : Int) cS.n0, .int (needE cS.bb cS.bv : Int) cS.n1, .int (needE cS.pv cS.bv : Int) cS.n2].toArray cS.zn), (cS.Da, listOf [.ref cS.Y0, .ref cS.Y1, .ref cS.Y2].toArray cS.za), (cS.Y0, listOf (bl (rowD cS.av (needE cS.av cS.bv))) cS.y0), (cS.Y1, listOf (bl (rowD cS.bb (needE cS.bb cS.bv))) cS.y1), (cS.Y2, listOf (bl (rowD cS.pv (needE cS.pv cS.bv))) cS.y2), (cS.Dc, listOf [.int cS.c0 cS.t0, .int cS.c1 cS.t1, .int cS.c2 cS.t2, .int cS.c3 cS.t3].toArray cS.zc), (cS.L + 1 + 1 + 1 + 1 + 1 + 1 + 1 + 1 + 1 + 1 + 1 + 1, cS.oSeen), (cS.L + 1 + 1 + 1 + 1 + 1 + 1 + 1 + 1 + 1 + 1 + 1, cS.oSome), (cS.L + 1 + 1 + 1 + 1 + 1 + 1 + 1 + 1 + 1 + 1, cS.oEven), (cS.L + 1 + 1 + 1 + 1 + 1 + 1 + 1 + 1 + 1, cS.oTotal), (cS.L + 1 + 1 + 1 + 1 + 1 + 1 + 1 + 1, cS.oDues), (cS.L + 1 + 1 + 1 + 1 + 1 + 1 + 1, cS.oNeeds), (cS.L + 1 + 1 + 1 + 1 + 1 + 1, cS.oAnswers), (cS.L + 1 + 1 + 1 + 1 + 1, cS.oTold), (cS.L + 1 + 1 + 1 + 1, cS.oPorts), (cS.L + 1 + 1 + 1, cS.oMark), (cS.L + 1 + 1, cS.oTurn), (cS.L + 1, cS.oBase)]) (xs := #[.ref cS.Z0, .ref cS.Z1, .ref cS.Z2]) (ys := #[.ref cS.Dn]) (zs := #[.ref cS.Z0, .ref cS.Z1, .ref cS.Z2, .ref cS.Dn]) F8 (by k_asm) N8 (by k_asm) (by exact rfl) (by first | exact room1 (by assumption) rfl | exact room0 (by assumption) rfl | omega | ((try dsimp only [topA, Around.deeper, Around.in1]); omega)) (by first | exact room1 (by assumption) rfl | exact room0 (by assumption) rfl | omega | ((try dsimp only [topA, Around.deeper, Around.in1]); omega)) (by k_mem) (by k_mem) ?_ ?_ (by exact Nat.le_of_ble_eq_true rfl) (by exact rfl) ?_
    · exact allMem_of (by repeat' first | exact allMem_nil | refine allMem_cons (by k_mem) ?_)
    · repeat' first | exact allNe_nil | refine allNe_cons (offD _ (by k_mem)) ?_
    clear F8 N8
    intro h8 tk8 k8 F8 N8)
  k_with "my CompSrc" => (
    (rename Fr _ _ _ _ => F8); (rename News _ _ _ _ => N8)
    refine' CompSrc.own (TB [true]) ?ch F8 N8 ?chm ?csz ?cturn ?cfin
    case ch => exact rfl
    case chm => k_mem
    case csz => exact rfl
    case cturn =>
      clear F8 N8
      intro g9 i9 v9 hi9 hv9
      obtain rfl : i9 = 0 := by
        have : i9 < 1 := hi9
        omega
      have hw9 := Option.some.inj (show some (Value.ref cS.Dn) = some v9 from hv9); clear hv9; subst hw9
      clear hi9; intro C9 oC9 m9 h9 tk9 E9 extra9 hC9 hx9 F9 N9; simp only [List.cons_append, List.nil_append] at N9
      k_steps
      (rename Fr _ _ _ _ => F7); (rename News _ _ _ _ => N7)
      exact TEnd.val F7 N7 (fun p hp => hp) ⟨rfl, rfl⟩
    case' cfin =>
      intro g9 ys9 res9 hr9 hy9
      obtain ⟨rfl, rfl⟩ := rows_bools hr9 hy9
      clear F8 N8 hr9 hy9
      (first | unfold LCg.FinE | unfold LCg.FinA)
      intro D9 h9 tk9 F9 N9 o9
      (try simp only [List.cons_append, List.nil_append, List.append_nil, List.getD_cons_zero, List.getD_cons_succ] at N9))
  k_steps
  (rename Fr _ _ _ _ => F9); (rename News _ _ _ _ => N9)
  exact H9 _ _ _ _ cx0 F9 (by (repeat first | exact News.nil | refine news_cons (N9 _ (by k_dflt k_mem)) ?_)) rfl rfl rfl rfl dbase dturn dmark dports dtold danswers dneeds ddues dtotal deven dsome dseen a0 a1 a2 a3 b0 b1 b2 b3 hb8 hb0 hb1 hc64 hc111 hc34 hc120 htl hll ha2 ha0 ha1 hd2 hd0 hd1 hpv hp2 hp0 hp1 hFin
end

-- S18
section
set_option maxHeartbeats 8000000 in
theorem st18c : P18 cS := by
  k_with_none
  w_top off
  k_with "own subscriptTail" => (k_here; (with_reducible show wpAny _ _ (subscriptTail _ _ (Value.ref _) (Value.int _ _)) _ _ _); k_dflt (refine item_litK (News.isList (by k_asm) (by k_mem)) (by decide) (by decide) (by rfl) ?_ (by with_unfolding_all rfl)))
  k_with "own storeName" => (k_here; k_dflt (refine storeN (by k_asm) (by k_asm) (by exact rfl) (by (repeat' first | ((with_reducible apply NcU.skip); exact rfl) | ((with_reducible apply NcU.cells); exact nodup_cells _) | (with_reducible apply NdU.head) | (with_reducible apply NdU.tail))) (by k_asm) ?_ (by exact rfl) (by exact rfl)); intro h' o' F' N' d'; (try dsimp only at N'); (try k_sweep); (try dsimp only))
  unfold P18 II19 CC18
  intro H cx F N ecells ecode etail ea dbase dturn dmark dports dtold danswers dneeds ddues dtotal deven dsome dseen a0 a1 a2 a3 b0 b1 b2 b3 hb8 hb0 hb1 hc64 hc111 hc34 hc120 htl hll ha2 ha0 ha1 hd2 hd0 hd1 hpv hp2 hp0 hp1 hFin
  have H9 := fun (h' : Heap) (tk' : Nat) (m' : Str → Option Value) (oTotal' : Obj) (tS : Tok) => H { cS with s := { cS.s with heap := h', toks := tk' }, m := m', oTotal := oTotal', tS := tS }
  dsimp only [CC19] at H9
  clear H
  have cx0 := cx
  obtain ⟨hd, hu, B', X', T'⟩ := cx
  have F := fr_top F (ecells)
  have F := fr_top F ((if_neg (by decide)).trans (ecode))
  have F := fr_top F ((if_neg (by decide)).trans ((if_neg (by decide)).trans (etail)))
  have F := fr_top F ((if_neg (by decide)).trans ((if_neg (by decide)).trans ((if_neg (by decide)).trans (ea))))
  refine' law_go ?hq ?hs ?hc ?hb ?_
  case hq => exact rfl
  case hs => (conv => lhs; whnf)
  case hc => (conv => lhs; whnf)
  case hb => exact rfl
  (try dsimp only)
  (try k_fold)
  k_steps
  (rename Fr _ _ _ _ => F9); (rename News _ _ _ _ => N9)
  (rename Obj.data _ = Data.cell (some (Value.int _ _)) => d9)
  exact H9 _ _ _ _ _ cx0 F9 (by (repeat first | exact News.nil | refine news_cons (N9 _ (by k_dflt k_mem)) ?_)) rfl rfl rfl rfl dbase dturn dmark dports dtold danswers dneeds ddues d9 deven dsome dseen a0 a1 a2 a3 b0 b1 b2 b3 hb8 hb0 hb1 hc64 hc111 hc34 hc120 htl hll ha2 ha0 ha1 hd2 hd0 hd1 hpv hp2 hp0 hp1 hFin
end

-- S19
section
set_option maxHeartbeats 8000000 in
theorem st19c : P19 cS := by
  k_with_none
  w_top off
  k_with "own subscriptTail Name Constant ref int" => (k_here; (with_reducible show wpAny _ _ (subscriptTail _ _ (Value.ref _) (Value.int _ _)) _ _ _); k_dflt (refine item_litK (by is_list) (by decide) (by decide) (by rfl) ?_ (by with_unfolding_all rfl)))
  k_with "own newList" => (k_here; (rename Fr _ _ _ _ => F9'); (rename News _ _ _ _ => N9'); k_dflt (refine newList_ne F9' N9' (by rfl) ?_); intro l' h' F' N' q'; (try k_sweep))
  k_with "own storeName" => (k_here; k_dflt (refine storeN (by k_asm) (by k_asm) (by exact rfl) (by (repeat' first | ((with_reducible apply NcU.skip); exact rfl) | ((with_reducible apply NcU.cells); exact nodup_cells _) | (with_reducible apply NdU.head) | (with_reducible apply NdU.tail))) (by k_asm) ?_ (by exact rfl) (by exact rfl)); intro h' o' F' N' d'; (try dsimp only at N'); (try k_sweep); (try dsimp only))
  unfold P19 II20 CC19
  intro H cx F N ecells ecode etail ea dbase dturn dmark dports dtold danswers dneeds ddues dtotal deven dsome dseen a0 a1 a2 a3 b0 b1 b2 b3 hb8 hb0 hb1 hc64 hc111 hc34 hc120 htl hll ha2 ha0 ha1 hd2 hd0 hd1 hpv hp2 hp0 hp1 hFin
  have H9 := fun (h' : Heap) (tk' : Nat) (m' : Str → Option Value) (oEven' : Obj) (De : Addr) (zv : Nat) => H { cS with s := { cS.s with heap := h', toks := tk' }, m := m', oEven := oEven', De := De, zv := zv }
  dsimp only [CC20] at H9
  clear H
  have cx0 := cx
  obtain ⟨hd, hu, B', X', T'⟩ := cx
  have F := fr_top F (ecells)
  have F := fr_top F ((if_neg (by decide)).trans (ecode))
  have F := fr_top F ((if_neg (by decide)).trans ((if_neg (by decide)).trans (etail)))
  have F := fr_top F ((if_neg (by decide)).trans ((if_neg (by decide)).trans ((if_neg (by decide)).trans (ea))))
  refine' law_go ?hq ?hs ?hc ?hb ?_
  case hq => exact rfl
  case hs => (conv => lhs; whnf)
  case hc => (conv => lhs; whnf)
  case hb => exact rfl
  (try dsimp only)
  (try k_fold)
  k_steps
  (rename Fr _ _ _ _ => F9); (rename News _ _ _ _ => N9)
  (rename Obj.data _ = Data.cell (some (Value.ref _)) => d9)
  exact H9 _ _ _ _ _ _ cx0 F9 (by (repeat first | exact News.nil | refine news_cons (N9 _ (by k_dflt k_mem)) ?_)) rfl rfl rfl rfl dbase dturn dmark dports dtold danswers dneeds ddues dtotal d9 dsome dseen a0 a1 a2 a3 b0 b1 b2 b3 hb8 hb0 hb1 hc64 hc111 hc34 hc120 htl hll ha2 ha0 ha1 hd2 hd0 hd1 hpv hp2 hp0 hp1 hFin
end

-- S20
section
set_option maxHeartbeats 8000000 in
theorem st20c : P20 cS := by
  k_with_none
  w_top off
  k_with "own eval ListComp" => (k_here; (with_reducible show wpAny _ _ (eval (Expr.ListComp _ _ _ _) _) _ _ _); lcf_look; lcg_calm; k_dflt (refine LCg.ListComp_U (F₀ := by k_asm) (by with_unfolding_all rfl) (by decide) (by rfl) (by decide) (by rfl) ?_); k_dflt lcg_toSrc)
  k_with "own storeName" => (k_here; k_dflt (refine storeN (by k_asm) (by k_asm) (by exact rfl) (by (repeat' first | ((with_reducible apply NcU.skip); exact rfl) | ((with_reducible apply NcU.cells); exact nodup_cells _) | (with_reducible apply NdU.head) | (with_reducible apply NdU.tail))) (by k_asm) ?_ (by exact rfl) (by exact rfl)); intro h' o' F' N' d'; (try dsimp only at N'); (try k_sweep); (try dsimp only))
  k_with "own CompSrc" => (k_dflt (k_extra "my CompSrc"))
  unfold P20 II21 CC20
  intro H cx F N ecells ecode etail ea dbase dturn dmark dports dtold danswers dneeds ddues dtotal deven dsome dseen a0 a1 a2 a3 b0 b1 b2 b3 hb8 hb0 hb1 hc64 hc111 hc34 hc120 htl hll ha2 ha0 ha1 hd2 hd0 hd1 hpv hp2 hp0 hp1 hFin
  have H9 := fun (h' : Heap) (tk' : Nat) (m' : Str → Option Value) (oSome' : Obj) (Ds : Addr) (zs : Nat) => H { cS with s := { cS.s with heap := h', toks := tk' }, m := m', oSome := oSome', Ds := Ds, zs := zs }
  dsimp only [CC21] at H9
  clear H
  have cx0 := cx
  obtain ⟨hd, hu, B', X', T'⟩ := cx
  have F := fr_top F (ecells)
  have F := fr_top F ((if_neg (by decide)).trans (ecode))
  have F := fr_top F ((if_neg (by decide)).trans ((if_neg (by decide)).trans (etail)))
  have F := fr_top F ((if_neg (by decide)).trans ((if_neg (by decide)).trans ((if_neg (by decide)).trans (ea))))
  refine' law_go ?hq ?hs ?hc ?hb ?_
  case hq => exact rfl
  case hs => (conv => lhs; whnf)
  case hc => (conv => lhs; whnf)
  case hb => exact rfl
  (try dsimp only)
  (try k_fold)
  k_with "my CompSrc" => (
    (rename Fr _ _ _ _ => F8); (rename News _ _ _ _ => N8)
    refine' CompSrc.ownR 7 (TB (someL (needE cS.av cS.bv) (needE cS.bb cS.bv))) ?ch F8 N8 ?chr ?csm ?chn ?csz ?cturn ?cfin
    case ch => exact rfl
    case chr => assumption
    case csm => exact rfl
    case chn => exact rfl
    case csz => exact rfl
    case cturn =>
      clear F8 N8
      intro g9 i9 v9 hi9 hv9
      obtain ⟨t9, rfl⟩ := hv9
      rcases lt7 hi9 with rfl | rfl | rfl | rfl | rfl | rfl | rfl
      ·
        clear hi9; intro C9 oC9 m9 h9 tk9 E9 extra9 hC9 hx9 F9 N9; simp only [List.cons_append, List.nil_append] at N9; replace hx9 : m9 (Str.ofString "j") = some (.int 0 t9) := hx9
        k_steps
        (rename Fr _ _ _ _ => F7); (rename News _ _ _ _ => N7)
        exact TEnd.val F7 N7 (fun p hp => hp) ⟨rfl, rfl⟩
      ·
        clear hi9; intro C9 oC9 m9 h9 tk9 E9 extra9 hC9 hx9 F9 N9; simp only [List.cons_append, List.nil_append] at N9; replace hx9 : m9 (Str.ofString "j") = some (.int 1 t9) := hx9
        k_steps
        (rename Fr _ _ _ _ => F7); (rename News _ _ _ _ => N7)
        exact TEnd.val F7 N7 (fun p hp => hp) ⟨rfl, rfl⟩
      ·
        clear hi9; intro C9 oC9 m9 h9 tk9 E9 extra9 hC9 hx9 F9 N9; simp only [List.cons_append, List.nil_append] at N9; replace hx9 : m9 (Str.ofString "j") = some (.int 2 t9) := hx9
        k_steps
        (rename Fr _ _ _ _ => F7); (rename News _ _ _ _ => N7)
        exact TEnd.val F7 N7 (fun p hp => hp) ⟨rfl, rfl⟩
      ·
        clear hi9; intro C9 oC9 m9 h9 tk9 E9 extra9 hC9 hx9 F9 N9; simp only [List.cons_append, List.nil_append] at N9; replace hx9 : m9 (Str.ofString "j") = some (.int 3 t9) := hx9
        k_steps
        (rename Fr _ _ _ _ => F7); (rename News _ _ _ _ => N7)
        exact TEnd.val F7 N7 (fun p hp => hp) ⟨rfl, rfl⟩
      ·
        clear hi9; intro C9 oC9 m9 h9 tk9 E9 extra9 hC9 hx9 F9 N9; simp only [List.cons_append, List.nil_append] at N9; replace hx9 : m9 (Str.ofString "j") = some (.int 4 t9) := hx9
        k_steps
        (rename Fr _ _ _ _ => F7); (rename News _ _ _ _ => N7)
        exact TEnd.val F7 N7 (fun p hp => hp) ⟨rfl, rfl⟩
      ·
        clear hi9; intro C9 oC9 m9 h9 tk9 E9 extra9 hC9 hx9 F9 N9; simp only [List.cons_append, List.nil_append] at N9; replace hx9 : m9 (Str.ofString "j") = some (.int 5 t9) := hx9
        k_steps
        (rename Fr _ _ _ _ => F7); (rename News _ _ _ _ => N7)
        exact TEnd.val F7 N7 (fun p hp => hp) ⟨rfl, rfl⟩
      ·
        clear hi9; intro C9 oC9 m9 h9 tk9 E9 extra9 hC9 hx9 F9 N9; simp only [List.cons_append, List.nil_append] at N9; replace hx9 : m9 (Str.ofString "j") = some (.int 6 t9) := hx9
        k_steps
        (rename Fr _ _ _ _ => F7); (rename News _ _ _ _ => N7)
        exact TEnd.val F7 N7 (fun p hp => hp) ⟨rfl, rfl⟩

    case' cfin =>
      intro g9 ys9 res9 hr9 hy9
      obtain ⟨rfl, rfl⟩ := rows_bools hr9 hy9
      clear F8 N8 hr9 hy9
      (first | unfold LCg.FinE | unfold LCg.FinA)
      intro D9 h9 tk9 F9 N9 o9
      (try simp only [List.cons_append, List.nil_append, List.append_nil, List.getD_cons_zero, List.getD_cons_succ] at N9))
  k_steps
  (rename Fr _ _ _ _ => F9); (rename News _ _ _ _ => N9)
  (rename Obj.data _ = Data.cell (some (Value.ref _)) => d9)
  exact H9 _ _ _ _ _ _ cx0 F9 (by (repeat first | exact News.nil | refine news_cons (N9 _ (by k_dflt k_mem)) ?_)) rfl rfl rfl rfl dbase dturn dmark dports dtold danswers dneeds ddues dtotal deven d9 dseen a0 a1 a2 a3 b0 b1 b2 b3 hb8 hb0 hb1 hc64 hc111 hc34 hc120 htl hll ha2 ha0 ha1 hd2 hd0 hd1 hpv hp2 hp0 hp1 hFin
end

-- S21
section
set_option maxHeartbeats 8000000 in
theorem st21c : P21 cS := by
  k_with_none
  w_top off
  k_with "own subscriptTail Name Constant ref int" => (k_here; (with_reducible show wpAny _ _ (subscriptTail _ _ (Value.ref _) (Value.int _ _)) _ _ _); k_dflt (refine item_litK (by is_list) (by decide) (by decide) (by rfl) ?_ (by with_unfolding_all rfl)))
  k_with "own call ref" => (k_here; k_dflt (refine call_aI (sp_iadd _ _ _ _ _ _ _ _) ?_; intro t' h' tk' F' N'; (try k_sweep); (try dsimp only); (try k_fold)))
  k_with "own storeName" => (k_here; k_dflt (refine storeN (by k_asm) (by k_asm) (by exact rfl) (by (repeat' first | ((with_reducible apply NcU.skip); exact rfl) | ((with_reducible apply NcU.cells); exact nodup_cells _) | (with_reducible apply NdU.head) | (with_reducible apply NdU.tail))) (by k_asm) ?_ (by exact rfl) (by exact rfl)); intro h' o' F' N' d'; (try dsimp only at N'); (try k_sweep); (try dsimp only))
  k_with "own call ref" => (k_here; k_dflt (refine call_spec (spI_worth2 _ _ _ ) (by k_asm) (by k_asm) (by k_asm) (by k_asm) (by k_asm) (by exact rfl) (by exact rfl) (by exact rfl) (by first | exact room1 (by assumption) rfl | exact room0 (by assumption) rfl | omega | ((try dsimp only [topA, Around.deeper, Around.in1]); omega)) (by first | exact room1 (by assumption) rfl | exact room0 (by assumption) rfl | omega | ((try dsimp only [topA, Around.deeper, Around.in1]); omega)) (by exact ⟨⟨_, News.get (by k_asm) (by k_mem), rfl, _, rfl⟩, need_lt (by omega) (by omega)⟩) ?_; intro v' h' tk' F' N' kk' q'; obtain ⟨t', e'⟩ := q'; subst e'; (try k_sweep); (try dsimp only)))
  k_with "own call ref" => (k_here; k_dflt (refine call_spec (spS_readings _ _ _ _ _ _ _ (by exact need_lt (by omega) (by omega)) (by exact need_lt (by omega) (by omega)) (by assumption) (by assumption) (by assumption)) (by k_asm) (by k_asm) (by k_asm) (by k_asm) (by k_asm) (by exact rfl) (by exact rfl) (by exact rfl) (by first | exact room1 (by assumption) rfl | exact room0 (by assumption) rfl | omega | ((try dsimp only [topA, Around.deeper, Around.in1]); omega)) (by first | exact room1 (by assumption) rfl | exact room0 (by assumption) rfl | omega | ((try dsimp only [topA, Around.deeper, Around.in1]); omega)) (by trivial) ?_; intro v' h' tk' F' N' kk' q'; obtain ⟨D', zn', X0', X1', X2', X3', X4', X5', X6', z0', z1', z2', z3', z4', z5', z6', e', hn', hD', hp'⟩ := q'; subst e'; have N2' := news_new (by assumption) hn' (news_many (by assumption) N' hp') hD'; clear N' hp' hn' hD'; simp only [List.cons_append, List.nil_append] at N2'; (try k_sweep); (try dsimp only)))
  unfold P21 II22 CC21
  intro H cx F N ecells ecode etail ea dbase dturn dmark dports dtold danswers dneeds ddues dtotal deven dsome dseen a0 a1 a2 a3 b0 b1 b2 b3 hb8 hb0 hb1 hc64 hc111 hc34 hc120 htl hll ha2 ha0 ha1 hd2 hd0 hd1 hpv hp2 hp0 hp1 hFin
  have H9 := fun (h' : Heap) (tk' : Nat) (m' : Str → Option Value) (oSeen' : Obj) (Dw : Addr) (zw : Nat) (W0 W1 W2 W3 W4 W5 W6 : Addr) (k0 k1 k2 k3 k4 k5 k6 : Nat) => H { cS with s := { cS.s with heap := h', toks := tk' }, m := m', oSeen := oSeen', Dw := Dw, zw := zw, W0 := W0, W1 := W1, W2 := W2, W3 := W3, W4 := W4, W5 := W5, W6 := W6, k0 := k0, k1 := k1, k2 := k2, k3 := k3, k4 := k4, k5 := k5, k6 := k6 }
  dsimp only [CC22] at H9
  clear H
  have cx0 := cx
  obtain ⟨hd, hu, B', X', T'⟩ := cx
  have F := fr_top F (ecells)
  have F := fr_top F ((if_neg (by decide)).trans (ecode))
  have F := fr_top F ((if_neg (by decide)).trans ((if_neg (by decide)).trans (etail)))
  have F := fr_top F ((if_neg (by decide)).trans ((if_neg (by decide)).trans ((if_neg (by decide)).trans (ea))))
  refine' law_go ?hq ?hs ?hc ?hb ?_
  case hq => exact rfl
  case hs => (conv => lhs; whnf)
  case hc => (conv => lhs; whnf)
  case hb => exact rfl
  (try dsimp only)
  (try k_fold)
  k_steps
  (rename Fr _ _ _ _ => F9); (rename News _ _ _ _ => N9)
  (rename Obj.data _ = Data.cell (some (Value.ref _)) => d9)
  exact H9 _ _ _ _ _ _ _ _ _ _ _ _ _ _ _ _ _ _ _ _ cx0 F9 (by (repeat first | exact News.nil | refine news_cons (N9 _ (by k_dflt k_mem)) ?_)) rfl rfl rfl rfl dbase dturn dmark dports dtold danswers dneeds ddues dtotal deven dsome d9 a0 a1 a2 a3 b0 b1 b2 b3 hb8 hb0 hb1 hc64 hc111 hc34 hc120 htl hll ha2 ha0 ha1 hd2 hd0 hd1 hpv hp2 hp0 hp1 hFin
end

-- S22
section
set_option maxHeartbeats 8000000 in
theorem st22c : P22 cS := by
  k_with_none
  w_top off
  k_with "own eval ListComp" => (k_here; (with_reducible show wpAny _ _ (eval (Expr.ListComp _ _ _ _) _) _ _ _); lcf_look; lcg_calm; k_dflt (refine LCg.ListComp_U (F₀ := by k_asm) (by with_unfolding_all rfl) (by decide) (by rfl) (by decide) (by rfl) ?_); k_dflt lcg_toSrc)
  k_with "own binaryOp Mult ref int" => (k_here; (with_reducible show wpAny _ _ (binaryOp Operator.Mult (Value.ref _) (Value.int _ _)) _ _ _); k_dflt (refine mul_lit (by k_asm) (by k_asm) (by k_mem) (by decide) (by decide) (by decide) (by first | exact (rfl : _ = #[_, _, _]) | exact (rfl : _ = #[_, _, _, _, _]) | exact (rfl : _ = #[_, _, _, _, _, _, _])) ?_); intro D' h' F' N' lt')
  k_with "own subscriptTail Name Name ref int" => (k_here; (with_reducible show wpAny _ _ (subscriptTail _ _ (Value.ref _) (Value.int _ _)) _ _ _); k_dflt (refine item_litK (by is_list) (by decide) (by decide) (by rfl) ?_ (by with_unfolding_all rfl)))
  k_with "own newList" => (k_here; (rename Fr _ _ _ _ => F9'); (rename News _ _ _ _ => N9'); k_dflt (refine newList_ne F9' N9' (by rfl) ?_); intro l' h' F' N' q'; (try k_sweep))
  k_with "own subscriptTail" => (k_here; (with_reducible show wpAny _ _ (subscriptTail _ _ (Value.ref _) (Value.int _ _)) _ _ _); k_dflt (refine item_litK (News.isList (by k_asm) (by k_mem)) (by decide) (by decide) (by rfl) ?_ (by with_unfolding_all rfl)))
  k_with "own call ref" => (k_here; k_dflt (refine call_spec (sp_same5 _ _ _ _ _ _ _ _ _ _ _ _ _ _ _ _ ) (by k_asm) (by k_asm) (by k_asm) (by k_asm) (by k_asm) (by exact rfl) (by exact rfl) (by exact rfl) (by first | exact room1 (by assumption) rfl | exact room0 (by assumption) rfl | omega | ((try dsimp only [topA, Around.deeper, Around.in1]); omega)) (by first | exact room1 (by assumption) rfl | exact room0 (by assumption) rfl | omega | ((try dsimp only [topA, Around.deeper, Around.in1]); omega)) (by exact ⟨⟨_, News.get (by k_asm) (by k_mem), rfl, _, rfl⟩, ⟨_, News.get (by k_asm) (by k_mem), rfl, _, rfl⟩⟩) ?_; intro v' h' tk' F' N' kk' q'; (try k_sweep); (try subst q'); (try dsimp only)))
  k_with "own compareOp NotEq ref ref" => (k_here; (with_reducible show wpAny _ _ (compareOp CmpOp.NotEq (Value.ref _) (Value.ref _)) _ _ _); k_dflt (refine ne_same (bs := [true, true, true, true, true, true, true]) (by k_asm) (by k_mem) (by k_mem) (by first | exact room1 (by assumption) rfl | exact room0 (by assumption) rfl | omega | ((try dsimp only [topA, Around.deeper, Around.in1]); omega)) ?_))
  k_with "own CompSrc" => (k_dflt (k_extra "my CompSrc"))
  unfold P22 II23 CC22
  intro H cx F N ecells ecode etail ea dbase dturn dmark dports dtold danswers dneeds ddues dtotal deven dsome dseen a0 a1 a2 a3 b0 b1 b2 b3 hb8 hb0 hb1 hc64 hc111 hc34 hc120 htl hll ha2 ha0 ha1 hd2 hd0 hd1 hpv hp2 hp0 hp1 hFin
  have H9 := fun (h' : Heap) (tk' : Nat) (m' : Str → Option Value) => H { cS with s := { cS.s with heap := h', toks := tk' }, m := m' }
  dsimp only [CC23] at H9
  clear H
  have cx0 := cx
  obtain ⟨hd, hu, B', X', T'⟩ := cx
  have hE : needE cS.pv cS.bv = (needE cS.av cS.bv + needE cS.bb cS.bv) % 64 := by rw [hpv]; exact need_add ha2 hd2 hb8
  have hS := seen_law (p := cS.pv) (need_lt ha2 hb8) (need_lt hd2 hb8) hE
  have F := fr_top F (ecells)
  have F := fr_top F ((if_neg (by decide)).trans (ecode))
  have F := fr_top F ((if_neg (by decide)).trans ((if_neg (by decide)).trans (etail)))
  have F := fr_top F ((if_neg (by decide)).trans ((if_neg (by decide)).trans ((if_neg (by decide)).trans (ea))))
  refine' law_go ?hq ?hs ?hc ?hb ?_
  case hq => exact rfl
  case hs => (conv => lhs; whnf)
  case hc => (conv => lhs; whnf)
  case hb => exact rfl
  (try dsimp only)
  (try k_fold)
  k_with "my CompSrc" => (
    (rename Fr _ _ _ _ => F8); (rename News _ _ _ _ => N8)
    refine' CompSrc.ownR 7 (TB [true, true, true, true, true, true, true]) ?ch F8 N8 ?chr ?csm ?chn ?csz ?cturn ?cfin
    case ch => exact rfl
    case chr => assumption
    case csm => exact rfl
    case chn => exact rfl
    case csz => exact rfl
    case cturn =>
      clear F8 N8
      intro g9 i9 v9 hi9 hv9
      obtain ⟨t9, rfl⟩ := hv9
      rcases lt7 hi9 with rfl | rfl | rfl | rfl | rfl | rfl | rfl
      ·
        clear hi9; intro C9 oC9 m9 h9 tk9 E9 extra9 hC9 hx9 F9 N9; simp only [List.cons_append, List.nil_append] at N9; replace hx9 : m9 (Str.ofString "j") = some (.int 0 t9) := hx9
        k_steps
        all_goals ((rename Fr _ _ _ _ => F7); (rename News _ _ _ _ => N7); have E7 := hS 0 (by decide); exact TEnd.val F7 N7 (fun p hp => by repeat (first | exact hp | refine List.Mem.tail _ ?_)) ⟨congrArg Value.bool (by first | exact seen_t E7.1 E7.2 (by first | assumption | exact decide_eq_true (by assumption)) | exact seen_f E7.1 E7.2 (by first | assumption | exact decide_eq_false (by assumption))), rfl⟩)
      ·
        clear hi9; intro C9 oC9 m9 h9 tk9 E9 extra9 hC9 hx9 F9 N9; simp only [List.cons_append, List.nil_append] at N9; replace hx9 : m9 (Str.ofString "j") = some (.int 1 t9) := hx9
        k_steps
        all_goals ((rename Fr _ _ _ _ => F7); (rename News _ _ _ _ => N7); have E7 := hS 1 (by decide); exact TEnd.val F7 N7 (fun p hp => by repeat (first | exact hp | refine List.Mem.tail _ ?_)) ⟨congrArg Value.bool (by first | exact seen_t E7.1 E7.2 (by first | assumption | exact decide_eq_true (by assumption)) | exact seen_f E7.1 E7.2 (by first | assumption | exact decide_eq_false (by assumption))), rfl⟩)
      ·
        clear hi9; intro C9 oC9 m9 h9 tk9 E9 extra9 hC9 hx9 F9 N9; simp only [List.cons_append, List.nil_append] at N9; replace hx9 : m9 (Str.ofString "j") = some (.int 2 t9) := hx9
        k_steps
        all_goals ((rename Fr _ _ _ _ => F7); (rename News _ _ _ _ => N7); have E7 := hS 2 (by decide); exact TEnd.val F7 N7 (fun p hp => by repeat (first | exact hp | refine List.Mem.tail _ ?_)) ⟨congrArg Value.bool (by first | exact seen_t E7.1 E7.2 (by first | assumption | exact decide_eq_true (by assumption)) | exact seen_f E7.1 E7.2 (by first | assumption | exact decide_eq_false (by assumption))), rfl⟩)
      ·
        clear hi9; intro C9 oC9 m9 h9 tk9 E9 extra9 hC9 hx9 F9 N9; simp only [List.cons_append, List.nil_append] at N9; replace hx9 : m9 (Str.ofString "j") = some (.int 3 t9) := hx9
        k_steps
        all_goals ((rename Fr _ _ _ _ => F7); (rename News _ _ _ _ => N7); have E7 := hS 3 (by decide); exact TEnd.val F7 N7 (fun p hp => by repeat (first | exact hp | refine List.Mem.tail _ ?_)) ⟨congrArg Value.bool (by first | exact seen_t E7.1 E7.2 (by first | assumption | exact decide_eq_true (by assumption)) | exact seen_f E7.1 E7.2 (by first | assumption | exact decide_eq_false (by assumption))), rfl⟩)
      ·
        clear hi9; intro C9 oC9 m9 h9 tk9 E9 extra9 hC9 hx9 F9 N9; simp only [List.cons_append, List.nil_append] at N9; replace hx9 : m9 (Str.ofString "j") = some (.int 4 t9) := hx9
        k_steps
        all_goals ((rename Fr _ _ _ _ => F7); (rename News _ _ _ _ => N7); have E7 := hS 4 (by decide); exact TEnd.val F7 N7 (fun p hp => by repeat (first | exact hp | refine List.Mem.tail _ ?_)) ⟨congrArg Value.bool (by first | exact seen_t E7.1 E7.2 (by first | assumption | exact decide_eq_true (by assumption)) | exact seen_f E7.1 E7.2 (by first | assumption | exact decide_eq_false (by assumption))), rfl⟩)
      ·
        clear hi9; intro C9 oC9 m9 h9 tk9 E9 extra9 hC9 hx9 F9 N9; simp only [List.cons_append, List.nil_append] at N9; replace hx9 : m9 (Str.ofString "j") = some (.int 5 t9) := hx9
        k_steps
        all_goals ((rename Fr _ _ _ _ => F7); (rename News _ _ _ _ => N7); have E7 := hS 5 (by decide); exact TEnd.val F7 N7 (fun p hp => by repeat (first | exact hp | refine List.Mem.tail _ ?_)) ⟨congrArg Value.bool (by first | exact seen_t E7.1 E7.2 (by first | assumption | exact decide_eq_true (by assumption)) | exact seen_f E7.1 E7.2 (by first | assumption | exact decide_eq_false (by assumption))), rfl⟩)
      ·
        clear hi9; intro C9 oC9 m9 h9 tk9 E9 extra9 hC9 hx9 F9 N9; simp only [List.cons_append, List.nil_append] at N9; replace hx9 : m9 (Str.ofString "j") = some (.int 6 t9) := hx9
        k_steps
        all_goals ((rename Fr _ _ _ _ => F7); (rename News _ _ _ _ => N7); have E7 := hS 6 (by decide); exact TEnd.val F7 N7 (fun p hp => by repeat (first | exact hp | refine List.Mem.tail _ ?_)) ⟨congrArg Value.bool (by first | exact seen_t E7.1 E7.2 (by first | assumption | exact decide_eq_true (by assumption)) | exact seen_f E7.1 E7.2 (by first | assumption | exact decide_eq_false (by assumption))), rfl⟩)

    case' cfin =>
      intro g9 ys9 res9 hr9 hy9
      obtain ⟨rfl, rfl⟩ := rows_bools hr9 hy9
      clear F8 N8 hr9 hy9
      (first | unfold LCg.FinE | unfold LCg.FinA)
      intro D9 h9 tk9 F9 N9 o9
      (try simp only [List.cons_append, List.nil_append, List.append_nil, List.getD_cons_zero, List.getD_cons_succ] at N9))
  k_steps
  (rename Fr _ _ _ _ => F9); (rename News _ _ _ _ => N9)
  exact H9 _ _ _ cx0 F9 (by (repeat first | exact News.nil | refine news_cons (N9 _ (by k_dflt k_mem)) ?_)) rfl rfl rfl rfl dbase dturn dmark dports dtold danswers dneeds ddues dtotal deven dsome dseen a0 a1 a2 a3 b0 b1 b2 b3 hb8 hb0 hb1 hc64 hc111 hc34 hc120 htl hll ha2 ha0 ha1 hd2 hd0 hd1 hpv hp2 hp0 hp1 hFin
end

-- S23
section
set_option maxHeartbeats 8000000 in
theorem st23c : P23 cS := by
  k_with_none
  w_top off
  k_with "own binaryOp Mod int int" => (k_here; (with_reducible refine mod_e ?_ ?_); (focus (first | decide | omega)); intro k')
  k_with "own eval ListComp" => (k_here; (with_reducible show wpAny _ _ (eval (Expr.ListComp _ _ _ _) _) _ _ _); lcg_look; lcg_calm; k_dflt (refine LCg.ListComp_U (F₀ := by k_asm) (by rfl) (by decide) (by rfl) (by decide) (by rfl) ?_); k_dflt lcg_toSrc)
  k_with "own newList" => (k_here; (rename Fr _ _ _ _ => F9'); (rename News _ _ _ _ => N9'); k_dflt (refine newList_ne F9' N9' (by rfl) ?_); intro l' h' F' N' q'; (try k_sweep))
  k_with "own call ref" => (k_here; k_dflt (refine call_aB (sp_table _ _ _ _ _ _ (by first | assumption | omega)) ?_; intro h' tk' F' N'; (try k_sweep); (try dsimp only); (try k_fold)))
  k_with "own call ref" => (k_here; k_dflt (refine call_aB (sp_tableI _ _ _ _ _ _ (by first | assumption | omega) (by first | assumption | omega)) ?_; intro h' tk' F' N'; (try k_sweep); (try dsimp only); (try k_fold)))
  k_with "own exec Assign cons ListComp" => (k_here; lcg_look; lcg_calm; k_dflt (refine LCg.Assign_ListComp_U (F₀ := by k_asm) (by rfl) (by with_unfolding_all rfl) (by rfl) (by decide) (by rfl) (by decide) (by rfl) (by rfl) (by rfl) ?_))
  k_with "own CompSrc" => (k_dflt (k_extra "my CompSrc"))
  unfold P23 II24 CC23
  intro H cx F N ecells ecode etail ea dbase dturn dmark dports dtold danswers dneeds ddues dtotal deven dsome dseen a0 a1 a2 a3 b0 b1 b2 b3 hb8 hb0 hb1 hc64 hc111 hc34 hc120 htl hll ha2 ha0 ha1 hd2 hd0 hd1 hpv hp2 hp0 hp1 hFin
  have H9 := fun (h' : Heap) (tk' : Nat) (m' : Str → Option Value) (Dh : Addr) (zh : Nat) => H { cS with s := { cS.s with heap := h', toks := tk' }, m := m', Dh := Dh, zh := zh }
  dsimp only [CC24] at H9
  clear H
  have cx0 := cx
  obtain ⟨hd, hu, B', X', T'⟩ := cx
  have F := fr_top F (ecells)
  have F := fr_top F ((if_neg (by decide)).trans (ecode))
  have F := fr_top F ((if_neg (by decide)).trans ((if_neg (by decide)).trans (etail)))
  have F := fr_top F ((if_neg (by decide)).trans ((if_neg (by decide)).trans ((if_neg (by decide)).trans (ea))))
  refine' law_go ?hq ?hs ?hc ?hb ?_
  case hq => exact rfl
  case hs => (conv => lhs; whnf)
  case hc => (conv => lhs; whnf)
  case hb => exact rfl
  (try dsimp only)
  (try k_fold)
  k_with "my CompSrc" => (first
   | (
    (rename Fr _ _ _ _ => F8); (rename News _ _ _ _ => N8)
    refine' CompSrc.own (TSign [cS.c0, cS.c1, cS.c2, cS.c3]) ?ch0 F8 N8 ?chm0 ?csz0 ?cturn0 ?cfin0
    case ch0 => exact rfl
    case chm0 => k_mem
    case csz0 => exact rfl
    case cturn0 =>
      clear F8 N8
      intro g9 i9 v9 hi9 hv9
      obtain ⟨p9, t9, rfl, hp9, hp90, hp91⟩ := item4 (lo := -(2^40)) (hi := 2^40) hv9 ⟨a0, b0⟩ ⟨a1, b1⟩ ⟨a2, b2⟩ ⟨a3, b3⟩
      clear hv9 hi9
      intro C9 oC9 m9 h9 tk9 E9 extra9 hC9 hx9 F9 N9
      simp only [List.cons_append, List.nil_append] at N9
      k_steps
      (rename Fr _ _ _ _ => F7); (rename News _ _ _ _ => N7)
      exact TEnd.val F7 N7 (fun p hp => by repeat (first | exact hp | refine List.Mem.tail _ ?_)) (item4_sign hp9)
    case' cfin0 =>
      intro g9 ys9 res9 hr9 hy9
      obtain ⟨yy0, yy1, yy2, yy3, o0, o1, o2, o3, rfl, rfl, ⟨⟨r0, rfl⟩, rfl⟩, ⟨⟨r1, rfl⟩, rfl⟩, ⟨⟨r2, rfl⟩, rfl⟩, ⟨⟨r3, rfl⟩, rfl⟩⟩ := rows4 hr9 hy9
      simp only [List.getD_cons_zero, List.getD_cons_succ]
      clear F8 N8 hr9 hy9
      (first | unfold LCg.FinE | unfold LCg.FinA)
      intro D9 h9 tk9 F9 N9 o9
      (try simp only [List.cons_append, List.nil_append, List.append_nil, List.getD_cons_zero, List.getD_cons_succ] at N9))
   | (
    (rename Fr _ _ _ _ => F8); (rename News _ _ _ _ => N8)
    refine' CompSrc.own (TB [tab (64960 + cS.c0 % 64), tab (64960 + cS.c1 % 64), tab (64960 + cS.c2 % 64), tab (64960 + cS.c3 % 64), tab (cS.c : Int)]) ?ch1 F8 N8 ?chm1 ?csz1 ?cturn1 ?cfin1
    case ch1 => exact rfl
    case chm1 => k_mem
    case csz1 => exact rfl
    case cturn1 =>
      clear F8 N8
      intro g9 i9 v9 hi9 hv9
      have hi5 : i9 = 0 ∨ i9 = 1 ∨ i9 = 2 ∨ i9 = 3 ∨ i9 = 4 := lt5 hi9
      rcases hi5 with rfl | rfl | rfl | rfl | rfl
      ·
        have hw9 := Option.some.inj (arr5_0.symm.trans hv9); clear hv9; subst hw9
        clear hi9; intro C9 oC9 m9 h9 tk9 E9 extra9 hC9 hx9 F9 N9; simp only [List.cons_append, List.nil_append] at N9
        k_steps
        (rename Fr _ _ _ _ => F7); (rename News _ _ _ _ => N7)
        exact TEnd.val F7 N7 (fun p hp => hp) (tb_at (by simp only [List.getD_cons_succ, List.getD_cons_zero]))
      ·
        have hw9 := Option.some.inj (arr5_1.symm.trans hv9); clear hv9; subst hw9
        clear hi9; intro C9 oC9 m9 h9 tk9 E9 extra9 hC9 hx9 F9 N9; simp only [List.cons_append, List.nil_append] at N9
        k_steps
        (rename Fr _ _ _ _ => F7); (rename News _ _ _ _ => N7)
        exact TEnd.val F7 N7 (fun p hp => hp) (tb_at (by simp only [List.getD_cons_succ, List.getD_cons_zero]))
      ·
        have hw9 := Option.some.inj (arr5_2.symm.trans hv9); clear hv9; subst hw9
        clear hi9; intro C9 oC9 m9 h9 tk9 E9 extra9 hC9 hx9 F9 N9; simp only [List.cons_append, List.nil_append] at N9
        k_steps
        (rename Fr _ _ _ _ => F7); (rename News _ _ _ _ => N7)
        exact TEnd.val F7 N7 (fun p hp => hp) (tb_at (by simp only [List.getD_cons_succ, List.getD_cons_zero]))
      ·
        have hw9 := Option.some.inj (arr5_3.symm.trans hv9); clear hv9; subst hw9
        clear hi9; intro C9 oC9 m9 h9 tk9 E9 extra9 hC9 hx9 F9 N9; simp only [List.cons_append, List.nil_append] at N9
        k_steps
        (rename Fr _ _ _ _ => F7); (rename News _ _ _ _ => N7)
        exact TEnd.val F7 N7 (fun p hp => hp) (tb_at (by simp only [List.getD_cons_succ, List.getD_cons_zero]))
      ·
        have hw9 := Option.some.inj (arr5_4.symm.trans hv9); clear hv9; subst hw9
        clear hi9; intro C9 oC9 m9 h9 tk9 E9 extra9 hC9 hx9 F9 N9; simp only [List.cons_append, List.nil_append] at N9
        k_steps
        (rename Fr _ _ _ _ => F7); (rename News _ _ _ _ => N7)
        exact TEnd.val F7 N7 (fun p hp => hp) (tb_at (by simp only [List.getD_cons_succ, List.getD_cons_zero]))

    case' cfin1 =>
      intro g9 ys9 res9 hr9 hy9
      obtain ⟨rfl, rfl⟩ := rows_bools hr9 (by simpa using hy9)
      rw [held_obj]
      clear F8 N8 hr9 hy9
      (first | unfold LCg.FinE | unfold LCg.FinA)
      intro D9 h9 tk9 F9 N9 o9
      (try simp only [List.cons_append, List.nil_append, List.append_nil, List.getD_cons_zero, List.getD_cons_succ] at N9)))
  k_steps
  (rename Fr _ _ _ _ => F9); (rename News _ _ _ _ => N9)
  exact H9 _ _ _ _ _ cx0 F9 (by (repeat first | exact News.nil | refine news_cons (N9 _ (by k_dflt k_mem)) ?_)) rfl rfl rfl rfl rfl dbase dturn dmark dports dtold danswers dneeds ddues dtotal deven dsome dseen a0 a1 a2 a3 b0 b1 b2 b3 hb8 hb0 hb1 hc64 hc111 hc34 hc120 htl hll ha2 ha0 ha1 hd2 hd0 hd1 hpv hp2 hp0 hp1 hFin
end

-- S24
section
set_option maxHeartbeats 8000000 in
theorem st24c : P24 cS := by
  k_with_none
  w_top off
  k_with "own binaryOp Mod int int" => (k_here; (with_reducible refine mod_e ?_ ?_); (focus (first | decide | omega)); intro k')
  k_with "own eval ListComp" => (k_here; (with_reducible show wpAny _ _ (eval (Expr.ListComp _ _ _ _) _) _ _ _); lcg_look; lcg_calm; k_dflt (refine LCg.ListComp_U (F₀ := by k_asm) (by rfl) (by decide) (by rfl) (by decide) (by rfl) ?_); k_dflt lcg_toSrc)
  k_with "own newList" => (k_here; (rename Fr _ _ _ _ => F9'); (rename News _ _ _ _ => N9'); k_dflt (refine newList_ne F9' N9' (by rfl) ?_); intro l' h' F' N' q'; (try k_sweep))
  k_with "own CompSrc" => (k_dflt (k_extra "my CompSrc"))
  unfold P24 II25 CC24
  intro H cx F N ecells ecode etail ea eheld dbase dturn dmark dports dtold danswers dneeds ddues dtotal deven dsome dseen a0 a1 a2 a3 b0 b1 b2 b3 hb8 hb0 hb1 hc64 hc111 hc34 hc120 htl hll ha2 ha0 ha1 hd2 hd0 hd1 hpv hp2 hp0 hp1 hFin
  have H9 := fun (h' : Heap) (tk' : Nat) (m' : Str → Option Value) (Dr : Addr) (zr : Nat) => H { cS with s := { cS.s with heap := h', toks := tk' }, m := m', Dr := Dr, zr := zr }
  dsimp only [CC25] at H9
  clear H
  have cx0 := cx
  obtain ⟨hd, hu, B', X', T'⟩ := cx
  have F := fr_top F (ecells)
  have F := fr_top F ((if_neg (by decide)).trans (ecode))
  have F := fr_top F ((if_neg (by decide)).trans ((if_neg (by decide)).trans (etail)))
  have F := fr_top F ((if_neg (by decide)).trans ((if_neg (by decide)).trans ((if_neg (by decide)).trans (ea))))
  have F := fr_top F ((if_neg (by decide)).trans ((if_neg (by decide)).trans ((if_neg (by decide)).trans ((if_neg (by decide)).trans (eheld)))))
  refine' law_go ?hq ?hs ?hc ?hb ?_
  case hq => exact rfl
  case hs => (conv => lhs; whnf)
  case hc => (conv => lhs; whnf)
  case hb => exact rfl
  (try dsimp only)
  (try k_fold)
  k_with "my CompSrc" => (
    (rename Fr _ _ _ _ => F8); (rename News _ _ _ _ => N8)
    refine' CompSrc.own (TTab [cS.c0, cS.c1, cS.c2, cS.c3]) ?ch F8 N8 ?chm ?csz ?cturn ?cfin
    case ch => exact rfl
    case chm => k_mem
    case csz => exact rfl
    case cturn =>
      clear F8 N8
      intro g9 i9 v9 hi9 hv9
      obtain ⟨p9, t9, rfl, hp9, hp90, hp91⟩ := item4 (lo := -(2^40)) (hi := 2^40) hv9 ⟨a0, b0⟩ ⟨a1, b1⟩ ⟨a2, b2⟩ ⟨a3, b3⟩
      clear hv9 hi9
      intro C9 oC9 m9 h9 tk9 E9 extra9 hC9 hx9 F9 N9
      simp only [List.cons_append, List.nil_append] at N9
      k_steps
      all_goals ((rename Fr _ _ _ _ => F7); (rename News _ _ _ _ => N7); exact TEnd.val F7 N7 (fun p hp => by repeat (first | exact hp | refine List.Mem.tail _ ?_)) (by first | exact item4_tab hp9 (near_1 (by assumption)) | exact item4_tab hp9 (near_2 (by assumption))))
    case' cfin =>
      intro g9 ys9 res9 hr9 hy9
      obtain ⟨yy0, yy1, yy2, yy3, o0, o1, o2, o3, rfl, rfl, ⟨rfl, rfl⟩, ⟨rfl, rfl⟩, ⟨rfl, rfl⟩, ⟨rfl, rfl⟩⟩ := rows4 hr9 hy9
      clear F8 N8 hr9 hy9
      (first | unfold LCg.FinE | unfold LCg.FinA)
      intro D9 h9 tk9 F9 N9 o9
      (try simp only [List.cons_append, List.nil_append, List.append_nil, List.getD_cons_zero, List.getD_cons_succ] at N9))
  k_steps
  · (rename Fr _ _ _ _ => F9); (rename News _ _ _ _ => N9)
    rw [nearc_1 (by assumption) (by omega)] at N9
    exact H9 _ _ _ _ _ cx0 F9 (by (repeat first | exact News.nil | refine news_cons (N9 _ (by k_dflt k_mem)) ?_)) rfl rfl rfl rfl rfl rfl dbase dturn dmark dports dtold danswers dneeds ddues dtotal deven dsome dseen a0 a1 a2 a3 b0 b1 b2 b3 hb8 hb0 hb1 hc64 hc111 hc34 hc120 htl hll ha2 ha0 ha1 hd2 hd0 hd1 hpv hp2 hp0 hp1 hFin
  · (rename Fr _ _ _ _ => F9); (rename News _ _ _ _ => N9)
    rw [nearc_2 (by assumption) (by assumption)] at N9
    exact H9 _ _ _ _ _ cx0 F9 (by (repeat first | exact News.nil | refine news_cons (N9 _ (by k_dflt k_mem)) ?_)) rfl rfl rfl rfl rfl rfl dbase dturn dmark dports dtold danswers dneeds ddues dtotal deven dsome dseen a0 a1 a2 a3 b0 b1 b2 b3 hb8 hb0 hb1 hc64 hc111 hc34 hc120 htl hll ha2 ha0 ha1 hd2 hd0 hd1 hpv hp2 hp0 hp1 hFin
  · (rename Fr _ _ _ _ => F9); (rename News _ _ _ _ => N9)
    rw [nearc_3 (by assumption)] at N9
    exact H9 _ _ _ _ _ cx0 F9 (by (repeat first | exact News.nil | refine news_cons (N9 _ (by k_dflt k_mem)) ?_)) rfl rfl rfl rfl rfl rfl dbase dturn dmark dports dtold danswers dneeds ddues dtotal deven dsome dseen a0 a1 a2 a3 b0 b1 b2 b3 hb8 hb0 hb1 hc64 hc111 hc34 hc120 htl hll ha2 ha0 ha1 hd2 hd0 hd1 hpv hp2 hp0 hp1 hFin
end

-- Nest3
section
/-- the values zs stand, one by one, for the items: each an object that is in the ledger -/
inductive GotR (T : Value → Obj → Prop) (acc : List (Addr × Obj)) : List Value → List Value → Prop
  | nil : GotR T acc [] []
  | cons {v X oX r zs} : (X, oX) ∈ acc → T v oX → GotR T acc r zs → GotR T acc (v :: r) (.ref X :: zs)
theorem GotR.mono {T : Value → Obj → Prop} {acc acc' : List (Addr × Obj)} (s : ∀ p ∈ acc, p ∈ acc') {l zs : List Value} (h : GotR T acc l zs) : GotR T acc' l zs := by
  induction h with
  | nil => exact .nil
  | cons a b _ ih => exact .cons (s _ a) b ih
/-- and so for the items of items -/
inductive GotO (TI : Value → List Value → Prop) (TX : Value → Value → Obj → Prop) (acc : List (Addr × Obj)) : List Value → List Value → Prop
  | nil : GotO TI TX acc [] []
  | cons {v its2 r zs zs2} : TI v its2 → GotR (TX v) acc its2 zs → GotO TI TX acc r zs2 → GotO TI TX acc (v :: r) (zs ++ zs2)
section
variable {prog : Program} {w : World} {A : Around} {s : Shared} {h₀ : Heap} {L : Addr} {m : Str → Option Value} {env : Env} {elt i2 : Expr} {x1 x2 : Str} {v1 : Value} {scope : Scope} {cl : List (Str × Addr)} {Fin : List Value → List (Addr × Obj) → Prop}
def TurnC (prog : Program) (w : World) (A : Around) (h₀ : Heap) (L : Addr) (m : Str → Option Value) (env : Env) (e : Expr) (scope : Scope) (cl : List (Str × Addr)) (s : Shared) (news0 : List (Addr × Obj)) (K : (Str → Option Value) → Prop) (T : Obj → Prop) : Prop :=
  ∀ (C : Addr) (oC : Obj) (m₂ : Str → Option Value) (h : Heap) (tk : Nat) (E' : Value → Shared → Prop) (extra : List (Addr × Obj)), LCg.NsObj oC m₂ → K m₂ → Fr h₀ L h m → News h₀ L h ((C, oC) :: (news0 ++ extra)) →
    wpAny (model prog w) A (eval e (compEnvC scope cl C env)) (TEnd h₀ L m { s with heap := h, toks := tk } ((C, oC) :: (news0 ++ extra)) (fun y objs => ∃ X oX, y = .ref X ∧ objs = [(X, oX)] ∧ T oX)) E' { s with heap := h, toks := tk }
theorem NR.own {news0 : List (Addr × Obj)} {P2 : Value → Prop} {TX : Value → Obj → Prop} (turn : ∀ v2, P2 v2 → TurnC prog w A h₀ L m env elt scope cl s news0 (fun m₂ => m₂ x1 = some v1 ∧ m₂ x2 = some v2) (TX v2)) :
    ∀ (its2 ys : List Value) (acc : List (Addr × Obj)), (∀ v ∈ its2, P2 v) → (∀ p ∈ news0, p ∈ acc) → (∀ zs acc', (∀ p ∈ acc, p ∈ acc') → GotR TX acc' its2 zs → Fin (ys ++ zs) acc') → NR prog w A h₀ L m env elt x1 x2 v1 scope cl s Fin its2 ys acc
  | [], ys, acc, _, _, fin => NR.nil (by simpa using fin [] acc (fun _ h => h) .nil)
  | v2 :: r, ys, acc, hP, hsub, fin => by
    refine NR.cons ?_
    intro I2 oI2 I1 oI1 C oC D m₂ h tk E' hC h1 h2 F N off ne
    refine wpAny_mono (turn v2 (hP v2 (.head _)) C oC m₂ h tk E' ((I2, oI2) :: (I1, oI1) :: (C, oC) :: (D, LCg.lst ys) :: acc) hC ⟨h1, h2⟩ F (fun p hp => ?_)) (fun y s₂ hy => ?_) fun _ _ e => e
    · rcases List.mem_cons.mp hp with rfl | hp
      · exact N _ (.tail _ (.tail _ (.head _)))
      rcases List.mem_append.mp hp with hp | hp
      · exact N _ (.tail _ (.tail _ (.tail _ (.tail _ (hsub p hp)))))
      · exact N _ hp
    · obtain ⟨h', tk', objs, rfl, F', N', hne, X, oX, rfl, rfl, hT⟩ := hy
      have hn := hne _ (.head _)
      have up : ∀ p ∈ (I2, oI2) :: (I1, oI1) :: (C, oC) :: (D, LCg.lst ys) :: acc, p ∈ (C, oC) :: (news0 ++ (I2, oI2) :: (I1, oI1) :: (C, oC) :: (D, LCg.lst ys) :: acc) := fun p hp => .tail _ (List.mem_append_right _ hp)
      refine NEnd.intro (X := X) (oX := oX) F' (fun p hp => ?_) ⟨Ne.symm (hn _ (up _ (.head _))), Ne.symm (hn _ (up _ (.tail _ (.head _)))), Ne.symm (hn _ (up _ (.tail _ (.tail _ (.head _))))), Ne.symm (hn _ (up _ (.tail _ (.tail _ (.tail _ (.head _))))))⟩ ?_
      · rcases List.mem_cons.mp hp with rfl | hp
        · exact N' _ (.head _)
        · exact N' _ (.tail _ (up p hp))
      · exact NR.own turn r (ys ++ [.ref X]) ((X, oX) :: acc) (fun v hv => hP v (.tail _ hv)) (fun p hp => .tail _ (hsub p hp)) fun zs acc' hs hg => by
          have := fin (.ref X :: zs) acc' (fun p hp => hs p (.tail _ hp)) (.cons (hs _ (.head _)) hT hg)
          rwa [List.append_cons] at this
theorem OR.own {news0 : List (Addr × Obj)} {P1 P2 : Value → Prop} {TI : Value → List Value → Prop} {TX : Value → Value → Obj → Prop} (hTI : ∀ v its2, TI v its2 → its2.length ≤ 8 ∧ ∀ u ∈ its2, P2 u)
    (outer : ∀ v1, P1 v1 → TurnC prog w A h₀ L m env i2 scope cl s news0 (fun m₂ => m₂ x1 = some v1) (fun o => ∃ its2 k, o = listOf its2.toArray k ∧ TI v1 its2))
    (turn : ∀ v1 v2, P1 v1 → P2 v2 → TurnC prog w A h₀ L m env elt scope cl s news0 (fun m₂ => m₂ x1 = some v1 ∧ m₂ x2 = some v2) (TX v1 v2)) :
    ∀ (its ys : List Value) (acc : List (Addr × Obj)), (∀ v ∈ its, P1 v) → (∀ p ∈ news0, p ∈ acc) → (∀ zs acc', (∀ p ∈ acc, p ∈ acc') → GotO TI TX acc' its zs → Fin (ys ++ zs) acc') → OR prog w A h₀ L m env elt i2 x1 x2 scope cl s Fin its ys acc
  | [], ys, acc, _, _, fin => OR.nil (by simpa using fin [] acc (fun _ h => h) .nil)
  | v1 :: r, ys, acc, hP, hsub, fin => by
    refine OR.cons ?_
    intro I1 oI1 C oC D m₂ h tk E' hC h1 F N off ne
    refine wpAny_mono (outer v1 (hP v1 (.head _)) C oC m₂ h tk E' ((I1, oI1) :: (C, oC) :: (D, LCg.lst ys) :: acc) hC h1 F (fun p hp => ?_)) (fun y s₂ hy => ?_) fun _ _ e => e
    · rcases List.mem_cons.mp hp with rfl | hp
      · exact N _ (.tail _ (.head _))
      rcases List.mem_append.mp hp with hp | hp
      · exact N _ (.tail _ (.tail _ (.tail _ (hsub p hp))))
      · exact N _ hp
    · obtain ⟨h', tk', objs, rfl, F', N', hne, X, oX, rfl, rfl, its2, k, rfl, hT⟩ := hy
      have hn := hne _ (.head _)
      have up : ∀ p ∈ (I1, oI1) :: (C, oC) :: (D, LCg.lst ys) :: acc, p ∈ (C, oC) :: (news0 ++ (I1, oI1) :: (C, oC) :: (D, LCg.lst ys) :: acc) := fun p hp => .tail _ (List.mem_append_right _ hp)
      refine IEnd.intro (X := X) (k := k) F' (fun p hp => ?_) ⟨Ne.symm (hn _ (up _ (.head _))), Ne.symm (hn _ (up _ (.tail _ (.head _)))), Ne.symm (hn _ (up _ (.tail _ (.tail _ (.head _)))))⟩ (hTI _ _ hT).1 ?_
      · rcases List.mem_cons.mp hp with rfl | hp
        · exact N' _ (.head _)
        · exact N' _ (.tail _ (up p hp))
      · refine NR.own (turn v1 · (hP v1 (.head _))) its2 ys _ (hTI _ _ hT).2 (fun p hp => .tail _ (hsub p hp)) fun zs acc1 hs1 hg => ?_
        refine OR.own hTI outer turn r (ys ++ zs) acc1 (fun v hv => hP v (.tail _ hv)) (fun p hp => hs1 p (.tail _ (hsub p hp))) fun zs2 acc2 hs2 hg2 => ?_
        have := fin (zs ++ zs2) acc2 (fun p hp => hs2 p (hs1 p (.tail _ hp))) (.cons hT (hg.mono hs2) hg2)
        rwa [← List.append_assoc] at this
end
theorem newList_nf {M : Model} {A : Around} {E : Value → Shared → Prop} {s : Shared} {h₀ : Heap} {L : Addr} {m : Str → Option Value} {news : List (Addr × Obj)} {vs : List Value} {Q : Value → Shared → Prop} (F : Fr h₀ L s.heap m) (N : News h₀ L s.heap news) (hs : Nat.ble vs.length sizeLine = true)
    (h : ∀ l h', Fr h₀ L h' m → News h₀ L h' ((l, listOf vs.toArray 0) :: news) → AllNe l news → Q (.ref l) { s with heap := h' }) : wpAny M A (newList vs) Q E s :=
  newList_own F N hs fun l h' F' N' lt => h l h' F' N' (allNe_lt lt)
/-- rows of two texts, one by one -/
inductive Due (acc : List (Addr × Obj)) : List (Str × Str) → List Value → Prop
  | nil : Due acc [] []
  | cons {X k x t u c qs zs} : (X, listOf [.str k t, .str x u].toArray c) ∈ acc → Due acc qs zs → Due acc ((k, x) :: qs) (.ref X :: zs)
theorem Due.mono {acc acc' : List (Addr × Obj)} (s : ∀ p ∈ acc, p ∈ acc') {qs : List (Str × Str)} {zs : List Value} (h : Due acc qs zs) : Due acc' qs zs := by
  induction h with
  | nil => exact .nil
  | cons a _ ih => exact .cons (s _ a) ih
theorem Due.app {acc : List (Addr × Obj)} {qs qs' : List (Str × Str)} {zs zs' : List Value} (h : Due acc qs zs) (h' : Due acc qs' zs') : Due acc (qs ++ qs') (zs ++ zs') := by
  induction h with
  | nil => exact h'
  | cons a _ ih => exact .cons a ih
theorem Due.len {acc : List (Addr × Obj)} {qs : List (Str × Str)} {zs : List Value} (h : Due acc qs zs) : zs.length = qs.length := by
  induction h with
  | nil => rfl
  | cons _ _ ih => exact congrArg Nat.succ ih
theorem Due.rows {acc : List (Addr × Obj)} {qs : List (Str × Str)} {zs : List Value} (h : Due acc qs zs) : ∃ l : List Row2, zs = l.map (fun r => Value.ref r.a) ∧ l.map (fun r => (r.k, r.x)) = qs ∧ ∀ r ∈ l, (r.a, r.obj) ∈ acc := by
  induction h with
  | nil => exact ⟨[], rfl, rfl, fun _ h => nomatch h⟩
  | @cons X k x t u c qs zs a _ ih =>
    obtain ⟨l, e1, e2, e3⟩ := ih
    exact ⟨⟨X, k, x, t, u, c⟩ :: l, by rw [e1]; rfl, by rw [← e2]; rfl, fun r hr => (List.mem_cons.mp hr).elim (fun e => e ▸ a) (e3 r)⟩
def txt : Value → Str
  | .str x _ => x
  | _ => default
/-- an item v of the outer list, a text of the inner one: the row that is made of them -/
def TXr (k : Str) (v v2 : Value) (o : Obj) : Prop := ∃ t u c, o = listOf [.str k t, .str (txt v ++ txt v2) u].toArray c
def TIr (a b : Str) (_ : Value) (its2 : List Value) : Prop := ∃ t u, its2 = [.str a t, .str b u]
theorem GotO.due {a b k : Str} {acc : List (Addr × Obj)} {its zs : List Value} (h : GotO (TIr a b) (TXr k) acc its zs) : Due acc (its.flatMap fun v => [(k, txt v ++ a), (k, txt v ++ b)]) zs := by
  induction h with
  | nil => exact .nil
  | cons hI hR _ ih =>
    obtain ⟨t, u, rfl⟩ := hI
    cases hR with | cons m1 h1 hR => ?_
    cases hR with | cons m2 h2 hR => ?_
    cases hR
    obtain ⟨_, _, _, rfl⟩ := h1
    obtain ⟨_, _, _, rfl⟩ := h2
    exact .cons m1 (.cons m2 ih)
def TDue (q : List (Str × Str)) (i : Nat) (y : Value) (objs : List (Addr × Obj)) : Prop := ∃ X t u c k x, q[i]? = some (k, x) ∧ y = .ref X ∧ objs = [(X, listOf [.str k t, .str x u].toArray c)]
theorem Rows.due {q : List (Str × Str)} {i : Nat} {ys : List Value} {res : List (Addr × Obj)} (h : Rows (TDue q) i ys res) : i + ys.length = q.length → Due res (q.drop i) ys := by
  induction h with
  | @nil i => intro e; rw [show q.drop i = [] from List.drop_eq_nil_of_le (Nat.le_of_eq (Eq.symm e))]; exact .nil
  | @cons i y ys objs res h1 _ ih =>
    intro e
    obtain ⟨X, t, u, c, k, x, hq, rfl, rfl⟩ := h1
    obtain ⟨hi, hq⟩ := List.getElem?_eq_some_iff.mp hq
    rw [List.drop_eq_getElem_cons hi, hq]
    rw [List.length_cons, Nat.add_comm ys.length, ← Nat.add_assoc] at e
    exact .cons (.head _) ((ih e).mono fun p hp => .tail _ hp)
section
variable {prog : Program} {w : World} {A : Around} {h₀ : Heap} {L : Addr} {m : Str → Option Value} {env : Env} {elt : Expr} {x : Str} {scope : Scope} {cl : List (Str × Addr)} {news0 : List (Addr × Obj)}
/-- rows of two texts made of a list's texts -/
theorem CompSrc.due {Q : Shared → List Value → List (Addr × Obj) → Prop} {ax : Addr} {l : List Value} {k : Nat} {s₁ : Shared} (f : Value → Str × Str) (P : Value → Prop) (hh : A.handled = none) (F : Fr h₀ L s₁.heap m) (N : News h₀ L s₁.heap news0) (hm : (ax, listOf l.toArray k) ∈ news0) (hsz : Nat.ble l.length sizeLine = true) (hP : ∀ v ∈ l, P v)
    (turn : ∀ g v, P v → TurnT prog w A h₀ L m env elt x scope cl { s₁ with heap := g } news0 (fun y objs => ∃ X t u c, y = .ref X ∧ objs = [(X, listOf [.str (f v).1 t, .str (f v).2 u].toArray c)]) v)
    (fin : ∀ g ys acc, (∀ p ∈ news0, p ∈ acc) → Due acc (l.map f) ys → Q { s₁ with heap := g } ys acc) : LCg.CompSrc prog w A h₀ L m env elt x scope cl Q (.ref ax) s₁ := by
  refine CompSrc.own (TDue (l.map f)) hh F N hm hsz (fun g i v hi hv => ?_) (fun g ys res hr hl => ?_)
  · have hv' : l[i]? = some v := by simpa using hv
    intro C oC m₂ h tk E' extra h1 h2 h3 h4
    refine wpAny_mono (turn g v (hP v (List.mem_of_getElem? hv')) C oC m₂ h tk E' extra h1 h2 h3 h4) (fun y s₂ hy => ?_) fun _ _ e => e
    obtain ⟨h', tk', objs, e, F', N', ne, X, t, u, c, e1, e2⟩ := hy
    exact ⟨h', tk', objs, e, F', N', ne, X, t, u, c, (f v).1, (f v).2, by rw [List.getElem?_map, hv']; rfl, e1, e2⟩
  · exact fin g ys _ (fun p hp => List.mem_append_right _ hp) ((hr.due (by rw [Nat.zero_add, hl, List.length_map]; exact List.size_toArray ..)).mono fun p hp => List.mem_append_left _ hp)
end
theorem News.more {h₀ h : Heap} {L : Addr} {x a b : Addr × Obj} {acc : List (Addr × Obj)} (N : News h₀ L h (x :: acc)) (ha : a ∈ acc) (hb : b ∈ acc) : News h₀ L h (x :: a :: b :: acc) := fun p hp => by
  rcases List.mem_cons.mp hp with rfl | hp
  · exact N _ (.head _)
  rcases List.mem_cons.mp hp with rfl | hp
  · exact N _ (.tail _ ha)
  rcases List.mem_cons.mp hp with rfl | hp
  · exact N _ (.tail _ hb)
  · exact N _ (.tail _ hp)
end

-- X_refusals
section
set_option maxHeartbeats 16000000 in
theorem sp_refusals (w : World) (mean : ExcName → Option Value) (mg mb : Str → Option Value) (n : Int) (c : Nat) (ta tb : Tok) (h0 : -(2^40) < n) (h1 : n < 2^40) (hc : 64 ≤ c) (hc2 : c ≤ 1114111) (hx : c ≠ 120) :
    SpecZ w mean mg mb 175 9 200 [.int n ta, .str ⟨#[c]⟩ tb] (fun v => v = .bool true) := by
  k_with_none
  w_top off
  k_with "own subscriptTail Name Constant ref int" => (k_here; (with_reducible show wpAny _ _ (subscriptTail _ _ (Value.ref _) (Value.int _ _)) _ _ _); k_dflt (refine item_litK (by is_list) (by decide) (by decide) (by rfl) ?_ (by with_unfolding_all rfl)))
  k_with "own eval ListComp" => (k_here; (with_reducible show wpAny _ _ (eval (Expr.ListComp _ [_, _] _ _) _) _ _ _); k_dflt (refine ListComp_N (F₀ := by k_asm) (by first | rfl | with_unfolding_all rfl) (by decide) (by rfl) (by decide) (by rfl) (by rfl) (by decide) ?_))
  k_with "own NSrc" => (k_here; (refine NSrc.intro (by rfl) (by k_asm) (by k_asm) (by k_mem) (by first | decide | exact Nat.le_of_ble_eq_true rfl) ?_); intro g'; k_extra "my OR")
  k_with "own my_len" => (repeat' first | (with_reducible assumption) | (with_reducible refine len_half ?_ ?_) | (with_reducible refine len_slice_le ?_) | (k_dflt exact fits14 (by with_reducible assumption) rfl) | (k_dflt exact Nat.le_of_ble_eq_true rfl))
  k_with "own newList" => (k_here; (rename Fr _ _ _ _ => F9'); (rename News _ _ _ _ => N9'); k_dflt (refine newList_nf F9' N9' (by rfl) ?_); intro l' h' F' N' q'; (try k_sweep))
  k_with "own binaryOp Add str str" => (k_here; (with_reducible show wpAny _ _ (binaryOp Operator.Add (Value.str _ _) (Value.str _ _)) _ _ _); (refine add_ownB ?_ ?_ ?_); (focus walk_at "my_len"); (focus walk_at "my_len"); intro t' k')
  k_with "own binaryOp Add ref ref" => (k_dflt (k_extra "my add"))
  k_with "own CompSrc" => (k_dflt (k_extra "my CompSrc"))
  k_with "own exec Return some" => (k_dflt (k_extra "my ret"))
  k_with "own compareOp Eq ref ref" => (k_dflt (k_extra "my eq"))
  k_with "own call ref" => (k_here; (rename GivesRow _ _ _ _ _ _ _ _ _ _ => S9); (rename News _ _ _ _ => N9); k_dflt (refine' call_turn (S9 _) ?k1 ?k2 ?k4 ?e1 ?e2 ?kD ?kA ?kF ?kK ?kF1 ?kK1 ?kd ?ku ?hs; (case kA => exact rfl); (case k1 => assumption); (case k2 => assumption); (case k4 => assumption); (case e1 => exact (N9 _ (.tail _ (.head _))).1); (case e2 => exact (N9 _ (.tail _ (.head _))).2.2); (case kD => assumption); (case kF => exact rfl); (case kK => exact rfl); (case kF1 => assumption); (case kK1 => assumption); (case kd => ((try dsimp only [topA, Around.deeper, Around.in1]); omega)); (case ku => ((try dsimp only [topA, Around.deeper, Around.in1]); omega)); (case hs => exact ⟨_, _, rfl⟩)))
  unfold SpecZ
  intro dp un gd env1 L1 o1 es1 n1 g' s R hf1 hke1 X' T' hk0 hL1 ho1 hd1 hd hu hret
  k_dflt (refine' enterZ ?k1 ?k2 ?k3 ?k4 ?k5 ?k6 ?k7 ?k8 ?k9 ?kB ?kD ?_ ?c2 ?c3 ?c4; (case k1 => exact X'); (case k2 => exact T'); (case k3 => exact hk0); (case k4 => exact hL1); (case k5 => exact ho1); (case k6 => k_is); (case k7 => k_is); (case k8 => ktr_room); (case k9 => exact BindsTo.of_eq rfl); (case kB => exact rfl); (case kD => decide +kernel); (case c2 => exact rfl); (case c3 => exact rfl); (case c4 => exact rfl); k_whole)
  intro L' h' tk' cells' F' N' nc' Y'
  k_cells Y'
  (try simp only [List.cons_append, List.nil_append] at N')
  (try simp only [List.mem_cons, List.not_mem_nil, or_false, forall_eq_or_imp, forall_eq] at nc')
  (try dsimp only)
  (try k_fold)
  replace nc' := neN nc'
  have hnl := num_len h0 h1
  k_with "my CompSrc" => (
    (rename Fr _ _ _ _ => F9); (rename News _ _ _ _ => N9)
    refine' CompSrc.due (fun v => (Str.ofString "proto", Str.ofString "229" ++ txt v)) (fun v => ∃ x t, v = .str x t ∧ x.length ≤ 2000) ?hhc1 F9 N9 ?hmc1 ?hszc1 ?hPc1 ?turnc1 ?finc1
    case hhc1 => exact rfl
    case hmc1 => k_mem
    case hszc1 => exact rfl
    case hPc1 => ((repeat' first | exact List.forall_mem_nil _ | refine List.forall_mem_cons.mpr ⟨?_, ?_⟩); all_goals (refine ⟨_, _, rfl, ?_⟩; walk_at "my_len"))
    case turnc1 =>
      clear F9 N9
      intro g9 v9 hv9
      obtain ⟨x9, t9, rfl, hl9⟩ := hv9
      have hl8 : x9.length ≤ 524288 := Nat.le_trans hl9 (by decide)
      intro C9 oC9 m9 h9 tk9 E9 extra9 hC9 hx9 F9 N9
      simp only [List.cons_append, List.nil_append] at N9
      k_steps
      (rename Fr _ _ _ _ => F7); (rename News _ _ _ _ => N7)
      (rename AllNe _ _ => q7)
      exact TEnd.one F7 N7 (.head _) (fun p hp => .tail _ hp) q7 ⟨_, _, _, _, rfl, rfl⟩
    case' finc1 =>
      intro g9 ys1 acc1 sub1 due1
      have n0 := N9
      clear F9 N9
      (first | unfold LCg.FinE | unfold LCg.FinA)
      intro D1 h9 tk9 F9 N9 o9
      replace N9 := News.more N9 (sub1 (L1, o1) (by k_mem)) (sub1 (L' + 1, _) (by k_mem))
      clear n0 sub1 o9)
  k_with "my OR" => (
    (rename Fr _ _ _ _ => F9); (rename News _ _ _ _ => N9)
    refine' OR.own (news0 := [(L' + 1, _)]) (P1 := fun v => ∃ x t, v = .str x t ∧ x.length ≤ 2000) (P2 := fun v => ∃ x t, v = .str x t ∧ x.length ≤ 2000) (TI := TIr (Str.ofString " (" ++ innerS n c ++ Str.ofString ")") (Str.ofString " 272)")) (TX := TXr (Str.ofString "reply")) ?hTIo2 ?outero2 ?turno2 _ _ _ ?hPo2 ?hsubo2 ?fino2
    case hsubo2 => exact fun p hp => by rw [List.mem_singleton.mp hp]; k_mem
    case hTIo2 =>
      rintro v its2 ⟨t, u, rfl⟩
      refine ⟨Nat.le_of_ble_eq_true rfl, ?_⟩
      refine List.forall_mem_cons.mpr ⟨⟨_, _, rfl, ?_⟩, List.forall_mem_cons.mpr ⟨⟨_, _, rfl, ?_⟩, List.forall_mem_nil _⟩⟩
      · unfold innerS numS; walk_at "my_len"
      · walk_at "my_len"
    case outero2 =>
      clear F9 N9
      intro v1 hv1 C9 oC9 m9 h9 tk9 E9 extra9 hC9 hx9 F9 N9
      simp only [List.cons_append, List.nil_append] at N9
      k_steps
      (rename Fr _ _ _ _ => F7); (rename News _ _ _ _ => N7)
      (rename AllNe _ _ => q7)
      exact TEnd.one F7 N7 (.head _) (fun p hp => .tail _ hp) q7 ⟨_, _, rfl, rfl, _, _, rfl, _, _, rfl⟩
    case turno2 =>
      clear F9 N9
      intro v1 v2 hv1 hv2 C9 oC9 m9 h9 tk9 E9 extra9 hC9 hx9 F9 N9
      obtain ⟨x8, t8, rfl, hl8⟩ := hv1
      obtain ⟨x9, t9, rfl, hl9⟩ := hv2
      have hl8 : x8.length ≤ 1048576 := Nat.le_trans hl8 (by decide)
      have hl9 : x9.length ≤ 1048576 := Nat.le_trans hl9 (by decide)
      obtain ⟨hx8, hx9⟩ := hx9
      simp only [List.cons_append, List.nil_append] at N9
      k_steps
      (rename Fr _ _ _ _ => F7); (rename News _ _ _ _ => N7)
      (rename AllNe _ _ => q7)
      exact TEnd.one F7 N7 (.head _) (fun p hp => .tail _ hp) q7 ⟨_, _, rfl, rfl, _, _, _, rfl⟩
    case hPo2 => ((repeat' first | exact List.forall_mem_nil _ | refine List.forall_mem_cons.mpr ⟨?_, ?_⟩); all_goals (refine ⟨_, _, rfl, ?_⟩; walk_at "my_len"))
    case' fino2 =>
      intro zs2 acc2 sub2 got2
      have due2 := got2.due
      have sub1 : ∀ p ∈ acc1, p ∈ acc2 := fun p hp => sub2 p (by (repeat' first | exact hp | refine List.Mem.tail _ ?_))
      have due3 := (due1.mono sub1).app due2
      clear due1 due2 got2 sub1 F9 N9
      (first | unfold LCg.FinE | unfold LCg.FinA)
      intro D2 h9 tk9 F9 N9 o9
      replace N9 := News.more N9 (sub2 (D1, LCg.lst ys1) (by k_mem)) (sub2 (L1, o1) (by k_mem))
      clear sub2 o9)
  k_with "my add" => (
    (rename Fr _ _ _ _ => F9); (rename News _ _ _ _ => N9)
    refine kmk_add_lit (zs := ys1 ++ zs2) F9 N9 ⟨_, (N9 (D1, LCg.lst ys1) (by k_mem)).1, rfl, _, rfl⟩ ⟨_, (N9 (D2, LCg.lst zs2) (by k_mem)).1, rfl, _, rfl⟩ rfl ?_ (Nat.le_trans (Nat.le_of_eq (List.length_append.symm.trans due3.len)) (Nat.le_of_ble_eq_true rfl))
    intro D3 h3 F3 N3 l3
    clear F9 N9 l3)
  k_with "my ret" => (
    (rename Fr _ _ _ _ => F9); (rename News _ _ _ _ => N9)
    obtain ⟨l9, e1, e2, e3⟩ := due3.rows
    refine' abs_rows (keep := ([] : List (Addr × Obj))) l9 F9 N9 (y := Str.ofString "due") ?hyr3 ?haxr3 e1 ?hrowr3 ?h1r3 hd1 ?hkeepr3 ?hkLr3 ?hlenr3 ?hspecr3 ?kkr3
    case hyr3 => exact rfl
    case haxr3 => k_mem
    case hrowr3 => exact fun r hr => (by (repeat' first | exact e3 r hr | refine List.Mem.tail _ ?_))
    case h1r3 => k_mem
    case hkeepr3 => exact fun _ h => nomatch h
    case hkLr3 => exact fun _ h => nomatch h
    case hlenr3 => exact Nat.le_trans (Nat.le_of_eq ((List.length_map _).symm.trans (congrArg List.length e2))) (Nat.le_of_ble_eq_true rfl)
    case hspecr3 => rw [e2]; exact refusals_spec w mean mg mb n c h0 h1 hc hc2 hx
    case' kkr3 =>
      clear N9 e1 e2 e3 due3
      (repeat (rename LCg.NsObj _ _ => q9; clear q9))
      (repeat (rename _ ∧ _ => q9; clear q9))
      (repeat (rename _ = some (Value.str _ _) => q9; clear q9))
      intro rows9 c9 news9 hlen9 N9 hne9 hax9 hrow9 hkeep9 hR9 hS9 hok9
      refine wpAny_Return_some ?_)
  k_with "my CompSrc" => (
    (rename Fr _ _ _ _ => F9); (rename News _ _ _ _ => N9)
    refine' comp_calls3 (L1 := L1) (news0 := news9) rows9 ?hh F9 N9 ?hits ?hsz ?hm1 ?hrow ?hax ?hsub ?hL1 ?turn ?fin
    case hits => exact List.toList_toArray
    case hh => exact rfl
    case hsz => (rw [List.size_toArray, List.length_map]; exact Nat.le_trans hlen9 (Nat.le_of_ble_eq_true rfl))
    case hm1 => exact .head _
    case hrow => exact hrow9
    case hax => exact hax9
    case hsub => exact fun p hp => .tail _ hp
    case hL1 => exact hne9
    case turn => 
      intro s₂ hs₂ r hr
      obtain ⟨a9, t9, u9, z9, hv9, ho9⟩ := hR9 r hr
      have S9 := hS9 r hr
      clear hr F9 N9
      obtain ⟨g9, rfl⟩ := hs₂
      intro C9 oC9 m9 h9 tk9 sl9 E9 hC9 hx9 F9' N9'
      rw [hv9] at hx9
      rw [ho9] at N9'
      k_steps
    case' fin => (intro D9 rs9 h9 tk9 sl9 F9' N9' R9 off9))
  k_with "my eq" => (
    (rename News _ _ _ _ => N9)
    refine' eq_A N9 ?hm ?hrs R9 (rows := rows9) ?hm2 ?hrow hR9 hok9 ?hu ?_
    case hm => k_mem
    case hrs => (intro r hr; repeat (first | exact List.mem_append_left _ (List.mem_map_of_mem (f := fun r : Row2 => (r.a, r.obj)) hr) | refine List.Mem.tail _ ?_))
    case hm2 => exact .tail _ (.tail _ (List.mem_append_right _ hax9))
    case hrow => exact fun r hr p hp => .tail _ (.tail _ (List.mem_append_right _ (hrow9 r hr p hp)))
    case hu => ke_room)
  k_steps
  (try dsimp only)
  (rename News _ _ _ _ => Nz)
  refine' hret _ _ _ _ (Fr.keep (by assumption)) ?lz ?rf
  case rf => exact rfl
  case lz => exact (Nz (L1, { cls := o1.cls, dict := o1.dict, data := o1.data, slots := _ }) (by k_mem)).1
end

-- X_read
section
set_option maxHeartbeats 4000000 in
theorem sp_read (w : World) (mean : ExcName → Option Value) (mg mb : Str → Option Value) (x : Str) (ta : Tok) (hx : x.length ≤ 400) (hc : (Txt.slice x none (some 3) != Str.ofString "257") = true) :
    SpecX w mean mg mb 170 3 20 [.str x ta] (fun _ => True) (fun h h' v => ∃ D zn t1 t2, v = .ref D ∧ h'.get? D = some (listOf [.str (Str.ofString "reply") t1, .str x t2].toArray zn) ∧ h.get? D = none) := by
  k_with_none
  w_top off
  k_with "own call ref" => (k_here; k_dflt (refine wpAny_call ?_; (refine' code_def ?k1 ?k2 ?k3 ?k4 ?k5 ?kA ?kF ?kK ?k6 ?k7 ?k8 ?k9 ?kB ?_ ?c2 ?c3 ?c4 ?c5; (case kA => exact rfl); (case kF => exact rfl); (case kK => exact rfl); (case k1 => k_asm); (case k2 => k_asm); (case k3 => k_asm); (case k4 => k_asm); (case k5 => k_asm); (case k6 => k_is); (case k7 => k_is); (case k8 => first | omega | ((try dsimp only [topA, Around.deeper, Around.in1]); omega)); (case k9 => exact BindsTo.of_eq rfl); (case c5 => decide); (case kB => exact locs rfl); (case c2 => exact rfl); (case c3 => exact rfl); (case c4 => exact rfl); k_whole; intro g' L' h' FG' F' N' B' X' T'; (try dsimp only); (try k_lift B'); (try k_fold))))
  k_with "own ite" => (k_here; first | refine ite_t (by assumption) ?_ | refine ite_f (by assumption) ?_ | refine ite_fb (by assumption) ?_)
  k_with "own noteFrame ref" => (k_here; k_dflt (refine' caught2 ?R ?F ?K ?U ?XB ?TB ?D ?T0 ?ex1 ?q1 ?qm ?ex ?q ?_; (case R => assumption); (case F => assumption); (case K => assumption); (case U => assumption); (case XB => assumption); (case TB => assumption); (case D => assumption); (case T0 => first | assumption | exact KtsTurn.refl); (case ex1 => k_is); (case q1 => kts_isx); (case qm => rfl); (case ex => k_is); (case q => kts_isx); k_whole); intro h' g' n₂ tk' T' F' N₂ G' N' K' X' P' D'; (try k_lift K'); (try k_sweep))
  k_with "own call type:str" => (k_here; (with_reducible show wpAny _ _ (call (Value.type "str") [Value.ref _]) _ _ _); k_dflt (refine' str_of_got ?F ?X ?N ?G ?hb ?hf ?hu ?_; (case G => assumption); (case N => assumption); (case F => assumption); (case X => assumption); (case hb => kernel_rfl); (case hf => kernel_rfl); (case hu => first | omega | ((try dsimp only [topA, Around.deeper, Around.in1, Around.mark]); omega)); k_whole))
  unfold SpecX
  intro dp un gd outer base s R B X T XB TB D hd hu hpre hret
  k_dflt (refine' enter ?k1 ?k2 ?k3 ?k6 ?k7 ?k8 ?k9 ?kB ?_ ?c2 ?c3 ?c4 ?c5; (case k1 => exact B); (case k2 => exact X); (case k3 => exact T); (case k6 => k_is); (case k7 => k_is); (case k8 => ktr_room); (case k9 => exact BindsTo.of_eq rfl); (case c5 => decide); (case kB => exact locs rfl); (case c2 => exact rfl); (case c3 => exact rfl); (case c4 => exact rfl); k_whole)
  clear B X T
  intro g' L' h' hg B' X' T' F' N'
  w_binds F'
  (try dsimp only)
  (try dsimp only at hpre)
  (try rw [hg] at hpre)
  rw [hg] at D
  (try k_fold)
  k_steps
  all_goals (subst hg; refine hret _ _ _ _ (by assumption) (Fr.keep (by assumption)) ?_)
  all_goals (refine' ⟨_, _, _, _, rfl, ?gg, ?ff⟩; (case gg => exact got_new (by assumption) rfl); (case ff => exact turn_none_back (by assumption) (new_none (by assumption))))
end

-- X_read2
section
set_option maxHeartbeats 4000000 in
theorem sp_read2 (w : World) (mean : ExcName → Option Value) (mg mb : Str → Option Value) (x : Str) (ta : Tok) (hx : x.length ≤ 400) (hc : (Txt.slice x none (some 3) != Str.ofString "257") = false) (hc2 : (Txt.slice x (some 3) (some 5) != Str.ofString " \"") = true) :
    SpecX w mean mg mb 170 3 20 [.str x ta] (fun _ => True) (fun h h' v => ∃ D zn t1 t2, v = .ref D ∧ h'.get? D = some (listOf [.str (Str.ofString "told") t1, .str (Str.ofString "") t2].toArray zn) ∧ h.get? D = none) := by
  k_with_none
  w_top off
  k_with "own call ref" => (k_here; k_dflt (refine wpAny_call ?_; (refine' code_def ?k1 ?k2 ?k3 ?k4 ?k5 ?kA ?kF ?kK ?k6 ?k7 ?k8 ?k9 ?kB ?_ ?c2 ?c3 ?c4 ?c5; (case kA => exact rfl); (case kF => exact rfl); (case kK => exact rfl); (case k1 => k_asm); (case k2 => k_asm); (case k3 => k_asm); (case k4 => k_asm); (case k5 => k_asm); (case k6 => k_is); (case k7 => k_is); (case k8 => first | omega | ((try dsimp only [topA, Around.deeper, Around.in1]); omega)); (case k9 => exact BindsTo.of_eq rfl); (case c5 => decide); (case kB => exact locs rfl); (case c2 => exact rfl); (case c3 => exact rfl); (case c4 => exact rfl); k_whole; intro g' L' h' FG' F' N' B' X' T'; (try dsimp only); (try k_lift B'); (try k_fold))))
  k_with "own ite" => (k_here; first | refine ite_t (by assumption) ?_ | refine ite_f (by assumption) ?_ | refine ite_fb (by assumption) ?_)
  unfold SpecX
  intro dp un gd outer base s R B X T XB TB D hd hu hpre hret
  k_dflt (refine' enter ?k1 ?k2 ?k3 ?k6 ?k7 ?k8 ?k9 ?kB ?_ ?c2 ?c3 ?c4 ?c5; (case k1 => exact B); (case k2 => exact X); (case k3 => exact T); (case k6 => k_is); (case k7 => k_is); (case k8 => ktr_room); (case k9 => exact BindsTo.of_eq rfl); (case c5 => decide); (case kB => exact locs rfl); (case c2 => exact rfl); (case c3 => exact rfl); (case c4 => exact rfl); k_whole)
  clear B X T
  intro g' L' h' hg B' X' T' F' N'
  w_binds F'
  (try dsimp only)
  (try dsimp only at hpre)
  (try rw [hg] at hpre)
  rw [hg] at D
  (try k_fold)
  k_steps
  all_goals (subst hg; (try dsimp only); first | refine hret _ _ _ _ (by first | assumption | exact KtsTurn.refl) (Fr.keep (by assumption)) ?_ | (show R (Except.ok (Flow.ret (Value.ref _))) _; refine hret _ _ _ _ (by first | assumption | exact KtsTurn.refl) (Fr.keep (by assumption)) ?_))
  all_goals (refine' ⟨_, _, _, _, rfl, ?gg, ?ff⟩; (case gg => exact got_new (by assumption) rfl); (case ff => first | exact turn_none_back (by assumption) (new_none (by assumption)) | exact new_none (h := _) (by assumption)))
end

-- X_unread
section
theorem unread_spec (w : World) (mean : ExcName → Option Value) (mg mb : Str → Option Value) (c : Nat) (hc2 : c ≤ 1114111) : ∀ q ∈ ([(Str.ofString "reply", Str.ofString "157" ++ (Str.ofString " \"" ++ ⟨#[c]⟩)), (Str.ofString "reply", Str.ofString "157" ++ Str.ofString "-"), (Str.ofString "reply", Str.ofString "267" ++ (Str.ofString " \"" ++ ⟨#[c]⟩)), (Str.ofString "reply", Str.ofString "267" ++ Str.ofString "-"), (Str.ofString "reply", Str.ofString "258" ++ (Str.ofString " \"" ++ ⟨#[c]⟩)), (Str.ofString "reply", Str.ofString "258" ++ Str.ofString "-")] : List (Str × Str)), GivesRow w mean mg mb 170 3 20 q.2 q.1 q.2 ∧ (PyData.strOk q.1 = true ∧ PyData.strOk q.2 = true) := by
  refine List.forall_mem_cons.mpr ⟨⟨?_, ?_, ?_⟩, List.forall_mem_cons.mpr ⟨⟨?_, ?_, ?_⟩, List.forall_mem_cons.mpr ⟨⟨?_, ?_, ?_⟩, List.forall_mem_cons.mpr ⟨⟨?_, ?_, ?_⟩, List.forall_mem_cons.mpr ⟨⟨?_, ?_, ?_⟩, List.forall_mem_cons.mpr ⟨⟨?_, ?_, ?_⟩, List.forall_mem_nil _⟩⟩⟩⟩⟩⟩
  · intro ta; dsimp only; (refine sp_read w mean mg mb _ ta ?_ ?_; (focus ((try simp only [len_app]); exact Nat.le_of_ble_eq_true rfl)); (focus first | (refine code_ne [49, 53, 55] ?_ ?_ (by decide) <;> ((try simp only [app_list, len_app]); first | rfl | exact Nat.le_of_ble_eq_true rfl)) | (refine code_ne [50, 54, 55] ?_ ?_ (by decide) <;> ((try simp only [app_list, len_app]); first | rfl | exact Nat.le_of_ble_eq_true rfl)) | (refine code_ne [50, 53, 56] ?_ ?_ (by decide) <;> ((try simp only [app_list, len_app]); first | rfl | exact Nat.le_of_ble_eq_true rfl))))
  · dsimp only; kernel_rfl
  · dsimp only; repeat' (first | exact strOk_one (by assumption) | (rw [strOk_app]; refine Bool.and_eq_true_iff.mpr ⟨?_, ?_⟩) | ((with_reducible show PyData.strOk (Str.ofString _) = true); kernel_rfl))
  · intro ta; dsimp only; (refine sp_read w mean mg mb _ ta ?_ ?_; (focus ((try simp only [len_app]); exact Nat.le_of_ble_eq_true rfl)); (focus first | (refine code_ne [49, 53, 55] ?_ ?_ (by decide) <;> ((try simp only [app_list, len_app]); first | rfl | exact Nat.le_of_ble_eq_true rfl)) | (refine code_ne [50, 54, 55] ?_ ?_ (by decide) <;> ((try simp only [app_list, len_app]); first | rfl | exact Nat.le_of_ble_eq_true rfl)) | (refine code_ne [50, 53, 56] ?_ ?_ (by decide) <;> ((try simp only [app_list, len_app]); first | rfl | exact Nat.le_of_ble_eq_true rfl))))
  · dsimp only; kernel_rfl
  · dsimp only; repeat' (first | exact strOk_one (by assumption) | (rw [strOk_app]; refine Bool.and_eq_true_iff.mpr ⟨?_, ?_⟩) | ((with_reducible show PyData.strOk (Str.ofString _) = true); kernel_rfl))
  · intro ta; dsimp only; (refine sp_read w mean mg mb _ ta ?_ ?_; (focus ((try simp only [len_app]); exact Nat.le_of_ble_eq_true rfl)); (focus first | (refine code_ne [49, 53, 55] ?_ ?_ (by decide) <;> ((try simp only [app_list, len_app]); first | rfl | exact Nat.le_of_ble_eq_true rfl)) | (refine code_ne [50, 54, 55] ?_ ?_ (by decide) <;> ((try simp only [app_list, len_app]); first | rfl | exact Nat.le_of_ble_eq_true rfl)) | (refine code_ne [50, 53, 56] ?_ ?_ (by decide) <;> ((try simp only [app_list, len_app]); first | rfl | exact Nat.le_of_ble_eq_true rfl))))
  · dsimp only; kernel_rfl
  · dsimp only; repeat' (first | exact strOk_one (by assumption) | (rw [strOk_app]; refine Bool.and_eq_true_iff.mpr ⟨?_, ?_⟩) | ((with_reducible show PyData.strOk (Str.ofString _) = true); kernel_rfl))
  · intro ta; dsimp only; (refine sp_read w mean mg mb _ ta ?_ ?_; (focus ((try simp only [len_app]); exact Nat.le_of_ble_eq_true rfl)); (focus first | (refine code_ne [49, 53, 55] ?_ ?_ (by decide) <;> ((try simp only [app_list, len_app]); first | rfl | exact Nat.le_of_ble_eq_true rfl)) | (refine code_ne [50, 54, 55] ?_ ?_ (by decide) <;> ((try simp only [app_list, len_app]); first | rfl | exact Nat.le_of_ble_eq_true rfl)) | (refine code_ne [50, 53, 56] ?_ ?_ (by decide) <;> ((try simp only [app_list, len_app]); first | rfl | exact Nat.le_of_ble_eq_true rfl))))
  · dsimp only; kernel_rfl
  · dsimp only; repeat' (first | exact strOk_one (by assumption) | (rw [strOk_app]; refine Bool.and_eq_true_iff.mpr ⟨?_, ?_⟩) | ((with_reducible show PyData.strOk (Str.ofString _) = true); kernel_rfl))
  · intro ta; dsimp only; (refine sp_read w mean mg mb _ ta ?_ ?_; (focus ((try simp only [len_app]); exact Nat.le_of_ble_eq_true rfl)); (focus first | (refine code_ne [49, 53, 55] ?_ ?_ (by decide) <;> ((try simp only [app_list, len_app]); first | rfl | exact Nat.le_of_ble_eq_true rfl)) | (refine code_ne [50, 54, 55] ?_ ?_ (by decide) <;> ((try simp only [app_list, len_app]); first | rfl | exact Nat.le_of_ble_eq_true rfl)) | (refine code_ne [50, 53, 56] ?_ ?_ (by decide) <;> ((try simp only [app_list, len_app]); first | rfl | exact Nat.le_of_ble_eq_true rfl))))
  · dsimp only; kernel_rfl
  · dsimp only; repeat' (first | exact strOk_one (by assumption) | (rw [strOk_app]; refine Bool.and_eq_true_iff.mpr ⟨?_, ?_⟩) | ((with_reducible show PyData.strOk (Str.ofString _) = true); kernel_rfl))
  · intro ta; dsimp only; (refine sp_read w mean mg mb _ ta ?_ ?_; (focus ((try simp only [len_app]); exact Nat.le_of_ble_eq_true rfl)); (focus first | (refine code_ne [49, 53, 55] ?_ ?_ (by decide) <;> ((try simp only [app_list, len_app]); first | rfl | exact Nat.le_of_ble_eq_true rfl)) | (refine code_ne [50, 54, 55] ?_ ?_ (by decide) <;> ((try simp only [app_list, len_app]); first | rfl | exact Nat.le_of_ble_eq_true rfl)) | (refine code_ne [50, 53, 56] ?_ ?_ (by decide) <;> ((try simp only [app_list, len_app]); first | rfl | exact Nat.le_of_ble_eq_true rfl))))
  · dsimp only; kernel_rfl
  · dsimp only; repeat' (first | exact strOk_one (by assumption) | (rw [strOk_app]; refine Bool.and_eq_true_iff.mpr ⟨?_, ?_⟩) | ((with_reducible show PyData.strOk (Str.ofString _) = true); kernel_rfl))
theorem bare_spec (w : World) (mean : ExcName → Option Value) (mg mb : Str → Option Value) (c : Nat) (hc : 64 ≤ c) : ∀ x ∈ [Str.ofString "257-\"" ++ ⟨#[c]⟩, Str.ofString "257 " ++ ⟨#[c]⟩ ++ ⟨#[c]⟩, Str.ofString "257"], GivesRow w mean mg mb 170 3 20 x (Str.ofString "told") (Str.ofString "") := by
  refine List.forall_mem_cons.mpr ⟨?_, List.forall_mem_cons.mpr ⟨?_, List.forall_mem_cons.mpr ⟨?_, List.forall_mem_nil _⟩⟩⟩
  · intro ta; (refine sp_read2 w mean mg mb _ ta ?_ ?_ ?_; (focus ((try simp only [len_app]); exact Nat.le_of_ble_eq_true rfl)); (focus (refine code_eq ?_ ?_ <;> ((try simp only [app_list, len_app]); first | rfl | exact Nat.le_of_ble_eq_true rfl))); (focus (refine mid_ne [45, 34] ?_ ?_ (by decide) <;> ((try simp only [app_list, len_app]); first | rfl | exact Nat.le_of_ble_eq_true rfl))))
  · intro ta; (refine sp_read2 w mean mg mb _ ta ?_ ?_ ?_; (focus ((try simp only [len_app]); exact Nat.le_of_ble_eq_true rfl)); (focus (refine code_eq ?_ ?_ <;> ((try simp only [app_list, len_app]); first | rfl | exact Nat.le_of_ble_eq_true rfl))); (focus (refine mid_ne [32, c] ?_ ?_ ?mm; (case mm => (intro e; have e2 : [32, c] = [32, 34] := e; simp at e2; omega)); all_goals ((try simp only [app_list, len_app]); first | rfl | exact Nat.le_of_ble_eq_true rfl))))
  · intro ta; (refine sp_read2 w mean mg mb _ ta ?_ ?_ ?_; (focus ((try simp only [len_app]); exact Nat.le_of_ble_eq_true rfl)); (focus (refine code_eq ?_ ?_ <;> ((try simp only [app_list, len_app]); first | rfl | exact Nat.le_of_ble_eq_true rfl))); (focus decide +kernel))
set_option maxHeartbeats 16000000 in
theorem sp_unread (w : World) (mean : ExcName → Option Value) (mg mb : Str → Option Value) (c : Nat) (ta : Tok) (hc : 64 ≤ c) (hc2 : c ≤ 1114111) :
    SpecZ w mean mg mb 180 9 200 [.str ⟨#[c]⟩ ta] (fun v => v = .bool true) := by
  k_with_none
  w_top off
  k_with "own subscriptTail Name Constant ref int" => (k_here; (with_reducible show wpAny _ _ (subscriptTail _ _ (Value.ref _) (Value.int _ _)) _ _ _); k_dflt (refine item_litK (by is_list) (by decide) (by decide) (by rfl) ?_ (by with_unfolding_all rfl)))
  k_with "own exec Assign cons ListComp" => (k_here; (with_reducible show wpAny _ _ (exec (Stmt.Assign _ (Expr.ListComp _ [_, _] _ _) _) _) _ _ _); k_dflt (refine Assign_ListComp_N (F₀ := by k_asm) (by rfl) (by with_unfolding_all rfl) (by first | rfl | with_unfolding_all rfl) (by decide) (by rfl) (by decide) (by rfl) (by rfl) (by decide) (by rfl) (by rfl) ?_))
  k_with "own NSrc" => (k_here; (refine NSrc.intro (by rfl) (by k_asm) (by k_asm) (by k_mem) (by first | decide | exact Nat.le_of_ble_eq_true rfl) ?_); intro g'; k_extra "my OR")
  k_with "own my_len" => (repeat' first | (with_reducible assumption) | (with_reducible refine len_half ?_ ?_) | (with_reducible refine len_slice_le ?_) | (k_dflt exact fits14 (by with_reducible assumption) rfl) | (k_dflt exact Nat.le_of_ble_eq_true rfl))
  k_with "own newList" => (k_here; (rename Fr _ _ _ _ => F9'); (rename News _ _ _ _ => N9'); k_dflt (refine newList_nf F9' N9' (by rfl) ?_); intro l' h' F' N' q'; (try k_sweep))
  k_with "own binaryOp Add str str" => (k_here; (with_reducible show wpAny _ _ (binaryOp Operator.Add (Value.str _ _) (Value.str _ _)) _ _ _); (refine add_ownB ?_ ?_ ?_); (focus walk_at "my_len"); (focus walk_at "my_len"); intro t' k')
  k_with "own CompSrc" => (k_dflt (k_extra "my CompSrc"))
  k_with "own exec Return some" => (k_dflt (k_extra "my ret"))
  k_with "own compareOp Eq ref ref" => (k_dflt (k_extra "my eq"))
  k_with "own call ref" => (k_here; (rename GivesRow _ _ _ _ _ _ _ _ _ _ => S9); (rename News _ _ _ _ => N9); k_dflt (refine' call_turn (S9 _) ?k1 ?k2 ?k4 ?e1 ?e2 ?kD ?kA ?kF ?kK ?kF1 ?kK1 ?kd ?ku ?hs; (case kA => exact rfl); (case k1 => assumption); (case k2 => assumption); (case k4 => assumption); (case e1 => exact (N9 _ (.tail _ (.head _))).1); (case e2 => exact (N9 _ (.tail _ (.head _))).2.2); (case kD => assumption); (case kF => exact rfl); (case kK => exact rfl); (case kF1 => assumption); (case kK1 => assumption); (case kd => ((try dsimp only [topA, Around.deeper, Around.in1]); omega)); (case ku => ((try dsimp only [topA, Around.deeper, Around.in1]); omega)); (case hs => exact ⟨_, _, rfl⟩)))
  k_with "own binaryOp Mult ref int" => (k_here; (with_reducible show wpAny _ _ (binaryOp Operator.Mult (Value.ref _) (Value.int _ _)) _ _ _); k_dflt (refine mul_lit (by k_asm) (by k_asm) (by k_mem) (by first | decide | exact Nat.le_of_ble_eq_true rfl) (by first | decide | exact Nat.le_of_ble_eq_true rfl) (by first | decide | exact Nat.le_of_ble_eq_true rfl) (by first | exact (rfl : _ = #[_, _, _]) | exact (rfl : _ = #[_, _, _, _, _]) | exact (rfl : _ = #[_, _, _, _, _, _, _])) ?_); intro D' h' F' N' lt')
  unfold SpecZ
  intro dp un gd env1 L1 o1 es1 n1 g' s R hf1 hke1 X' T' hk0 hL1 ho1 hd1 hd hu hret
  k_dflt (refine' enterZ ?k1 ?k2 ?k3 ?k4 ?k5 ?k6 ?k7 ?k8 ?k9 ?kB ?kD ?_ ?c2 ?c3 ?c4; (case k1 => exact X'); (case k2 => exact T'); (case k3 => exact hk0); (case k4 => exact hL1); (case k5 => exact ho1); (case k6 => k_is); (case k7 => k_is); (case k8 => ktr_room); (case k9 => exact BindsTo.of_eq rfl); (case kB => exact rfl); (case kD => decide +kernel); (case c2 => exact rfl); (case c3 => exact rfl); (case c4 => exact rfl); k_whole)
  intro L' h' tk' cells' F' N' nc' Y'
  k_cells Y'
  (try simp only [List.cons_append, List.nil_append] at N')
  (try simp only [List.mem_cons, List.not_mem_nil, or_false, forall_eq_or_imp, forall_eq] at nc')
  (try dsimp only)
  (try k_fold)
  k_with "my OR" => (
    (rename Fr _ _ _ _ => F9); (rename News _ _ _ _ => N9)
    refine' OR.own (news0 := [(L' + 1, _)]) (P1 := fun v => ∃ x t, v = .str x t ∧ x.length ≤ 2000) (P2 := fun v => ∃ x t, v = .str x t ∧ x.length ≤ 2000) (TI := TIr (Str.ofString " \"" ++ ⟨#[c]⟩) (Str.ofString "-")) (TX := TXr (Str.ofString "reply")) ?hTIo2 ?outero2 ?turno2 _ _ _ ?hPo2 ?hsubo2 ?fino2
    case hsubo2 => exact fun p hp => by rw [List.mem_singleton.mp hp]; k_mem
    case hTIo2 =>
      rintro v its2 ⟨t, u, rfl⟩
      refine ⟨Nat.le_of_ble_eq_true rfl, ?_⟩
      refine List.forall_mem_cons.mpr ⟨⟨_, _, rfl, ?_⟩, List.forall_mem_cons.mpr ⟨⟨_, _, rfl, ?_⟩, List.forall_mem_nil _⟩⟩
      · walk_at "my_len"
      · walk_at "my_len"
    case outero2 =>
      clear F9 N9
      intro v1 hv1 C9 oC9 m9 h9 tk9 E9 extra9 hC9 hx9 F9 N9
      simp only [List.cons_append, List.nil_append] at N9
      k_steps
      (rename Fr _ _ _ _ => F7); (rename News _ _ _ _ => N7)
      (rename AllNe _ _ => q7)
      exact TEnd.one F7 N7 (.head _) (fun p hp => .tail _ hp) q7 ⟨_, _, rfl, rfl, _, _, rfl, _, _, rfl⟩
    case turno2 =>
      clear F9 N9
      intro v1 v2 hv1 hv2 C9 oC9 m9 h9 tk9 E9 extra9 hC9 hx9 F9 N9
      obtain ⟨x8, t8, rfl, hl8⟩ := hv1
      obtain ⟨x9, t9, rfl, hl9⟩ := hv2
      have hl8 : x8.length ≤ 1048576 := Nat.le_trans hl8 (by decide)
      have hl9 : x9.length ≤ 1048576 := Nat.le_trans hl9 (by decide)
      obtain ⟨hx8, hx9⟩ := hx9
      simp only [List.cons_append, List.nil_append] at N9
      k_steps
      (rename Fr _ _ _ _ => F7); (rename News _ _ _ _ => N7)
      (rename AllNe _ _ => q7)
      exact TEnd.one F7 N7 (.head _) (fun p hp => .tail _ hp) q7 ⟨_, _, rfl, rfl, _, _, _, rfl⟩
    case hPo2 => ((repeat' first | exact List.forall_mem_nil _ | refine List.forall_mem_cons.mpr ⟨?_, ?_⟩); all_goals (refine ⟨_, _, rfl, ?_⟩; walk_at "my_len"))
    case' fino2 =>
      intro zs2 acc2 sub2 got2
      have due2 := got2.due
      clear got2 F9 N9
      (first | unfold LCg.FinE | unfold LCg.FinA)
      intro D2 h9 tk9 F9 N9 o9
      replace N9 := News.more N9 (sub2 (L1, o1) (by k_mem)) (sub2 (L' + 1, _) (by k_mem))
      clear sub2 o9)
  k_with "my ret" => (
    (rename Fr _ _ _ _ => F9); (rename News _ _ _ _ => N9)
    obtain ⟨l9, e1, e2, e3⟩ := due2.rows
    refine' abs_rows (keep := [(_, listOf [.str _ _, .str _ _, .str _ _].toArray _)]) l9 F9 N9 (y := Str.ofString "due") ?hyr3 ?haxr3 e1 ?hrowr3 ?h1r3 hd1 ?hkeepr3 ?hkLr3 ?hlenr3 ?hspecr3 ?kkr3
    case hyr3 => exact rfl
    case haxr3 => k_mem
    case hrowr3 => exact fun r hr => (by (repeat' first | exact e3 r hr | refine List.Mem.tail _ ?_))
    case h1r3 => k_mem
    case hkeepr3 => exact fun p hp => by (rw [List.mem_singleton.mp hp]; k_mem)
    case hkLr3 => exact fun p hp => by (rw [List.mem_singleton.mp hp]; exact ⟨_, _, rfl⟩)
    case hlenr3 => exact Nat.le_trans (Nat.le_of_eq ((List.length_map _).symm.trans (congrArg List.length e2))) (Nat.le_of_ble_eq_true rfl)
    case hspecr3 => rw [e2]; exact unread_spec w mean mg mb c hc2
    case' kkr3 =>
      clear N9 e1 e2 e3 due2
      (repeat (rename LCg.NsObj _ _ => q9; clear q9))
      (repeat (rename _ ∧ _ => q9; clear q9))
      (repeat (rename _ = some (Value.str _ _) => q9; clear q9))
      intro rows9 c9 news9 hlen9 N9 hne9 hax9 hrow9 hkeep9 hR9 hS9 hok9
      refine wpAny_Return_some ?_)
  k_with "my CompSrc" => (first
   | (
        (rename Fr _ _ _ _ => F9); (rename News _ _ _ _ => N9)
        refine' comp_calls3 (L1 := L1) (news0 := news9) rows9 ?hh F9 N9 ?hits ?hsz ?hm1 ?hrow ?hax ?hsub ?hL1 ?turn ?fin
        case hits => exact List.toList_toArray
        case hh => exact rfl
        case hsz => (rw [List.size_toArray, List.length_map]; exact Nat.le_trans hlen9 (Nat.le_of_ble_eq_true rfl))
        case hm1 => exact .head _
        case hrow => exact hrow9
        case hax => exact hax9
        case hsub => exact fun p hp => .tail _ hp
        case hL1 => exact hne9
        case turn => 
          intro s₂ hs₂ r hr
          obtain ⟨a9, t9, u9, z9, hv9, ho9⟩ := hR9 r hr
          have S9 := hS9 r hr
          clear hr F9 N9
          obtain ⟨g9, rfl⟩ := hs₂
          intro C9 oC9 m9 h9 tk9 sl9 E9 hC9 hx9 F9' N9'
          rw [hv9] at hx9
          rw [ho9] at N9'
          k_steps
        case' fin => (intro D9 rs9 h9 tk9 sl9 F9' N9' R9 off9))
   | (
        (rename Fr _ _ _ _ => F9); (rename News _ _ _ _ => N9)
        have hb9 := hkeep9 _ (.head _)
        refine' comp_calls3 (L1 := L1) (news0 := news9) [⟨.str _ _, [], Str.ofString "told", Str.ofString ""⟩, ⟨.str _ _, [], Str.ofString "told", Str.ofString ""⟩, ⟨.str _ _, [], Str.ofString "told", Str.ofString ""⟩] ?hhB F9 N9 ?hitsB ?hszB ?hm1B ?hrowB hb9 ?hsubB hne9 ?turnB ?finB
        case hitsB => exact rfl
        case hhB => exact rfl
        case hszB => exact Nat.le_of_ble_eq_true rfl
        case hm1B => k_mem
        case hrowB => ((repeat' first | exact List.forall_mem_nil _ | refine List.forall_mem_cons.mpr ⟨?_, ?_⟩); all_goals exact fun _ h => nomatch h)
        case hsubB => exact fun p hp => .tail _ (.tail _ (List.mem_append_right _ hp))
        case turnB =>
          intro s₂ hs₂ r hr
          have S9 : ∃ x ta, r.v = .str x ta ∧ GivesRow w mean mg mb 170 3 20 x r.k r.x := by
            clear F9 N9
            simp only [List.mem_cons, List.not_mem_nil, or_false] at hr
            rcases hr with rfl | rfl | rfl
            · exact ⟨_, _, rfl, bare_spec w mean mg mb c hc _ (.head _)⟩
            · exact ⟨_, _, rfl, bare_spec w mean mg mb c hc _ (.tail _ (.head _))⟩
            · exact ⟨_, _, rfl, bare_spec w mean mg mb c hc _ (.tail _ (.tail _ (.head _)))⟩
          have hq9 : r.objs = [] := by
            clear F9 N9 S9
            simp only [List.mem_cons, List.not_mem_nil, or_false] at hr
            rcases hr with rfl | rfl | rfl <;> rfl
          obtain ⟨x9, t9, hv9, S9⟩ := S9
          clear hr F9 N9
          obtain ⟨g9, rfl⟩ := hs₂
          intro C9 oC9 m9 h9 tk9 sl9 E9 hC9 hx9 F9' N9'
          rw [hv9] at hx9
          rw [hq9] at N9'
          k_steps
        case' finB => (intro D9 rs9 h9 tk9 sl9 F9' N9' R9 off9)))
  k_with "my eq" => (first
   | (
        (rename News _ _ _ _ => N9)
        refine' eq_A N9 ?hm ?hrs R9 (rows := rows9) ?hm2 ?hrow hR9 hok9 ?hu ?_
        case hm => k_mem
        case hrs => (intro r hr; repeat (first | exact List.mem_append_left _ (List.mem_map_of_mem (f := fun r : Row2 => (r.a, r.obj)) hr) | refine List.Mem.tail _ ?_))
        case hm2 => exact .tail _ (.tail _ (List.mem_append_right _ hax9))
        case hrow => exact fun r hr p hp => .tail _ (.tail _ (List.mem_append_right _ (hrow9 r hr p hp)))
        case hu => ke_room)
   | (
        (rename News _ _ _ _ => N9)
        refine' eq_B N9 ?hmB ?hrsB R9 ?hm2B ?R2B ?hokB ?huB ?_
        case hmB => k_mem
        case hrsB => (intro r hr; repeat (first | exact List.mem_append_left _ (List.mem_map_of_mem (f := fun r : Row2 => (r.a, r.obj)) hr) | refine List.Mem.tail _ ?_))
        case hm2B => k_mem
        case R2B => exact ReadsAll.cons (reads_list_at (News.get (by k_asm) (by k_mem)) rfl rfl (ReadsAll.cons (Reads.str _ _) (ReadsAll.cons (Reads.str _ _) ReadsAll.nil))) (ReadsAll.cons (reads_list_at (News.get (by k_asm) (by k_mem)) rfl rfl (ReadsAll.cons (Reads.str _ _) (ReadsAll.cons (Reads.str _ _) ReadsAll.nil))) (ReadsAll.cons (reads_list_at (News.get (by k_asm) (by k_mem)) rfl rfl (ReadsAll.cons (Reads.str _ _) (ReadsAll.cons (Reads.str _ _) ReadsAll.nil))) ReadsAll.nil))
        case hokB => ((repeat' first | exact List.forall_mem_nil _ | refine List.forall_mem_cons.mpr ⟨?_, ?_⟩); all_goals exact ⟨by kernel_rfl, by kernel_rfl⟩)
        case huB => ke_room))
  k_steps
  (try dsimp only)
  (rename News _ _ _ _ => Nz)
  refine' hret _ _ _ _ (Fr.keep (by assumption)) ?lz ?rf
  case rf => exact rfl
  case lz => exact (Nz (L1, { cls := o1.cls, dict := o1.dict, data := o1.data, slots := _ }) (by k_mem)).1
end

-- S25
section
theorem spB_same5 {w : World} {mean : ExcName → Option Value} {mg mb : Str → Option Value} (l k : Addr) (a0 a1 a2 a3 a4 : Bool) : Spec w mean mg mb 221 3 100 [.ref l, .ref k] (fun h => h.IsList l #[.bool a0, .bool a1, .bool a2, .bool a3, .bool a4] ∧ h.IsList k #[.bool a0, .bool a1, .bool a2, .bool a3, .bool a4]) (fun _ _ v => v = .bool true) :=
  spec_weak (sp_same5 w mean mg mb l k _ _ _ _ _ _ _ _ _ _) fun _ _ v q => by rw [q]; simp
set_option maxHeartbeats 8000000 in
theorem st25c : P25 cS := by
  k_with_none
  w_top off
  k_with "own call ref" => (k_here; k_dflt (refine call_spec (spB_same5 _ _ _ _ _ _ _ ) (by k_asm) (by k_asm) (by k_asm) (by k_asm) (by k_asm) (by exact rfl) (by exact rfl) (by exact rfl) (by first | exact room1 (by assumption) rfl | exact room0 (by assumption) rfl | omega | ((try dsimp only [topA, Around.deeper, Around.in1]); omega)) (by first | exact room1 (by assumption) rfl | exact room0 (by assumption) rfl | omega | ((try dsimp only [topA, Around.deeper, Around.in1]); omega)) (by exact ⟨⟨_, News.get (by k_asm) (by k_mem), rfl, _, rfl⟩, ⟨_, News.get (by k_asm) (by k_mem), rfl, _, rfl⟩⟩) ?_; intro v' h' tk' F' N' kk' q'; (try k_sweep); (try subst q'); (try dsimp only)))
  k_with "own call ref" => (k_here; k_dflt (refine call_specZ (sp_refusals _ _ _ _ _ _ _ _ (by omega) (by omega) (by assumption) (by assumption) (by assumption)) (by k_asm) (by k_asm) (by k_asm) (by k_asm) (by exact rfl) (by exact rfl) (by exact rfl) (by first | exact room1 (by assumption) rfl | exact room0 (by assumption) rfl | omega | ((try dsimp only [topA, Around.deeper, Around.in1]); omega)) (by first | exact room1 (by assumption) rfl | exact room0 (by assumption) rfl | omega | ((try dsimp only [topA, Around.deeper, Around.in1]); omega)) ?_; intro v' h' tk' F' N' q'; (try k_sweep); (try subst q'); (try dsimp only)))
  k_with "own call ref" => (k_here; k_dflt (refine call_specZ (sp_unread _ _ _ _ _ _ (by assumption) (by assumption)) (by k_asm) (by k_asm) (by k_asm) (by k_asm) (by exact rfl) (by exact rfl) (by exact rfl) (by first | exact room1 (by assumption) rfl | exact room0 (by assumption) rfl | omega | ((try dsimp only [topA, Around.deeper, Around.in1]); omega)) (by first | exact room1 (by assumption) rfl | exact room0 (by assumption) rfl | omega | ((try dsimp only [topA, Around.deeper, Around.in1]); omega)) ?_; intro v' h' tk' F' N' q'; (try k_sweep); (try subst q'); (try dsimp only)))
  unfold P25 CC25
  intro cx F N ecells ecode etail ea eheld enear dbase dturn dmark dports dtold danswers dneeds ddues dtotal deven dsome dseen a0 a1 a2 a3 b0 b1 b2 b3 hb8 hb0 hb1 hc64 hc111 hc34 hc120 htl hll ha2 ha0 ha1 hd2 hd0 hd1 hpv hp2 hp0 hp1 hFin
  obtain ⟨hd, hu, B', X', T'⟩ := cx
  have F := fr_top F (ecells)
  have F := fr_top F ((if_neg (by decide)).trans (ecode))
  have F := fr_top F ((if_neg (by decide)).trans ((if_neg (by decide)).trans (etail)))
  have F := fr_top F ((if_neg (by decide)).trans ((if_neg (by decide)).trans ((if_neg (by decide)).trans (ea))))
  have F := fr_top F ((if_neg (by decide)).trans ((if_neg (by decide)).trans ((if_neg (by decide)).trans ((if_neg (by decide)).trans (eheld)))))
  have F := fr_top F ((if_neg (by decide)).trans ((if_neg (by decide)).trans ((if_neg (by decide)).trans ((if_neg (by decide)).trans ((if_neg (by decide)).trans (enear))))))
  refine' law_go ?hq ?hs ?hc ?hb ?_
  case hq => exact rfl
  case hs => (conv => lhs; whnf)
  case hc => (conv => lhs; whnf)
  case hb => exact rfl
  (try dsimp only)
  (try k_fold)
  k_steps
  (rename Fr _ _ _ _ => F9); (rename News _ _ _ _ => N9)
  exact hFin _ _ _ F9
end

-- LawZ
section
theorem st_all (v : LV) : PS v := by
  have h : PS cS := ⟨st0c, st1c, st2c, st3c, st4c, st5c, st6c, st7c, st8c, st9c, st10c, st11c, st12c, st13c, st14c, st15c, st16c, st17c, st18c, st19c, st20c, st21c, st22c, st23c, st24c, st25c⟩
  have e : cS = eps aLV PS := by unfold cS; rfl
  rw [e] at h
  exact eps_all h v
theorem i25 : II25 := fun v => (st_all v).2.2.2.2.2.2.2.2.2.2.2.2.2.2.2.2.2.2.2.2.2.2.2.2.2
theorem i24 : II24 := fun v => (st_all v).2.2.2.2.2.2.2.2.2.2.2.2.2.2.2.2.2.2.2.2.2.2.2.2.1 i25
theorem i23 : II23 := fun v => (st_all v).2.2.2.2.2.2.2.2.2.2.2.2.2.2.2.2.2.2.2.2.2.2.2.1 i24
theorem i22 : II22 := fun v => (st_all v).2.2.2.2.2.2.2.2.2.2.2.2.2.2.2.2.2.2.2.2.2.2.1 i23
theorem i21 : II21 := fun v => (st_all v).2.2.2.2.2.2.2.2.2.2.2.2.2.2.2.2.2.2.2.2.2.1 i22
theorem i20 : II20 := fun v => (st_all v).2.2.2.2.2.2.2.2.2.2.2.2.2.2.2.2.2.2.2.2.1 i21
theorem i19 : II19 := fun v => (st_all v).2.2.2.2.2.2.2.2.2.2.2.2.2.2.2.2.2.2.2.1 i20
theorem i18 : II18 := fun v => (st_all v).2.2.2.2.2.2.2.2.2.2.2.2.2.2.2.2.2.2.1 i19
theorem i17 : II17 := fun v => (st_all v).2.2.2.2.2.2.2.2.2.2.2.2.2.2.2.2.2.1 i18
theorem i16 : II16 := fun v => (st_all v).2.2.2.2.2.2.2.2.2.2.2.2.2.2.2.2.1 i17
theorem i15 : II15 := fun v => (st_all v).2.2.2.2.2.2.2.2.2.2.2.2.2.2.2.1 i16
theorem i14 : II14 := fun v => (st_all v).2.2.2.2.2.2.2.2.2.2.2.2.2.2.1 i15
theorem i13 : II13 := fun v => (st_all v).2.2.2.2.2.2.2.2.2.2.2.2.2.1 i14
theorem i12 : II12 := fun v => (st_all v).2.2.2.2.2.2.2.2.2.2.2.2.1 i13
theorem i11 : II11 := fun v => (st_all v).2.2.2.2.2.2.2.2.2.2.2.1 i12
theorem i10 : II10 := fun v => (st_all v).2.2.2.2.2.2.2.2.2.2.1 i11
theorem i9 : II9 := fun v => (st_all v).2.2.2.2.2.2.2.2.2.1 i10
theorem i8 : II8 := fun v => (st_all v).2.2.2.2.2.2.2.2.1 i9
theorem i7 : II7 := fun v => (st_all v).2.2.2.2.2.2.2.1 i8
theorem i6 : II6 := fun v => (st_all v).2.2.2.2.2.2.1 i7
theorem i5 : II5 := fun v => (st_all v).2.2.2.2.2.1 i6
theorem i4 : II4 := fun v => (st_all v).2.2.2.2.1 i5
theorem i3 : II3 := fun v => (st_all v).2.2.2.1 i4
theorem i2 : II2 := fun v => (st_all v).2.2.1 i3
theorem i1 : II1 := fun v => (st_all v).2.1 i2
theorem i0 : II0 := fun v => (st_all v).1 i1
set_option maxHeartbeats 4000000 in
theorem law_ok : LawOK := by
  intro w mean mg mb dp un gd p items ns s R hI h63 B X T hd hu hpre hret
  k_dflt (refine' enterC ?k1 ?k2 ?k3 ?k6 ?k7 ?k8 ?k9 ?kB ?kD ?_ ?c2 ?c3 ?c4; (case k1 => exact B); (case k2 => exact X); (case k3 => exact T); (case k6 => k_is); (case k7 => k_is); (case k8 => ktr_room); (case k9 => exact BindsTo.of_eq rfl); (case kB => exact rfl); (case kD => decide +kernel); (case c2 => exact rfl); (case c3 => exact rfl); (case c4 => exact rfl); k_whole)
  clear B X T
  intro g L h' tk' cells' hg B' X' T' F N Y'
  have hY := kc_twelve Y'
  clear Y'
  obtain ⟨oSeen, oSome, oEven, oTotal, oDues, oNeeds, oAnswers, oTold, oPorts, oMark, oTurn, oBase, rfl, dseen, dsome, deven, dtotal, ddues, dneeds, danswers, dtold, dports, dmark, dturn, dbase⟩ := hY
  rw [hg] at hpre hret
  have cx : LCtx w mean mg mb dp un gd s.heap g := ⟨hd, hu, B', X', T'⟩
  show Go w dp un gd L 0 _ _ _
  refine i0 (LV.mk w mean mg mb dp un gd s.heap g L _ _ _ _ oBase oTurn oMark oPorts oTold oAnswers oNeeds oDues oTotal oEven oSome oSeen p items ns aLV.Dc aLV.zc aLV.c0 aLV.c1 aLV.c2 aLV.c3 aLV.t0 aLV.t1 aLV.t2 aLV.t3 aLV.bv aLV.tB aLV.tv aLV.tT aLV.c aLV.tC aLV.tM aLV.tl aLV.tTl aLV.av aLV.tA aLV.bb aLV.tBb aLV.pv aLV.Dp aLV.zp aLV.u0 aLV.u1 aLV.u2 aLV.u3 aLV.Dt aLV.zt aLV.X0 aLV.X1 aLV.X2 aLV.X3 aLV.w0 aLV.w1 aLV.w2 aLV.w3 aLV.v0 aLV.v1 aLV.v2 aLV.v3 aLV.Da aLV.za aLV.Y0 aLV.Y1 aLV.Y2 aLV.y0 aLV.y1 aLV.y2 aLV.Dn aLV.zn aLV.n0 aLV.n1 aLV.n2 aLV.Dd aLV.zd aLV.Z0 aLV.Z1 aLV.Z2 aLV.z0 aLV.z1 aLV.z2 aLV.zf aLV.tS aLV.De aLV.zv aLV.Ds aLV.zs aLV.Dw aLV.zw aLV.W0 aLV.W1 aLV.W2 aLV.W3 aLV.W4 aLV.W5 aLV.W6 aLV.k0 aLV.k1 aLV.k2 aLV.k3 aLV.k4 aLV.k5 aLV.k6 aLV.Dh aLV.zh aLV.Dr aLV.zr) cx F N rfl dbase dturn dmark dports dtold danswers dneeds ddues dtotal deven dsome dseen hI h63 hpre ?_
  intro h' tk' m' F
  exact hret _ _ (Fr.keep F)
theorem law_holds : PySem.Challenge.rw_yf0007_01.Holds := law_in law_ok
end
end Mine

set_option maxRecDepth 100000 in
set_option maxHeartbeats 8000000 in
theorem PySem.Challenge.cw_yf0007_01_holds : PySem.Challenge.rw_yf0007_01.Holds := by
  exact Mine.law_holds
