import PyProof.Rows.All
import Wide.All
import OpenK.AllK
import Wide.FinOn
import Lean
import PySem.Challenge.RW_pe0269_01
open PySem PySem.W PyProof.Rows
open PySem.Spec PySem.Calls
set_option Elab.async false
set_option compiler.extract_closed false
set_option maxRecDepth 100000
set_option maxHeartbeats 0
namespace Mine
theorem law_said : PySem.Challenge.rw_pe0269_01.wellSaid = true := by kernel_rfl
local macro_rules | `(tactic| o_law) => `(tactic| refine holds_law Mine.law_said fun said => ?_)
local macro_rules | `(tactic| o_head $_) => `(tactic| (refine (fun (_ : PySem.Challenge.rw_pe0269_01.row.toRowW.promised) (x : PySem.Challenge.rw_pe0269_01.row.Holds) => x) ?hw ?hc; all_goals (rename_i sd; clear sd)))
open_top hd for PySem.Challenge.rw_pe0269_01
theorem row_well : PySem.Challenge.rw_pe0269_01.row.wellSaid = true := row_said law_said
theorem left_boot {p q : Program} {loose : List Str} {Xt : Shared → Bool} {α : Type} {Yf : Shared → α} {Ya : World → α} {N : Nat} (e : opening p = plainProg p.main.scope.names) (hN : Nat.ble 600 N = true) (f : ∀ s, fenceModules? p s = some s)
    (h : ∀ (w : World) (os : OsState), (topFrom treeTable p w N ⟨boot_heap w.params, Array.mk [], boot_drawn, boot_toks, os⟩).map (fun s => (openSeen q loose (importedModules p.main.body) Xt true s, Yf s)) = some (openGood q loose, Ya w)) :
    LeftO p q loose Xt Yf Ya N := fun w => by
  obtain ⟨s, hs, hv⟩ := Option.map_eq_some_iff.mp (boot_open e hN f w)
  unfold openEnds
  rw [hs]
  cases s with
  | mk hp gs d tk os =>
    simp only [Prod.mk.injEq] at hv
    obtain ⟨h1, h2, h3, h4⟩ := hv
    subst h1 h2 h3 h4
    exact h w os
def hdview : Program := PySem.W.view PySem.Challenge.rw_pe0269_01.row.prog [1, 2, 3, 4, 5, 6, 7, 9, 10, 12, 13, 14, 15, 16, 18, 19, 20, 21]
def hdas : List Nat := [2, 3, 15, 17, 18, 20, 21, 22, 24, 25, 27, 28, 29, 31, 32, 34, 35, 36, 38, 39, 41, 42, 43, 45, 46, 48, 49, 50, 52, 53,
  55, 56, 67, 69, 70, 72, 73, 74, 76, 77, 79, 80, 81, 83, 84, 86, 87, 88, 90, 91, 93, 94, 95, 97, 98, 100, 101, 102,
  104, 105, 107, 108, 109, 111, 112, 114, 115, 116, 117, 118, 119, 120, 123, 125, 126, 128, 129, 130, 132, 133, 135,
  136, 137, 139, 140, 142, 143, 144, 147, 148, 149, 151, 152, 154, 155, 156, 158, 159, 161, 162, 163, 166, 167]
theorem hdase : ∀ P, hdas = (Mine.hd.heap_1 P).map (·.1) := fun _ => by kernel_rfl
abbrev hdX (s : Shared) : Bool := xlAt Mine.hdview [] s && recOk (RowW.records PySem.Challenge.rw_pe0269_01.row.toRowW) s
noncomputable abbrev hdH : Hook := kmHook Mine.hd.heap_1 hdas hdase [37, 30]
noncomputable abbrev hdrun (w : World) (os : OsState) := (topFrom treeTable PySem.Challenge.rw_pe0269_01.row.prog w 2118 ⟨boot_heap w.params, Array.mk [], boot_drawn, boot_toks, os⟩).map (fun s => (openSeen hdview [PySem.Str.ofString "Whitespace"] (importedModules PySem.Challenge.rw_pe0269_01.row.prog.main.body) hdX true s, hdH.obs s))
theorem hdF : ∀ (w : World) (os : OsState), hdrun (w.withFollow "special-get-raises" false) os = some (openGood hdview [PySem.Str.ofString "Whitespace"], hdH.val (w.withFollow "special-get-raises" false)) := fun w os => by kernel_rfl
theorem hdT : ∀ (w : World) (os : OsState), hdrun (w.withFollow "special-get-raises" true) os = some (openGood hdview [PySem.Str.ofString "Whitespace"], hdH.val (w.withFollow "special-get-raises" true)) := fun w os => by kernel_rfl
theorem hdleft : LeftO PySem.Challenge.rw_pe0269_01.row.prog hdview [PySem.Str.ofString "Whitespace"] hdX hdH.obs hdH.val 2118 :=
  left_boot rfl (by decide) (fun s => rfl) (byRow2 "special-get-raises" (P := fun w => ∀ os, hdrun w os = some (openGood hdview [PySem.Str.ofString "Whitespace"], hdH.val w)) hdF hdT)
end Mine
namespace Mine
local macro_rules | `(tactic| omega) => `(tactic| lia)
section
theorem flush_Ba : (1 : Nat) = 1 := by
  w_top off
  k_with_none
  first | walk1 | rfl
open PySem.Spec PySem.Calls
abbrev arC (dp un : Nat) (gd : Option (List Code)) (outer : List Env) : Around := { handled := none, depth := dp, frames := some outer, guards := gd, units := un }
abbrev PG : Program := PySem.Challenge.rw_pe0269_01.row.prog
section
variable {prog : Program} {w : World} {K : Frag} {p : Program} {loose : List Str} {mean : ExcName → Option Value} {mg mb : Str → Option Value} {dp un : Nat} {gd : Option (List Code)} {outer : List Env} {base g : Heap} {s : Shared}
  {R : Result → Shared → Prop} {name qual : Str} {params : Arguments} {body : List Stmt} {scope : Scope} {dV kV doc pm cdv ct oc : Value} {an od : Option Addr} {osl : Array (Option Value)} {f : Addr} {args : Args} {binds : List (Str × Value)}

/-- a def is entered, all that stands being the ground -/
theorem enterC (X : K.In g) (T : Top p loose mean mg mb g) (kp : ∀ b o, g.get? b = some o → s.heap.get? b = some o) (sz : g.objs.size ≤ s.heap.objs.size)
    (ho : K.lookup f = some ⟨oc, od, .func (fnOf name qual params body scope dV kV doc pm an cdv ct), osl⟩) (hcd : codeIn K cdv qual = true) (hroom : dp < recursionLimit)
    (hbind : BindsTo s (fnOf name qual params body scope dV kV doc pm an cdv ct) args binds) (hloc : ∀ y ∈ binds, scope.names.lookup y.1 = some .local)
    (hcell : ∀ x ∈ scope.names, x.2 ≠ .cell) (hco : scope.isCoroutine = false) (hgen : scope.isGenerator = false) (hk : scope.kind = .function)
    (h : ∀ L' h₁, Fr g L' h₁ (fun y => binds.reverse.lookup y) → s.heap.objs.size ≤ L' → (∀ b o, s.heap.get? b = some o → h₁.get? b = some o) →
      wpAny (model prog w) ((arC dp un gd outer).deeper (envOf qual scope L' f cdv)) (execs body (envOf qual scope L' f cdv))
        (fun fl s' => R (.ok (.ret (match fl with | .ret v => v | _ => .none))) s')
        (fun e s' => wpAny (model prog w) ((arC dp un gd outer).deeper (envOf qual scope L' f cdv)) (leaving (envOf qual scope L' f cdv) e) (fun _ s'' => R (.error e) s'') (fun e' s'' => R (.error e') s'') s')
        { s with heap := h₁, toks := s.toks + binds.length }) :
    codeAny (model prog w) (arC dp un gd outer) (.call (.ref f) args) R s :=
  codeAny_call_def (fd := fnOf name qual params body scope dV kV doc pm an cdv ct) (body := body) (binds := binds) hroom (kp _ _ (X _ _ ho)) rfl (T.nolimit.keeps kp) (codeRec_of (X.keeps kp) hcd) rfl hbind hcell hloc
    (fun h₁ hns hk₁ => h _ h₁ ⟨hns, fun b o e => hk₁ b o (kp b o e), sz⟩ (Nat.le_refl _) hk₁) hco hgen hk
end

/-- what a def does: called from any state over the ground g, it comes back by a value of which post holds, all of g kept -/
def Ct (w : World) (f : Addr) (args : List Value) (dn cu : Nat) (pre : Heap → Heap → Prop) (post : Heap → Heap → Heap → Value → Prop) : Prop :=
  ∀ (p : Program) (loose : List Str) (mean : ExcName → Option Value) (mg mb : Str → Option Value) (dp un : Nat) (gd : Option (List Code)) (outer : List Env) (A₀ : Around) (base g : Heap) (s : Shared) (R : Result → Shared → Prop),
    Below A₀ base outer g → (Mine.hd.heap_1 w.params).In g → Top p loose mean mg mb g → (∀ b o, g.get? b = some o → s.heap.get? b = some o) → g.objs.size ≤ s.heap.objs.size → pre g s.heap → dp + dn < recursionLimit → un + cu < cLine →
    (∀ v h' tk', (∀ b o, g.get? b = some o → h'.get? b = some o) → s.heap.objs.size ≤ h'.objs.size → post g s.heap h' v → R (.ok (.ret v)) { s with heap := h', toks := tk' }) →
    codeAny (model PySem.Challenge.rw_pe0269_01.row.prog w) (arC dp un gd outer) (.call (.ref f) ⟨args, []⟩) R s

theorem Fr.kept {h₀ h h' : Heap} {L : Addr} {m : Str → Option Value} (F : Fr h₀ L h m) (k : ∀ b o, h.get? b = some o → h'.get? b = some o) : Fr h₀ L h' m :=
  ⟨F.ns.keeps k, fun b o e => k b o (F.keep b o e), F.above⟩
theorem News.kept {h₀ h h' : Heap} {L : Addr} {news : List (Addr × Obj)} (N : News h₀ L h news) (k : ∀ b o, h.get? b = some o → h'.get? b = some o) : News h₀ L h' news :=
  fun p hp => ⟨k _ _ (N p hp).1, (N p hp).2⟩

/-- a contract used where the caller walks: nothing that stands is changed -/
theorem useC {w : World} {f : Addr} {args : List Value} {dn cu : Nat} {pre : Heap → Heap → Prop} {post : Heap → Heap → Heap → Value → Prop} {p : Program} {loose : List Str} {mean : ExcName → Option Value} {mg mb : Str → Option Value}
    {A A₀ : Around} {base h₀ : Heap} {outer : List Env} {env : Env} {L : Addr} {m : Str → Option Value} {news : List (Addr × Obj)} {s : Shared} {Q E : Value → Shared → Prop} {dp un : Nat} {gd : Option (List Code)}
    (C : Ct w f args dn cu pre post) (B : Below A₀ base outer h₀) (F : Fr h₀ L s.heap m) (X : (Mine.hd.heap_1 w.params).In h₀) (N : News h₀ L s.heap news) (T : Top p loose mean mg mb h₀)
    (hA : A = arC dp un gd (env :: outer)) (hf : env.frame = some L) (hke : env.scope.kind = .function) (hp : pre s.heap s.heap) (hd : dp + dn < recursionLimit) (hu : un + cu < cLine)
    (h : ∀ v h' tk', Fr h₀ L h' m → News h₀ L h' news → (∀ b o, s.heap.get? b = some o → h'.get? b = some o) → s.heap.objs.size ≤ h'.objs.size → post s.heap s.heap h' v → Q v { s with heap := h', toks := tk' }) :
    wpAny (model PySem.Challenge.rw_pe0269_01.row.prog w) A (call (.ref f) args) Q E s := by
  subst hA
  refine wpAny_call (C p loose mean mg mb dp un gd (env :: outer) (A₀.deeper env) base s.heap s _ (pushX B F hf hke) (X.keeps F.keep) (T.keeps F.keep) (fun _ _ e => e) (Nat.le_refl _) hp hd hu fun v h' tk' k z q => ?_)
  exact h v h' tk' (Mine.Fr.kept F k) (Mine.News.kept N k) k z q

abbrev noPre : Heap → Heap → Prop := fun _ _ => True
abbrev isInt (x : Int) : Heap → Heap → Heap → Value → Prop := fun _ _ _ v => ∃ t, v = .int x t
abbrev isStr (x : Str) : Heap → Heap → Heap → Value → Prop := fun _ _ _ v => ∃ t, v = .str x t
abbrev isBool (x : Bool) : Heap → Heap → Heap → Value → Prop := fun _ _ _ v => v = .bool x

theorem back {g h' : Heap} {L : Addr} {m : Str → Option Value} {v : Value} {s : Shared} {tk' : Nat} {post : Heap → Heap → Heap → Value → Prop} {R : Result → Shared → Prop}
    (ret : ∀ v h' tk', (∀ b o, g.get? b = some o → h'.get? b = some o) → s.heap.objs.size ≤ h'.objs.size → post g s.heap h' v → R (.ok (.ret v)) { s with heap := h', toks := tk' }) (F : Fr g L h' m) (hL : s.heap.objs.size ≤ L) (q : post g s.heap h' v) :
    R (.ok (.ret v)) { s with heap := h', toks := tk' } :=
  ret v h' tk' F.keep (by obtain ⟨o, _, _, e, _⟩ := F.ns; exact Nat.le_trans hL (Nat.le_of_lt (Heap.lt_size e))) q
theorem isInt_of {x y : Int} {t : Tok} {g h h' : Heap} (e : y = x) : isInt x g h h' (.int y t) := ⟨t, by rw [e]⟩
theorem isStr_of {x y : Str} {t : Tok} {g h h' : Heap} (e : y = x) : isStr x g h h' (.str y t) := ⟨t, by rw [e]⟩
theorem isBool_of {x y : Bool} {g h h' : Heap} (e : y = x) : isBool x g h h' (.bool y) := congrArg _ e
theorem gen9 {α : Type} {M : Model} {A : Around} {t : Sem α} {Q : α → Shared → Prop} {E : Value → Shared → Prop} {h : Heap} {g : Array GenState} {d : Drawn} {X : Nat} {o : OsState} (H : ∀ tk, wpAny M A t Q E ⟨h, g, d, tk, o⟩) : wpAny M A t Q E ⟨h, g, d, X, o⟩ := H X

section
variable {prog : Program} {w : World} {K : Frag} {p : Program} {loose : List Str} {mean : ExcName → Option Value} {mg mb : Str → Option Value} {dp un : Nat} {gd : Option (List Code)} {outer : List Env} {base g : Heap} {s : Shared}
  {R : Result → Shared → Prop} {name qual : Str} {params : Arguments} {body : List Stmt} {scope : Scope} {dV kV doc pm cdv ct oc : Value} {an od : Option Addr} {osl : Array (Option Value)} {f : Addr} {args : Args} {binds : List (Str × Value)} {news : List (Addr × Obj)}
/-- entered with a ledger: what stands and may change -/
theorem enterN (X : K.In g) (T : Top p loose mean mg mb g) (kp : ∀ b o, g.get? b = some o → s.heap.get? b = some o) (sz : g.objs.size ≤ s.heap.objs.size) (hn : ∀ q ∈ news, s.heap.get? q.1 = some q.2 ∧ g.get? q.1 = none)
    (ho : K.lookup f = some ⟨oc, od, .func (fnOf name qual params body scope dV kV doc pm an cdv ct), osl⟩) (hcd : codeIn K cdv qual = true) (hroom : dp < recursionLimit)
    (hbind : BindsTo s (fnOf name qual params body scope dV kV doc pm an cdv ct) args binds) (hloc : ∀ y ∈ binds, scope.names.lookup y.1 = some .local)
    (hcell : ∀ x ∈ scope.names, x.2 ≠ .cell) (hco : scope.isCoroutine = false) (hgen : scope.isGenerator = false) (hk : scope.kind = .function)
    (h : ∀ L' h₁, Fr g L' h₁ (fun y => binds.reverse.lookup y) → s.heap.objs.size ≤ L' → (∀ b o, s.heap.get? b = some o → h₁.get? b = some o) → News g L' h₁ news → (∀ q ∈ news, q.1 < L') →
      wpAny (model prog w) ((arC dp un gd outer).deeper (envOf qual scope L' f cdv)) (execs body (envOf qual scope L' f cdv))
        (fun fl s' => R (.ok (.ret (match fl with | .ret v => v | _ => .none))) s')
        (fun e s' => wpAny (model prog w) ((arC dp un gd outer).deeper (envOf qual scope L' f cdv)) (leaving (envOf qual scope L' f cdv) e) (fun _ s'' => R (.error e) s'') (fun e' s'' => R (.error e') s'') s')
        { s with heap := h₁, toks := s.toks + binds.length }) :
    codeAny (model prog w) (arC dp un gd outer) (.call (.ref f) args) R s :=
  enterC X T kp sz ho hcd hroom hbind hloc hcell hco hgen hk fun L' h₁ F hL hk₁ =>
    have lt : ∀ q ∈ news, q.1 < L' := fun q hq => Nat.lt_of_lt_of_le (Heap.lt_size (hn q hq).1) hL
    h L' h₁ F hL hk₁ (fun q hq => ⟨hk₁ _ _ (hn q hq).1, Nat.ne_of_lt (lt q hq), (hn q hq).2⟩) lt
end
theorem InstAt.kept {h h' : Heap} {x C : Addr} {ox : Obj} {od : Obj} (I : PySem.W.InstAt h x ox C (some od)) (k : ∀ b o, h.get? b = some o → h'.get? b = some o) : PySem.W.InstAt h' x ox C (some od) := by
  obtain ⟨a, b, c, d⟩ := I
  refine ⟨k _ _ a, b, c, ?_⟩
  cases e : ox.dict with
  | none => rw [e] at d; exact d
  | some dx => rw [e] at d; exact k _ _ d
end
local macro_rules | `(tactic| k_inst) => `(tactic| (refine' InstAt.kept ?aa ?bb; (case aa => assumption); (case bb => exact Fr.keep (by k_asm))))
local macro_rules | `(tactic| walk_at "execs cons") => `(tactic| (k_here; (try dsimp only); refine gen9 ?_; intro tk; (with_reducible refine wpAny_execs_cons ?_); try dsimp only))
local macro_rules | `(tactic| walk_at "execs nil") => `(tactic| (k_here; (try dsimp only); refine gen9 ?_; intro tk; with_reducible refine wpAny_execs_nil ?_))
section
theorem flush_Ca : (1 : Nat) = 1 := by
  w_top off
  k_with_none
  first | walk1 | rfl
def lengthS (count : Int) : Int := if count < 2 then 12 + count else 11 + 3 * count
theorem t_length (w : World) (count : Int) (tk : Tok) (h : 0 ≤ count ∧ count < 1000) : Ct w 162 [.int count tk] 1 8 noPre (isInt (lengthS count)) := by
  unfold Ct
  k_fill
  intro p loose mean mg mb dp un gd outer A₀ base g s R B X T kp sz hp hd hu ret
  k_dflt (refine' enterC ?k1 ?k2 ?k3 ?k4 ?k6 ?k7 ?k8 ?k9 ?kB ?c5 ?c2 ?c3 ?c4 ?kR; (case k1 => assumption); (case k2 => assumption); (case k3 => assumption); (case k4 => assumption); (case k6 => k_is); (case k7 => k_is); (case k8 => omega); (case k9 => exact BindsTo.of_eq rfl); (case kB => exact locs rfl); (case c5 => decide); (case c2 => exact rfl); (case c3 => exact rfl); (case c4 => exact rfl))
  k_whole
  intro L' h₁ F' hL hk₁
  dsimp only
  k_fold
  have N' : PyProof.Rows.News g L' h₁ [] := PyProof.Rows.News.nil
  k_with_none
  k_steps
  all_goals (try k_data)
  all_goals exact back (s := s) ret (by assumption) hL (isInt_of (by simp only [lengthS, *, if_true, if_false]))
def colT (size col c : Int) : Int := if c = 9 then col + size - col.fmod size else col + 1
def colS (lead : Str) (size : Int) : Int := (KStt.codes lead).foldl (colT size) 0
theorem one_tab {n : Nat} : ({ cps := #[n] } == Str.ofString "\t") = true ↔ (n : Int) = 9 := by
  rw [show Str.ofString "\t" = { cps := #[9] } from by decide +kernel, beq_iff_eq]
  constructor
  · intro h; injection h with h; injection h with h; injection h with h; omega
  · intro h; have : n = 9 := by omega
    subst this; rfl
theorem col_tab {size col : Int} {pre : List Int} {n : Nat} (h : ({ cps := #[n] } == Str.ofString "\t") = true) (e : col = pre.foldl (colT size) 0) : col + size - col.fmod size = (pre ++ [(n : Int)]).foldl (colT size) 0 := by
  subst e; rw [List.foldl_append]; simp [colT, one_tab.mp h]
theorem col_no {size col : Int} {pre : List Int} {n : Nat} (h : ({ cps := #[n] } == Str.ofString "\t") = false) (e : col = pre.foldl (colT size) 0) : col + 1 = (pre ++ [(n : Int)]).foldl (colT size) 0 := by
  have h' : ¬ (n : Int) = 9 := fun q => by rw [one_tab.mpr q] at h; cases h
  subst e; rw [List.foldl_append]; simp [colT, h']
theorem t_column (w : World) (lead : Str) (tk0 : Tok) (size : Int) (tk : Tok) (hsz : 0 < size) : Ct w 155 [.str lead tk0, .int size tk] 1 8 noPre (isInt (colS lead size)) := by
  unfold Ct
  k_fill
  intro p loose mean mg mb dp un gd outer A₀ base g s R B X T kp sz hp hd hu ret
  k_dflt (refine' enterC ?k1 ?k2 ?k3 ?k4 ?k6 ?k7 ?k8 ?k9 ?kB ?c5 ?c2 ?c3 ?c4 ?kR; (case k1 => assumption); (case k2 => assumption); (case k3 => assumption); (case k4 => assumption); (case k6 => k_is); (case k7 => k_is); (case k8 => omega); (case k9 => exact BindsTo.of_eq rfl); (case kB => exact locs rfl); (case c5 => decide); (case c2 => exact rfl); (case c3 => exact rfl); (case c4 => exact rfl))
  k_whole
  intro L' h₁ F' hL hk₁
  dsimp only
  k_fold
  have N' : PyProof.Rows.News g L' h₁ [] := PyProof.Rows.News.nil
  k_with_none
  (k_with "pyIter str" => k_state (fun pre c => c = pre.foldl (colT size) 0) "column")
  (k_with "state" => first | exact rfl | exact col_tab (by assumption) (by assumption) | exact col_no (by assumption) (by assumption))
  k_steps
  all_goals (try k_data)
  all_goals exact back (s := s) ret (by assumption) hL (isInt_of kInv)
end
section
theorem flush_Cb : (1 : Nat) = 1 := by
  w_top off
  k_with_none
  first | walk1 | rfl
theorem mul_len {n : Int} (h : 0 ≤ n ∧ n < 4) : (Txt.mul (Str.ofString " ") n).length ≤ 3 := by
  have : n = 0 ∨ n = 1 ∨ n = 2 ∨ n = 3 := by omega
  rcases this with rfl | rfl | rfl | rfl <;> decide +kernel
theorem len0 : (Str.ofString "").length = 0 := by decide +kernel
theorem len1 : (Str.ofString "\t").length = 1 := by decide +kernel
theorem run_len {n : Int} (h : 0 ≤ n ∧ n < 4) : (Txt.mul (Str.ofString " ") n ++ Str.ofString "\t").length ≤ 4 := by
  have := mul_len h
  rw [Str.length_append, len1]; omega
theorem tooLong_no {n : Nat} (h : n ≤ 1000) : PySem.Builtin.Str.tooLong n = false := by
  unfold PySem.Builtin.Str.tooLong
  have := sizeLine_eq
  exact decide_eq_false (by omega)
theorem joinOk0 : JoinOk (Str.ofString "") [] = true := by decide +kernel
theorem joinOk1 {a : Str} (ha : a.length ≤ 4) : JoinOk (Str.ofString "") [a] = true := by
  unfold JoinOk
  rw [Bool.not_eq_true']
  refine tooLong_no ?_
  show 0 + a.length + (Str.ofString "").length ≤ 1000
  rw [len0]; omega
theorem joinOk2 {a b : Str} (ha : a.length ≤ 4) (hb : b.length ≤ 4) : JoinOk (Str.ofString "") [a, b] = true := by
  unfold JoinOk
  rw [Bool.not_eq_true']
  refine tooLong_no ?_
  show 0 + a.length + (Str.ofString "").length + b.length + (Str.ofString "").length ≤ 1000
  rw [len0]; omega
def runTab (n : Int) : Str := Txt.mul (Str.ofString " ") n ++ Str.ofString "\t"
def leadJ (l : List Str) (c : Int) : Str := Txt.join (Str.ofString "") l ++ Txt.mul (Str.ofString " ") c
theorem runTab_len {n : Int} (h : 0 ≤ n ∧ n < 4) : (runTab n).length ≤ 4 := run_len h
theorem mulB {prog : Program} {w : World} {A : Around} {E : Value → Shared → Prop} {s : Shared} {t u : Tok} {Q : Value → Shared → Prop} {n : Int} (h : 0 ≤ n ∧ n < 4) (k : ∀ t' k, Q (.str (Txt.mul (Str.ofString " ") n) t') { s with toks := k }) :
    wpAny (model prog w) A (binaryOp .Mult (.str (Str.ofString " ") t) (.int n u)) Q E s := SB.mul (mulOk_of 1 4 (by decide +kernel) (by omega) (by omega) (by decide) (by decide)) k
theorem addB {prog : Program} {w : World} {A : Around} {E : Value → Shared → Prop} {s : Shared} {t u : Tok} {Q : Value → Shared → Prop} {n : Int} (h : 0 ≤ n ∧ n < 4) (k : ∀ t' k, Q (.str (runTab n) t') { s with toks := k }) :
    wpAny (model prog w) A (binaryOp .Add (.str (Txt.mul (Str.ofString " ") n) t) (.str (Str.ofString "\t") u)) Q E s := by
  have hl := run_len h
  have hz := sizeLine_eq
  exact SBL.add (fun _ _ _ => k _ _) (by rw [Str.length_append] at hl; omega)
theorem join_len (l : List Str) : (Txt.join (Str.ofString "") l).length ≤ (l.map (·.length)).sum := by
  have h := StrLaws.join_length_le (Str.ofString "") l
  rw [len0, Nat.mul_zero, Nat.add_zero] at h
  show (PySem.Builtin.Str.glued (Str.ofString "") l).length ≤ _
  rw [StrLaws.glued_eq_join]
  exact h
theorem joinL0 : (Txt.join (Str.ofString "") []).length ≤ 8 := Nat.le_trans (join_len _) (by decide)
theorem joinL1 {a : Str} (ha : a.length ≤ 4) : (Txt.join (Str.ofString "") [a]).length ≤ 8 := Nat.le_trans (join_len _) (by simp; omega)
theorem joinL2 {a b : Str} (ha : a.length ≤ 4) (hb : b.length ≤ 4) : (Txt.join (Str.ofString "") [a, b]).length ≤ 8 := Nat.le_trans (join_len _) (by simp; omega)
theorem addJ {prog : Program} {w : World} {A : Around} {E : Value → Shared → Prop} {s : Shared} {t u : Tok} {Q : Value → Shared → Prop} {n : Int} {l : List Str} (hl : (Txt.join (Str.ofString "") l).length ≤ 8) (h : 0 ≤ n ∧ n < 4) (k : ∀ t' k, Q (.str (leadJ l n) t') { s with toks := k }) :
    wpAny (model prog w) A (binaryOp .Add (.str (Txt.join (Str.ofString "") l) t) (.str (Txt.mul (Str.ofString " ") n) u)) Q E s := by
  have := mul_len h
  have hz := sizeLine_eq
  exact SBL.add (fun _ _ _ => k _ _) (by omega)
theorem t_lead0 (w : World) (pick : Int) (tk : Tok) (hk : (pick.fdiv 64).fmod 3 = 0) (h1 : 0 ≤ pick.fmod 4 ∧ pick.fmod 4 < 4) (h2 : 0 ≤ (pick.fdiv 4).fmod 4 ∧ (pick.fdiv 4).fmod 4 < 4) (h3 : 0 ≤ (pick.fdiv 16).fmod 4 ∧ (pick.fdiv 16).fmod 4 < 4) : Ct w 148 [.int pick tk] 1 8 noPre (isStr (leadJ [] ((pick.fdiv 16).fmod 4))) := by
  unfold Ct
  k_fill
  intro p loose mean mg mb dp un gd outer A₀ base g s R B X T kp sz hp hd hu ret
  k_dflt (refine' enterC ?k1 ?k2 ?k3 ?k4 ?k6 ?k7 ?k8 ?k9 ?kB ?c5 ?c2 ?c3 ?c4 ?kR; (case k1 => assumption); (case k2 => assumption); (case k3 => assumption); (case k4 => assumption); (case k6 => k_is); (case k7 => k_is); (case k8 => omega); (case k9 => exact BindsTo.of_eq rfl); (case kB => exact locs rfl); (case c5 => decide); (case c2 => exact rfl); (case c3 => exact rfl); (case c4 => exact rfl))
  k_whole
  intro L' h₁ F' hL hk₁
  dsimp only
  k_fold
  have N' : PyProof.Rows.News g L' h₁ [] := PyProof.Rows.News.nil
  k_with_none
  (k_with "evalPart none" => rw [hk])
  (k_with "last subscriptTail" => rw [hk])
  (k_with "binaryOp Mult str int" => (refine mulB (by assumption) ?_; intro _ _))
  (k_with "binaryOp Add str str" => (refine addB (by assumption) ?_; intro _ _))
  (k_with "call builtin:str.join" => (refine SC.join (texts := []) (l := []) (by is_list) rfl (joinOk0) ?_; intro _ _))
  (k_with "binaryOp Add str str" => (refine addJ joinL0 (by assumption) ?_; intro _ _))
  k_steps
  all_goals (try k_data)
  all_goals (with_reducible exact back (s := s) ret (by assumption) hL (isStr_of rfl))
theorem t_lead1 (w : World) (pick : Int) (tk : Tok) (hk : (pick.fdiv 64).fmod 3 = 1) (h1 : 0 ≤ pick.fmod 4 ∧ pick.fmod 4 < 4) (h2 : 0 ≤ (pick.fdiv 4).fmod 4 ∧ (pick.fdiv 4).fmod 4 < 4) (h3 : 0 ≤ (pick.fdiv 16).fmod 4 ∧ (pick.fdiv 16).fmod 4 < 4) : Ct w 148 [.int pick tk] 1 8 noPre (isStr (leadJ [runTab (pick.fmod 4)] ((pick.fdiv 16).fmod 4))) := by
  unfold Ct
  k_fill
  intro p loose mean mg mb dp un gd outer A₀ base g s R B X T kp sz hp hd hu ret
  k_dflt (refine' enterC ?k1 ?k2 ?k3 ?k4 ?k6 ?k7 ?k8 ?k9 ?kB ?c5 ?c2 ?c3 ?c4 ?kR; (case k1 => assumption); (case k2 => assumption); (case k3 => assumption); (case k4 => assumption); (case k6 => k_is); (case k7 => k_is); (case k8 => omega); (case k9 => exact BindsTo.of_eq rfl); (case kB => exact locs rfl); (case c5 => decide); (case c2 => exact rfl); (case c3 => exact rfl); (case c4 => exact rfl))
  k_whole
  intro L' h₁ F' hL hk₁
  dsimp only
  k_fold
  have N' : PyProof.Rows.News g L' h₁ [] := PyProof.Rows.News.nil
  k_with_none
  (k_with "evalPart none" => rw [hk])
  (k_with "last subscriptTail" => rw [hk])
  (k_with "binaryOp Mult str int" => (refine mulB (by assumption) ?_; intro _ _))
  (k_with "binaryOp Add str str" => (refine addB (by assumption) ?_; intro _ _))
  (k_with "call builtin:str.join" => (refine SC.join (texts := [runTab (pick.fmod 4)]) (l := [(runTab (pick.fmod 4), _)]) (by is_list) rfl (joinOk1 (runTab_len h1)) ?_; intro _ _))
  (k_with "binaryOp Add str str" => (refine addJ (joinL1 (runTab_len h1)) (by assumption) ?_; intro _ _))
  k_steps
  all_goals (try k_data)
  all_goals (with_reducible exact back (s := s) ret (by assumption) hL (isStr_of rfl))
theorem t_lead2 (w : World) (pick : Int) (tk : Tok) (hk : (pick.fdiv 64).fmod 3 = 2) (h1 : 0 ≤ pick.fmod 4 ∧ pick.fmod 4 < 4) (h2 : 0 ≤ (pick.fdiv 4).fmod 4 ∧ (pick.fdiv 4).fmod 4 < 4) (h3 : 0 ≤ (pick.fdiv 16).fmod 4 ∧ (pick.fdiv 16).fmod 4 < 4) : Ct w 148 [.int pick tk] 1 8 noPre (isStr (leadJ [runTab (pick.fmod 4), runTab ((pick.fdiv 4).fmod 4)] ((pick.fdiv 16).fmod 4))) := by
  unfold Ct
  k_fill
  intro p loose mean mg mb dp un gd outer A₀ base g s R B X T kp sz hp hd hu ret
  k_dflt (refine' enterC ?k1 ?k2 ?k3 ?k4 ?k6 ?k7 ?k8 ?k9 ?kB ?c5 ?c2 ?c3 ?c4 ?kR; (case k1 => assumption); (case k2 => assumption); (case k3 => assumption); (case k4 => assumption); (case k6 => k_is); (case k7 => k_is); (case k8 => omega); (case k9 => exact BindsTo.of_eq rfl); (case kB => exact locs rfl); (case c5 => decide); (case c2 => exact rfl); (case c3 => exact rfl); (case c4 => exact rfl))
  k_whole
  intro L' h₁ F' hL hk₁
  dsimp only
  k_fold
  have N' : PyProof.Rows.News g L' h₁ [] := PyProof.Rows.News.nil
  k_with_none
  (k_with "evalPart none" => rw [hk])
  (k_with "last subscriptTail" => rw [hk])
  (k_with "binaryOp Mult str int" => (refine mulB (by assumption) ?_; intro _ _))
  (k_with "binaryOp Add str str" => (refine addB (by assumption) ?_; intro _ _))
  (k_with "call builtin:str.join" => (refine SC.join (texts := [runTab (pick.fmod 4), runTab ((pick.fdiv 4).fmod 4)]) (l := [(runTab (pick.fmod 4), _), (runTab ((pick.fdiv 4).fmod 4), _)]) (by is_list) rfl (joinOk2 (runTab_len h1) (runTab_len h2)) ?_; intro _ _))
  (k_with "binaryOp Add str str" => (refine addJ (joinL2 (runTab_len h1) (runTab_len h2)) (by assumption) ?_; intro _ _))
  k_steps
  all_goals (try k_data)
  all_goals (with_reducible exact back (s := s) ret (by assumption) hL (isStr_of rfl))
def leadS (pick : Int) : Str := leadJ ([runTab (pick.fmod 4), runTab ((pick.fdiv 4).fmod 4)].take ((pick.fdiv 64).fmod 3).toNat) ((pick.fdiv 16).fmod 4)
theorem t_lead (w : World) (pick : Int) (tk : Tok) : Ct w 148 [.int pick tk] 1 8 noPre (isStr (leadS pick)) := by
  have b4 : ∀ x : Int, 0 ≤ x.fmod 4 ∧ x.fmod 4 < 4 := fun x => ⟨Int.fmod_nonneg_of_pos _ (by decide), Int.fmod_lt_of_pos _ (by decide)⟩
  have b3 : 0 ≤ (pick.fdiv 64).fmod 3 ∧ (pick.fdiv 64).fmod 3 < 3 := ⟨Int.fmod_nonneg_of_pos _ (by decide), Int.fmod_lt_of_pos _ (by decide)⟩
  have : (pick.fdiv 64).fmod 3 = 0 ∨ (pick.fdiv 64).fmod 3 = 1 ∨ (pick.fdiv 64).fmod 3 = 2 := by omega
  unfold leadS
  rcases this with h | h | h
  · rw [h]; exact t_lead0 w pick tk h (b4 _) (b4 _) (b4 _)
  · rw [h]; exact t_lead1 w pick tk h (b4 _) (b4 _) (b4 _)
  · rw [h]; exact t_lead2 w pick tk h (b4 _) (b4 _) (b4 _)
end
section
theorem flush_Cw : (1 : Nat) = 1 := by
  w_top off
  k_with_none
  first | walk1 | rfl
/-- what a Whitespace holds -/
structure Ws where
  n : Int
  nt : Int
  cnt : List Int
  b : Int
abbrev wsDict (raw : Str) (W : Ws) (tn : Addr) (h1 h2 h3 h4 h5 : Int) (k1 k2 k3 k4 k5 t1 t2 t3 : Tok) : List DictEntry :=
  [⟨h1, .str (Str.ofString "raw") k1, .str raw t1⟩, ⟨h2, .str (Str.ofString "n") k2, .int W.n t2⟩, ⟨h3, .str (Str.ofString "nt") k3, .int W.nt t3⟩, ⟨h4, .str (Str.ofString "norm") k4, .ref tn⟩, ⟨h5, .str (Str.ofString "is_simple") k5, .bool (decide ((W.cnt.length : Int) ≤ 1))⟩]
def WsAt (h : Heap) (x : Addr) (W : Ws) : Prop :=
  ∃ raw dx tn tc vs h1 h2 h3 h4 h5 k1 k2 k3 k4 k5 t1 t2 t3 t4 e, PySem.W.InstAt h x (instObj 118 dx) 118 (some (dictOf (wsDict raw W tn h1 h2 h3 h4 h5 k1 k2 k3 k4 k5 t1 t2 t3) e)) ∧ IsTup h tn #[.ref tc, .int W.b t4] ∧ IsTup h tc (List.toArray vs) ∧ IntsAre vs W.cnt ∧ W.cnt.length < 1000 ∧ (∀ c ∈ W.cnt, 0 ≤ c ∧ c < 1000) ∧ (0 ≤ W.b ∧ W.b < 1000 ∧ 0 ≤ W.n ∧ W.n < 1000 ∧ 0 ≤ W.nt ∧ W.nt < 1000)
def bump (cnt : List Int) (b : Int) : List Int :=
  let c := if b ≥ (cnt.length : Int) then cnt ++ List.replicate (b - cnt.length + 1).toNat 0 else cnt
  c.set b.toNat (c.getD b.toNat 0 + 1)
def wsT (W : Ws) (c : Int) : Ws := if c = 32 then { W with n := W.n + 1, b := W.b + 1 } else { n := W.n + 1, nt := W.nt + 1, cnt := bump W.cnt W.b, b := 0 }
def ws0 : Ws := { n := 0, nt := 0, cnt := [], b := 0 }
def blank (c : Int) : Bool := c == 32 || c == 9
def wsOf (raw : Str) : Ws := ((KStt.codes raw).takeWhile blank).foldl wsT ws0
/-- a bare instance, its dict empty -/
def Bare (g h : Heap) (x dx : Addr) : Prop := h.get? x = some (instObj 118 dx) ∧ h.get? dx = some (dictOf [] 0) ∧ g.get? x = none ∧ g.get? dx = none ∧ dx < x
end
section
theorem flush_Cc : (1 : Nat) = 1 := by
  w_top off
  k_with_none
  first | walk1 | rfl
theorem len_tup9 {prog : Program} {w : World} {A : Around} {E : Value → Shared → Prop} {s : Shared} {g : Heap} {t : Addr} {vs : List Value} {ns : List Int} {Q : Value → Shared → Prop} (ht : IsTup g t vs.toArray) (hc : IntsAre vs ns) (hl : ns.length < 1000) (k : ∀ b o, g.get? b = some o → s.heap.get? b = some o)
    (h : Q (.int ns.length (s.toks + 1)) { s with toks := s.toks + 1 + 1 }) : wpAny (model prog w) A (call (.builtin "len") [.ref t]) Q E s := by
  have e : vs.toArray.size = ns.length := by rw [List.size_toArray, IntsAre.length hc]
  exact len_tuple (IsTup.keeps ht k) (by rw [e]; omega) (by rw [e]; exact h)
theorem t_longest (w : World) (x : Addr) (W : Ws) : Ct w 80 [.ref x] 1 8 (fun g _ => WsAt g x W) (isInt (max ((W.cnt.length : Int) - 1) W.b)) := by
  unfold Ct
  k_fill
  intro p loose mean mg mb dp un gd outer A₀ base g s R B X T kp sz hp hd hu ret
  k_dflt (refine' enterC ?k1 ?k2 ?k3 ?k4 ?k6 ?k7 ?k8 ?k9 ?kB ?c5 ?c2 ?c3 ?c4 ?kR; (case k1 => assumption); (case k2 => assumption); (case k3 => assumption); (case k4 => assumption); (case k6 => k_is); (case k7 => k_is); (case k8 => omega); (case k9 => exact BindsTo.of_eq rfl); (case kB => exact locs rfl); (case c5 => decide); (case c2 => exact rfl); (case c3 => exact rfl); (case c4 => exact rfl))
  k_whole
  intro L' h₁ F' hL hk₁
  dsimp only
  k_fold
  have N' : PyProof.Rows.News g L' h₁ [] := PyProof.Rows.News.nil
  k_with_none
  obtain ⟨raw, dx, tn, tc, vs, q1, q2, q3, q4, q5, k1, k2, k3, k4, k5, t1, t2, t3, t4, e, hI, hN, hC, hc, hlen, hcb, hW⟩ := hp
  have hlen' := IntsAre.length hc
  (k_with "call builtin:len" => k_dflt (refine' len_tup9 ?a ?b ?c ?d ?_; (case a => assumption); (case b => assumption); (case c => assumption); (case d => exact Fr.keep (by k_asm))))
  k_steps
  all_goals (try k_data)
  all_goals exact back (s := s) ret (by assumption) hL (isInt_of (by split <;> omega))
def ilT (ts : Int) (cnt : List Int) (il i : Int) : Int := il + i.fdiv ts * cnt.getD i.toNat 0
/-- what range(a, b) hands out -/
def upTo (a b : Int) : List Int := rangeKs a (b - a).toNat
def indentS (W : Ws) (ts : Int) : Int := W.b + ts * ((upTo ts W.cnt.length).foldl (ilT ts W.cnt) 0 + W.nt)
theorem getD_bound {cnt : List Int} (h : ∀ c ∈ cnt, 0 ≤ c ∧ c < 1000) (n : Nat) : 0 ≤ cnt.getD n 0 ∧ cnt.getD n 0 < 1000 := by
  rw [List.getD_eq_getElem?_getD]
  cases e : cnt[n]? with
  | none => exact ⟨by decide, by decide⟩
  | some c => exact h c (List.mem_of_getElem? e)
theorem getD_bits {cnt : List Int} (h : ∀ c ∈ cnt, 0 ≤ c ∧ c < 1000) (n : Nat) : PySem.Builtin.Int.intBits (cnt.getD n 0) ≤ 64 := by
  have := getD_bound h n
  exact intBits_le_64 (by omega) (by omega)
theorem il_end {ts : Int} {cnt : List Int} {il x v : Int} {pre : List Int} (e : il = pre.foldl (ilT ts cnt) 0) (ev : v = x.fdiv ts * cnt.getD x.toNat 0) : il + v = (pre ++ [x]).foldl (ilT ts cnt) 0 := by
  subst e ev; rw [List.foldl_append]; rfl
theorem t_indent (w : World) (x : Addr) (W : Ws) (ts : Int) (tk : Tok) (hts : 0 < ts ∧ ts < 2000) : Ct w 87 [.ref x, .int ts tk] 1 8 (fun g _ => WsAt g x W) (isInt (indentS W ts)) := by
  unfold Ct
  k_fill
  intro p loose mean mg mb dp un gd outer A₀ base g s R B X T kp sz hp hd hu ret
  k_dflt (refine' enterC ?k1 ?k2 ?k3 ?k4 ?k6 ?k7 ?k8 ?k9 ?kB ?c5 ?c2 ?c3 ?c4 ?kR; (case k1 => assumption); (case k2 => assumption); (case k3 => assumption); (case k4 => assumption); (case k6 => k_is); (case k7 => k_is); (case k8 => omega); (case k9 => exact BindsTo.of_eq rfl); (case kB => exact locs rfl); (case c5 => decide); (case c2 => exact rfl); (case c3 => exact rfl); (case c4 => exact rfl))
  k_whole
  intro L' h₁ F' hL hk₁
  dsimp only
  k_fold
  have N' : PyProof.Rows.News g L' h₁ [] := PyProof.Rows.News.nil
  k_with_none
  obtain ⟨raw, dx, tn, tc, vs, q1, q2, q3, q4, q5, k1, k2, k3, k4, k5, t1, t2, t3, t4, e, hI, hN, hC, hc, hlen, hcb, hW⟩ := hp
  have hlen' := IntsAre.length hc
  (k_with "call builtin:len" => k_dflt (refine' len_tup9 ?a ?b ?c ?d ?_; (case a => assumption); (case b => assumption); (case c => assumption); (case d => exact Fr.keep (by k_asm))))
  (k_with "pyIter ref" => k_state (fun pre il => il = pre.foldl (ilT ts W.cnt) 0) "il")
  (k_with "state" => first | exact rfl | exact il_end (by assumption) rfl)
  (k_with "binaryOp Mult int int" => (refine mul_int ?_ (IntMulOk.of_right (getD_bits hcb _))))
  (k_with "subscriptTail Name Name ref int" => (k_dflt (refine' item_tuple_ints ?a ?b ?c ?d ?e ?_; (case a => exact IsTup.keeps (by assumption) (Fr.keep (by k_asm))); (case b => assumption); (case c => omega); (case d => omega); (case e => omega)); intro _))
  k_steps
  all_goals (try k_data)
  all_goals (first | exact back (s := s) ret (by assumption) hL (isInt_of (by rw [kInv]; rfl)))
end
section
theorem flush_Ce : (1 : Nat) = 1 := by
  w_top off
  k_with_none
  first | walk1 | rfl
section
variable {prog : Program} {w : World} {A : Around} {E : Value → Shared → Prop} {s : Shared} {env : Env} {h₀ : Heap} {x : Str} {body : List Stmt} {Q : Flow → Shared → Prop}
/-- a turn's end: the ledger may be another one, the iterator stands -/
def EndI (h₀ : Heap) (L : Addr) (J : (Str → Option Value) → List (Addr × Obj) → Prop) (I : Addr) (oI : Obj) (s₁ s₂ : Shared) : Prop :=
  ∃ h' tk m' news' nx, s₂ = { s₁ with heap := h', toks := tk } ∧ Fr h₀ L h' m' ∧ News h₀ L h' news' ∧ (∀ p ∈ nx, p ∈ news') ∧ (I, oI) ∈ news' ∧ (∀ p ∈ nx, p.1 ≠ I) ∧ J m' nx
def PostI (h₀ : Heap) (L : Addr) (J : (Str → Option Value) → List (Addr × Obj) → Prop) (I : Addr) (oI : Obj) (s₁ : Shared) (Q : Flow → Shared → Prop) (f : Flow) (s₂ : Shared) : Prop :=
  match f with
  | .ret v => Q (.ret v) s₂
  | .brk => Q .next s₂
  | _ => EndI h₀ L J I oI s₁ s₂
theorem own_loop {o : Obj} {n : Nat} {P : Nat → Value → Prop} {St : Nat → Heap → Prop} {m₀ : Str → Option Value} {news : List (Addr × Obj)} (J : Nat → (Str → Option Value) → List (Addr × Obj) → Prop)
    (W : Walks prog w A s.heap.objs.size [s.heap.objs.size] [s.heap.objs.size] n P St) (hSt : ∀ i h, St i h → ∃ o, h.get? s.heap.objs.size = some o) (hst : St 0 (s.heap.push o))
    (F : Fr h₀ env.locals s.heap m₀) (N : News h₀ env.locals s.heap news) (hj : J 0 m₀ news)
    (turn : ∀ i v m₁ news₁ h tk I oI, i < n → P i v → J i m₁ news₁ → (∀ q ∈ news₁, q.1 ≠ I) → Fr h₀ env.locals h (fun y => if y = x then some v else m₁ y) → News h₀ env.locals h ((I, oI) :: news₁) →
      wpAny (model prog w) A (execs body env) (PostI h₀ env.locals (J (i + 1)) I oI { s with heap := h, toks := tk } Q) E { s with heap := h, toks := tk })
    (done : ∀ m₁ news₁ h tk, J n m₁ news₁ → Fr h₀ env.locals h m₁ → News h₀ env.locals h news₁ → Q .next { s with heap := h, toks := tk }) :
    LoopAtV prog w A h₀ env x body Q E (.ref s.heap.objs.size) { s with heap := s.heap.push o } := by
  refine ⟨s.heap.objs.size, [s.heap.objs.size], [s.heap.objs.size], n, _, St, m₀, news, fun i m nx => J i m nx, rfl, W, ?_, ?_, ?_, hst, F.push _, (fun p hp => ⟨Heap.get?_push_of_some _ (N p hp).1, (N p hp).2⟩), hj, ?_, ?_⟩
  · intro hm
    exact absurd F.ns.lt ((List.mem_singleton.mp hm) ▸ Nat.lt_irrefl _)
  · intro b' hb
    rw [List.mem_singleton.mp hb]
    exact next_is_new F
  · intro p hp hI
    exact absurd (Heap.lt_size (N p hp).1) ((List.mem_singleton.mp hI) ▸ Nat.lt_irrefl _)
  · rintro i v m₁ news₁ s₁ own ⟨hh', tk', rfl⟩ hin hP hJ hoff hown hget hfp hst' F₁ N₁
    have hI0 : h₀.get? s.heap.objs.size = none := next_is_new F
    obtain ⟨oI, hoI⟩ := hSt _ _ hst'
    have hIown : (s.heap.objs.size, oI) ∈ own := hfp _ (List.mem_singleton.mpr rfl) hI0 _ hoI
    have only : ∀ p ∈ own, p = (s.heap.objs.size, oI) := fun p hp => by
      have h1 := List.mem_singleton.mp (hown p hp)
      have h2 := hget p hp
      rw [h1] at h2
      exact Prod.ext h1 (Option.some.inj (h2.symm.trans hoI))
    have off : ∀ q ∈ news₁, q.1 ≠ s.heap.objs.size := fun q hq e => hoff q hq (List.mem_singleton.mpr e)
    have N₂ : News h₀ env.locals hh' ((s.heap.objs.size, oI) :: news₁) := fun p hp => by
      rcases List.mem_cons.mp hp with rfl | hp
      · exact N₁ _ (List.mem_append.mpr (.inl hIown))
      · exact N₁ _ (List.mem_append.mpr (.inr hp))
    refine wpAny_mono (turn i v m₁ news₁ hh' tk' s.heap.objs.size oI hin hP hJ off F₁ N₂) (fun f s₂ p => ?_) fun _ _ e => e
    have fin : EndI h₀ env.locals (J (i + 1)) s.heap.objs.size oI { s with heap := hh', toks := tk' } s₂ → LoopStepU h₀ env.locals [s.heap.objs.size] own (fun m nx => J (i + 1) m nx) { s with heap := hh', toks := tk' } .next s₂ := by
      rintro ⟨h', tk, m', news', nx, e, F', N', hn, hI, ha, hm⟩
      exact ⟨rfl, h', tk, m', nx, e, F', fun p hp => N' p ((List.mem_append.mp hp).elim (fun q => only p q ▸ hI) (hn p)), fun p hp hq => ha p hp (List.mem_singleton.mp hq), hm⟩
    cases f with
    | ret v => exact .ret p
    | brk => exact .brk p
    | next => exact .next (fin p)
    | cont => exact .cont (fin p)
  · rintro h' tk m' news' F' N' _ hJ
    exact done m' news' h' tk hJ F' N'
theorem str_loop {xt : Str} {tx : Tok} {m₀ : Str → Option Value} {news : List (Addr × Obj)} (J : List Int → (Str → Option Value) → List (Addr × Obj) → Prop)
    (hh : A.handled = none) (F : Fr h₀ env.locals s.heap m₀) (N : News h₀ env.locals s.heap news) (hj : J [] m₀ news)
    (turn : ∀ pre post (n : Nat) t m₁ news₁ h tk I oI, KStt.codes xt = pre ++ (n : Int) :: post → J pre m₁ news₁ → (∀ q ∈ news₁, q.1 ≠ I) → Fr h₀ env.locals h (fun y => if y = x then some (.str ⟨#[n]⟩ t) else m₁ y) → News h₀ env.locals h ((I, oI) :: news₁) →
      wpAny (model prog w) A (execs body env) (PostI h₀ env.locals (J (pre ++ [(n : Int)])) I oI { s with heap := h, toks := tk } Q) E { s with heap := h, toks := tk })
    (done : ∀ m₁ news₁ h tk, J (KStt.codes xt) m₁ news₁ → Fr h₀ env.locals h m₁ → News h₀ env.locals h news₁ → Q .next { s with heap := h, toks := tk }) :
    wpAny (model prog w) A (pyIter (.str xt tx)) (fun it s₂ => LoopAtV prog w A h₀ env x body Q E it s₂) E s := by
  have turn' : ∀ i v m₁ news₁ h tk I oI, i < xt.cps.size → SignAt xt i v → J ((KStt.codes xt).take i) m₁ news₁ → (∀ q ∈ news₁, q.1 ≠ I) → Fr h₀ env.locals h (fun y => if y = x then some v else m₁ y) → News h₀ env.locals h ((I, oI) :: news₁) →
      wpAny (model prog w) A (execs body env) (PostI h₀ env.locals (fun m nx => J ((KStt.codes xt).take (i + 1)) m nx) I oI { s with heap := h, toks := tk } Q) E { s with heap := h, toks := tk } := by
    rintro i v m₁ news₁ h tk I oI hin ⟨n, u, hn, rfl⟩ hJ off F₁ N₂
    have hn' := KStt.code_at hn
    have hs : (KStt.codes xt).take (i + 1) = (KStt.codes xt).take i ++ [(n : Int)] := by simp [List.take_add_one, hn']
    have e : KStt.codes xt = (KStt.codes xt).take i ++ (n : Int) :: (KStt.codes xt).drop (i + 1) := by
      have ht := List.take_append_drop (i + 1) (KStt.codes xt)
      rw [hs, List.append_assoc] at ht
      exact ht.symm
    have z := turn _ _ n u m₁ news₁ h tk I oI e hJ off F₁ N₂
    rw [← hs] at z
    exact z
  have hl : xt.cps.size = (KStt.codes xt).length := (KStt.codes_length xt).symm
  have done' : ∀ m₁ news₁ h tk, J ((KStt.codes xt).take xt.cps.size) m₁ news₁ → Fr h₀ env.locals h m₁ → News h₀ env.locals h news₁ → Q .next { s with heap := h, toks := tk } := by
    intro m₁ news₁ h tk hJ
    rw [hl, List.take_length] at hJ
    exact done m₁ news₁ h tk hJ
  cases ha : xt.cps.all (· < 128)
  · exact wpAny_pyIter_wide ha (own_loop (fun i => J ((KStt.codes xt).take i)) (Walks.strWide hh _ xt tx) (fun _ _ ⟨o, ho, _⟩ => ⟨o, ho⟩) ⟨_, Heap.get?_push_size _ rfl, rfl, rfl⟩ F N hj turn' done')
  · exact wpAny_pyIter_ascii ha (own_loop (fun i => J ((KStt.codes xt).take i)) (Walks.strAscii hh _ xt tx) (fun _ _ ⟨o, ho, _⟩ => ⟨o, ho⟩) ⟨_, Heap.get?_push_size _ rfl, rfl, rfl⟩ F N hj turn' done')
theorem range_loop {r : Addr} {a₀ b₀ : Int} {t₀ u₀ v₀ : Tok} {n : Nat} {m₀ : Str → Option Value} {news : List (Addr × Obj)} (J : Nat → (Str → Option Value) → List (Addr × Obj) → Prop)
    (hh : A.handled = none) (hr : IsRange s.heap r a₀ b₀ 1 t₀ u₀ v₀) (hsmall : Builtin.Range.small a₀ b₀ 1 = true) (hn : Builtin.Range.rangeSize a₀ b₀ 1 = (n : Int)) (F : Fr h₀ env.locals s.heap m₀) (N : News h₀ env.locals s.heap news) (hj : J 0 m₀ news)
    (turn : ∀ (i : Nat) (k : Int) t m₁ news₁ h tk I oI, i < n → k = a₀ + i → J i m₁ news₁ → (∀ q ∈ news₁, q.1 ≠ I) → Fr h₀ env.locals h (fun y => if y = x then some (.int k t) else m₁ y) → News h₀ env.locals h ((I, oI) :: news₁) →
      wpAny (model prog w) A (execs body env) (PostI h₀ env.locals (J (i + 1)) I oI { s with heap := h, toks := tk } Q) E { s with heap := h, toks := tk })
    (done : ∀ m₁ news₁ h tk, J n m₁ news₁ → Fr h₀ env.locals h m₁ → News h₀ env.locals h news₁ → Q .next { s with heap := h, toks := tk }) :
    wpAny (model prog w) A (pyIter (.ref r)) (fun it s₂ => LoopAtV prog w A h₀ env x body Q E it s₂) E s := by
  refine wpAny_pyIter_range hr hsmall ?_
  have W : Walks prog w A s.heap.objs.size [s.heap.objs.size] [s.heap.objs.size] n (fun i v => i < n ∧ ∃ t, v = .int (a₀ + i * 1) t)
      (fun i h => IsRangeIter h s.heap.objs.size (a₀ + (i : Nat) * 1) ((n : Int) - (i : Nat)) 1) := (Walks.range hh _ a₀ 1 n).bound
  refine own_loop J W (fun _ _ e => ⟨_, e⟩) (by show IsRangeIter _ _ _ _ _; rw [hn]; simpa using Heap.get?_push_size _ rfl) F N hj ?_ done
  rintro i v m₁ news₁ h tk I oI hin ⟨_, t, rfl⟩ hJ off F₁ N₂
  exact turn i _ t m₁ news₁ h tk I oI hin (by omega) hJ off F₁ N₂
end
end
section
theorem flush_Cd : (1 : Nat) = 1 := by
  w_top off
  k_with_none
  first | walk1 | rfl
/-- the state of the loop in __init__ -/
def JInit (m₀ : Str → Option Value) (rest : List (Addr × Obj)) (pre : List Int) (m : Str → Option Value) (nx : List (Addr × Obj)) : Prop :=
  ∃ (W : Ws) (vs : List Value) (k : Nat) (l : Addr) (tb tn tnt : Tok), W = pre.foldl wsT ws0 ∧ (∀ c ∈ pre, blank c = true) ∧ IntsAre vs W.cnt ∧ nx = (l, PySem.W.listOf vs.toArray k) :: rest ∧ (∀ p ∈ rest, p.1 < l) ∧
    m (Str.ofString "b") = some (.int W.b tb) ∧ m (Str.ofString "n") = some (.int W.n tn) ∧ m (Str.ofString "nt") = some (.int W.nt tnt) ∧ m (Str.ofString "count") = some (.ref l) ∧
    ∀ z, z ≠ Str.ofString "ch" → z ≠ Str.ofString "b" → z ≠ Str.ofString "n" → z ≠ Str.ofString "nt" → z ≠ Str.ofString "count" → m z = m₀ z
/-- what the counts are at most -/
structure Small (N : Nat) (W : Ws) : Prop where
  b : 0 ≤ W.b ∧ W.b ≤ N
  n : 0 ≤ W.n ∧ W.n ≤ N
  nt : 0 ≤ W.nt ∧ W.nt ≤ N
  len : W.cnt.length ≤ N
  c : ∀ c ∈ W.cnt, 0 ≤ c ∧ c ≤ N
  lenb : (W.cnt.length : Int) + W.b ≤ N
theorem bump_len (cnt : List Int) (b : Int) (h : 0 ≤ b) : ((bump cnt b).length : Int) = max (cnt.length : Int) (b + 1) := by
  unfold bump
  simp only [List.length_set]
  split
  · simp only [List.length_append, List.length_replicate]; omega
  · omega
theorem bump_mem {cnt : List Int} {b : Int} {N : Nat} (hc : ∀ c ∈ cnt, 0 ≤ c ∧ c ≤ N) : ∀ c ∈ bump cnt b, 0 ≤ c ∧ c ≤ (N + 1 : Nat) := by
  unfold bump
  intro c hm
  have key : ∀ (l : List Int), (∀ c ∈ l, 0 ≤ c ∧ c ≤ N) → c ∈ l.set b.toNat (l.getD b.toNat 0 + 1) → 0 ≤ c ∧ c ≤ (N + 1 : Nat) := by
    intro l hl hm
    rcases List.mem_or_eq_of_mem_set hm with h | h
    · have := hl c h; omega
    · have hg : 0 ≤ l.getD b.toNat 0 ∧ l.getD b.toNat 0 ≤ N := by
        rw [List.getD_eq_getElem?_getD]
        cases e : l[b.toNat]? with
        | none => exact ⟨by decide, by simp⟩
        | some d => exact hl d (List.mem_of_getElem? e)
      omega
  refine key _ ?_ hm
  split
  · intro d hd
    rcases List.mem_append.mp hd with h | h
    · exact hc d h
    · rw [List.eq_of_mem_replicate h]; omega
  · exact hc
theorem small_step {N : Nat} {W : Ws} (h : Small N W) (c : Int) : Small (N + 1) (wsT W c) := by
  unfold wsT
  have hb := h.b; have hn := h.n; have ht := h.nt; have hl := h.len; have hlb := h.lenb
  split
  · exact ⟨by dsimp only; omega, by dsimp only; omega, by dsimp only; omega, by dsimp only; omega, fun c hc => by have := h.c c hc; omega, by dsimp only; omega⟩
  · have := bump_len W.cnt W.b hb.1
    exact ⟨by dsimp only; omega, by dsimp only; omega, by dsimp only; omega, by dsimp only; omega, bump_mem h.c, by dsimp only; omega⟩
theorem small_fold (l : List Int) : Small l.length (l.foldl wsT ws0) := by
  have key : ∀ (l : List Int) (N : Nat) (W : Ws), Small N W → Small (N + l.length) (l.foldl wsT W) := by
    intro l
    induction l with
    | nil => intro N W h; exact h
    | cons c r ih => intro N W h; have := ih (N + 1) _ (small_step h c); rw [List.foldl_cons, List.length_cons, show N + (r.length + 1) = N + 1 + r.length from by omega]; exact this
  have := key l 0 ws0 ⟨by decide, by decide, by decide, by decide, (fun c hc => by simp [ws0] at hc), by decide⟩
  rwa [Nat.zero_add] at this
theorem fr_canon {g h : Heap} {L : Addr} {m m' : Str → Option Value} (F : Fr g L h m) (e : ∀ y, m y = m' y) : Fr g L h m' := by
  rw [show m' = m from funext fun y => (e y).symm]; exact F
theorem canon_init {m m₀ : Str → Option Value} {v v1 v2 v3 v4 : Value} (h1 : m (Str.ofString "b") = some v1) (h2 : m (Str.ofString "n") = some v2) (h3 : m (Str.ofString "nt") = some v3) (h4 : m (Str.ofString "count") = some v4)
    (h5 : ∀ z, z ≠ Str.ofString "ch" → z ≠ Str.ofString "b" → z ≠ Str.ofString "n" → z ≠ Str.ofString "nt" → z ≠ Str.ofString "count" → m z = m₀ z) (y : Str) :
    (if y = Str.ofString "ch" then some v else m y) = (if y = Str.ofString "ch" then some v else if y = Str.ofString "b" then some v1 else if y = Str.ofString "n" then some v2 else if y = Str.ofString "nt" then some v3 else if y = Str.ofString "count" then some v4 else m₀ y) := by
  by_cases a : y = Str.ofString "ch"
  · rw [if_pos a, if_pos a]
  rw [if_neg a, if_neg a]
  by_cases b : y = Str.ofString "b"
  · rw [if_pos b, b, h1]
  rw [if_neg b]
  by_cases c : y = Str.ofString "n"
  · rw [if_pos c, c, h2]
  rw [if_neg c]
  by_cases d : y = Str.ofString "nt"
  · rw [if_pos d, d, h3]
  rw [if_neg d]
  by_cases e : y = Str.ofString "count"
  · rw [if_pos e, e, h4]
  rw [if_neg e]
  exact h5 y a b c d e
theorem ltN9 {a b : Nat} (h : @LT.lt Nat _ a b) : a < b := h
theorem init_loop {prog : Program} {w : World} {A : Around} {E : Value → Shared → Prop} {s : Shared} {env : Env} {h₀ : Heap} {body : List Stmt} {Q : Flow → Shared → Prop} {raw : Str} {tx : Tok} {m₀ : Str → Option Value} {l0 D x dx : Addr} {oD ox od : Obj} {t1 t2 t3 : Tok}
    (hh : A.handled = none) (F : Fr h₀ env.locals s.heap m₀) (N : News h₀ env.locals s.heap [(l0, PySem.W.listOf #[] 0), (D, oD), (x, ox), (dx, od)]) (h1 : @LT.lt Nat _ D l0) (h2 : @LT.lt Nat _ x l0) (h3 : @LT.lt Nat _ dx l0)
    (e1 : m₀ (Str.ofString "b") = some (.int 0 t1)) (e2 : m₀ (Str.ofString "n") = some (.int 0 t2)) (e3 : m₀ (Str.ofString "nt") = some (.int 0 t3)) (e4 : m₀ (Str.ofString "count") = some (.ref l0))
    (turn : ∀ (pre post : List Int) (n : Nat) (t : Tok) (I : Addr) (oI : Obj) (W : Ws) (vs : List Value) (k : Nat) (l : Addr) (tb tn tnt : Tok) (h : Heap) (tk : Nat),
      KStt.codes raw = pre ++ (n : Int) :: post → W = pre.foldl wsT ws0 → (∀ c ∈ pre, blank c = true) → IntsAre vs W.cnt → pre.length + (post.length + 1) = raw.length → vs.length = W.cnt.length → (0 ≤ W.b ∧ W.b ≤ pre.length) → W.cnt.length ≤ pre.length → (∀ c ∈ W.cnt, 0 ≤ c ∧ c ≤ pre.length) →
      (@LT.lt Nat _ D l ∧ @LT.lt Nat _ x l ∧ @LT.lt Nat _ dx l) → (@Ne Nat l I ∧ @Ne Nat D I ∧ @Ne Nat x I ∧ @Ne Nat dx I) →
      Fr h₀ env.locals h (fun y => if y = Str.ofString "ch" then some (.str ⟨#[n]⟩ t) else if y = Str.ofString "b" then some (.int W.b tb) else if y = Str.ofString "n" then some (.int W.n tn) else if y = Str.ofString "nt" then some (.int W.nt tnt) else if y = Str.ofString "count" then some (.ref l) else m₀ y) →
      News h₀ env.locals h [(I, oI), (l, PySem.W.listOf vs.toArray k), (D, oD), (x, ox), (dx, od)] →
      wpAny (model prog w) A (execs body env) (PostI h₀ env.locals (JInit m₀ [(D, oD), (x, ox), (dx, od)] (pre ++ [(n : Int)])) I oI { s with heap := h, toks := tk } Q) E { s with heap := h, toks := tk })
    (done : ∀ (W : Ws) (vs : List Value) (k : Nat) (l : Addr) (tb tn tnt : Tok) (u : Option Value) (h : Heap) (tk : Nat), W = (KStt.codes raw).foldl wsT ws0 → (∀ c ∈ KStt.codes raw, blank c = true) → IntsAre vs W.cnt → vs.length = W.cnt.length → W.cnt.length ≤ raw.length →
      (@LT.lt Nat _ D l ∧ @LT.lt Nat _ x l ∧ @LT.lt Nat _ dx l) →
      Fr h₀ env.locals h (fun y => if y = Str.ofString "ch" then u else if y = Str.ofString "b" then some (.int W.b tb) else if y = Str.ofString "n" then some (.int W.n tn) else if y = Str.ofString "nt" then some (.int W.nt tnt) else if y = Str.ofString "count" then some (.ref l) else m₀ y) →
      News h₀ env.locals h [(l, PySem.W.listOf vs.toArray k), (D, oD), (x, ox), (dx, od)] → Q .next { s with heap := h, toks := tk }) :
    wpAny (model prog w) A (pyIter (.str raw tx)) (fun it s₂ => LoopAtV prog w A h₀ env (Str.ofString "ch") body Q E it s₂) E s := by
  refine str_loop (JInit m₀ [(D, oD), (x, ox), (dx, od)]) hh F N ⟨ws0, [], 0, l0, t1, t2, t3, rfl, (fun _ hc => nomatch hc), .nil, rfl, ?_, e1, e2, e3, e4, fun _ _ _ _ _ _ => rfl⟩ ?_ ?_
  · intro p hp
    simp only [List.mem_cons, List.not_mem_nil, or_false] at hp
    rcases hp with rfl | rfl | rfl
    · exact h1
    · exact h2
    · exact h3
  · intro pre post n t m₁ news₁ h tk I oI he hJ hoff F N
    obtain ⟨W, vs, k, l, tb, tn, tnt, hW, hbl, hvs, hnx, hlt, e1, e2, e3, e4, e5⟩ := hJ
    subst hnx
    have sm := small_fold pre
    rw [← hW] at sm
    have hpl : pre.length + (post.length + 1) = raw.length := by
      rw [← KStt.codes_length raw, he, List.length_append, List.length_cons]
    exact turn pre post n t I oI W vs k l tb tn tnt h tk he hW hbl hvs hpl (IntsAre.length hvs) sm.b sm.len sm.c ⟨hlt _ (.head _), hlt _ (.tail _ (.head _)), hlt _ (.tail _ (.tail _ (.head _)))⟩
      ⟨hoff _ (.head _), hoff _ (.tail _ (.head _)), hoff _ (.tail _ (.tail _ (.head _))), hoff _ (.tail _ (.tail _ (.tail _ (.head _))))⟩ (fr_canon F (canon_init e1 e2 e3 e4 e5)) N
  · intro m₁ news₁ h tk hJ F N
    obtain ⟨W, vs, k, l, tb, tn, tnt, hW, hbl, hvs, hnx, hlt, e1, e2, e3, e4, e5⟩ := hJ
    subst hnx
    have sm := small_fold (KStt.codes raw)
    rw [← hW, KStt.codes_length] at sm
    refine done W vs k l tb tn tnt (m₁ (Str.ofString "ch")) h tk hW hbl hvs (IntsAre.length hvs) sm.len ⟨hlt _ (.head _), hlt _ (.tail _ (.head _)), hlt _ (.tail _ (.tail _ (.head _)))⟩ (fr_canon F fun y => ?_) N
    by_cases a : y = Str.ofString "ch"
    · rw [if_pos a, a]
    · have := canon_init (v := .none) e1 e2 e3 e4 e5 y
      rw [if_neg a, if_neg a] at this
      rw [if_neg a]
      exact this
theorem intsAre_set : ∀ {vs : List Value} {ns : List Int}, IntsAre vs ns → ∀ (i : Nat) (v : Int) (t : Tok), IntsAre (vs.set i (.int v t)) (ns.set i v)
  | _, _, .nil, _, _, _ => .nil
  | _, _, .cons _ _ h, 0, v, t => .cons v t h
  | _, _, .cons n u h, i + 1, v, t => .cons n u (intsAre_set h i v t)
theorem tab_ge {W : Ws} {ws : List Value} {t : Tok} (hge : W.b ≥ (W.cnt.length : Int)) (h : IntsAre ws (W.cnt ++ (List.replicate (W.b - W.cnt.length + 1).toNat [(0 : Int)]).flatten)) :
    IntsAre (ws.set W.b.toNat (.int ((W.cnt ++ (List.replicate (W.b - W.cnt.length + 1).toNat [(0 : Int)]).flatten).getD W.b.toNat 0 + 1) t)) (bump W.cnt W.b) := by
  rw [List.flatten_replicate_singleton] at h ⊢
  unfold bump
  rw [if_pos hge]
  exact intsAre_set h _ _ _
theorem tab_lt {W : Ws} {vs : List Value} {t : Tok} (hge : ¬ W.b ≥ (W.cnt.length : Int)) (h : IntsAre vs W.cnt) : IntsAre (vs.set W.b.toNat (.int (W.cnt.getD W.b.toNat 0 + 1) t)) (bump W.cnt W.b) := by
  unfold bump
  rw [if_neg hge]
  exact intsAre_set h _ _ _
theorem one_sp {n : Nat} : ({ cps := #[n] } == Str.ofString " ") = true ↔ (n : Int) = 32 := by
  rw [show Str.ofString " " = { cps := #[32] } from by decide +kernel, beq_iff_eq]
  constructor
  · intro h; injection h with h; injection h with h; injection h with h; omega
  · intro h; have : n = 32 := by omega
    subst this; rfl
theorem one_tb {n : Nat} : ({ cps := #[n] } == Str.ofString "\t") = true ↔ (n : Int) = 9 := by
  rw [show Str.ofString "\t" = { cps := #[9] } from by decide +kernel, beq_iff_eq]
  constructor
  · intro h; injection h with h; injection h with h; injection h with h; omega
  · intro h; have : n = 9 := by omega
    subst this; rfl
theorem w_space {W : Ws} {pre : List Int} {n : Nat} (h : ({ cps := #[n] } == Str.ofString " ") = true) (hW : W = pre.foldl wsT ws0) : ({ W with n := W.n + 1, b := W.b + 1 } : Ws) = (pre ++ [(n : Int)]).foldl wsT ws0 := by
  rw [List.foldl_append, ← hW]
  show _ = wsT W n
  unfold wsT
  rw [if_pos (one_sp.mp h)]
theorem w_tab {W : Ws} {pre : List Int} {n : Nat} (h : ({ cps := #[n] } == Str.ofString "\t") = true) (hW : W = pre.foldl wsT ws0) : ({ n := W.n + 1, nt := W.nt + 1, cnt := bump W.cnt W.b, b := 0 } : Ws) = (pre ++ [(n : Int)]).foldl wsT ws0 := by
  rw [List.foldl_append, ← hW]
  show _ = wsT W n
  unfold wsT
  rw [if_neg (by rw [one_tb.mp h]; decide)]
theorem bl_space {pre : List Int} {n : Nat} (h : ({ cps := #[n] } == Str.ofString " ") = true) (hb : ∀ c ∈ pre, blank c = true) : ∀ c ∈ pre ++ [(n : Int)], blank c = true := by
  intro c hc
  rcases List.mem_append.mp hc with q | q
  · exact hb c q
  · rw [List.mem_singleton.mp q, one_sp.mp h]; rfl
theorem bl_tab {pre : List Int} {n : Nat} (h : ({ cps := #[n] } == Str.ofString "\t") = true) (hb : ∀ c ∈ pre, blank c = true) : ∀ c ∈ pre ++ [(n : Int)], blank c = true := by
  intro c hc
  rcases List.mem_append.mp hc with q | q
  · exact hb c q
  · rw [List.mem_singleton.mp q, one_tb.mp h]; rfl
theorem ws_break {raw : Str} {W : Ws} {pre post : List Int} {n : Nat} (he : KStt.codes raw = pre ++ (n : Int) :: post) (h1 : ({ cps := #[n] } == Str.ofString " ") = false) (h2 : ({ cps := #[n] } == Str.ofString "\t") = false) (hW : W = pre.foldl wsT ws0) (hb : ∀ c ∈ pre, blank c = true) : wsOf raw = W := by
  unfold wsOf
  have hn : blank (n : Int) = false := by
    unfold blank
    have a : ¬ (n : Int) = 32 := fun q => by rw [one_sp.mpr q] at h1; cases h1
    have b : ¬ (n : Int) = 9 := fun q => by rw [one_tb.mpr q] at h2; cases h2
    simp [a, b]
  rw [he, List.takeWhile_append_of_pos hb, List.takeWhile_cons, hn, hW]
  simp
theorem ws_done {raw : Str} {W : Ws} (hW : W = (KStt.codes raw).foldl wsT ws0) (hb : ∀ c ∈ KStt.codes raw, blank c = true) : wsOf raw = W := by
  unfold wsOf
  rw [hW]
  congr 1
  have := List.takeWhile_append_of_pos (l₂ := []) hb
  simpa using this
theorem init_end {h₀ : Heap} {L I D x dx l : Addr} {oI oD ox od : Obj} {m₀ m' : Str → Option Value} {news' : List (Addr × Obj)} {pre : List Int} {n : Int} {s₁ : Shared} {Q : Flow → Shared → Prop} {h' : Heap} {tk : Nat} {W : Ws} {vs : List Value} {k : Nat} {tb tn tnt : Tok}
    (F : Fr h₀ L h' m') (N : News h₀ L h' news') (e4 : m' (Str.ofString "count") = some (.ref l)) (hl : (l, PySem.W.listOf vs.toArray k) ∈ news') (hD : (D, oD) ∈ news') (hx : (x, ox) ∈ news') (hd : (dx, od) ∈ news') (hI : (I, oI) ∈ news')
    (nI : @Ne Nat l I ∧ @Ne Nat D I ∧ @Ne Nat x I ∧ @Ne Nat dx I) (lt : @LT.lt Nat _ D l ∧ @LT.lt Nat _ x l ∧ @LT.lt Nat _ dx l)
    (hW : W = (pre ++ [n]).foldl wsT ws0) (hb : ∀ c ∈ pre ++ [n], blank c = true) (hvs : IntsAre vs W.cnt)
    (e1 : m' (Str.ofString "b") = some (.int W.b tb)) (e2 : m' (Str.ofString "n") = some (.int W.n tn)) (e3 : m' (Str.ofString "nt") = some (.int W.nt tnt))
    (e5 : ∀ z, z ≠ Str.ofString "ch" → z ≠ Str.ofString "b" → z ≠ Str.ofString "n" → z ≠ Str.ofString "nt" → z ≠ Str.ofString "count" → m' z = m₀ z) :
    PostI h₀ L (JInit m₀ [(D, oD), (x, ox), (dx, od)] (pre ++ [n])) I oI s₁ Q .next { s₁ with heap := h', toks := tk } := by
  refine ⟨h', tk, m', news', (l, PySem.W.listOf vs.toArray k) :: [(D, oD), (x, ox), (dx, od)], rfl, F, N, ?_, hI, ?_, W, vs, k, l, tb, tn, tnt, hW, hb, hvs, rfl, ?_, e1, e2, e3, e4, e5⟩
  · intro p hp
    simp only [List.mem_cons, List.not_mem_nil, or_false] at hp
    rcases hp with rfl | rfl | rfl | rfl <;> assumption
  · intro p hp
    simp only [List.mem_cons, List.not_mem_nil, or_false] at hp
    rcases hp with rfl | rfl | rfl | rfl
    · exact nI.1
    · exact nI.2.1
    · exact nI.2.2.1
    · exact nI.2.2.2
  · intro p hp
    simp only [List.mem_cons, List.not_mem_nil, or_false] at hp
    rcases hp with rfl | rfl | rfl
    · exact lt.1
    · exact lt.2.1
    · exact lt.2.2
/-- a Whitespace object, its four objects in a list -/
def WsR (l : List (Addr × Obj)) (x : Addr) (W : Ws) : Prop :=
  ∃ raw dx tn tc vs h1 h2 h3 h4 h5 k1 k2 k3 k4 k5 t1 t2 t3 t4 e, (x, instObj 118 dx) ∈ l ∧ (dx, dictOf (wsDict raw W tn h1 h2 h3 h4 h5 k1 k2 k3 k4 k5 t1 t2 t3) e) ∈ l ∧ (tn, ({ cls := .type "tuple", data := .seq #[.ref tc, .int W.b t4] } : Obj)) ∈ l ∧ (tc, ({ cls := .type "tuple", data := .seq (List.toArray vs) } : Obj)) ∈ l ∧ IntsAre vs W.cnt ∧ W.cnt.length < 1000 ∧ (∀ c ∈ W.cnt, 0 ≤ c ∧ c < 1000) ∧ (0 ≤ W.b ∧ W.b < 1000 ∧ 0 ≤ W.n ∧ W.n < 1000 ∧ 0 ≤ W.nt ∧ W.nt < 1000)
theorem WsR.mono {l l' : List (Addr × Obj)} {x : Addr} {W : Ws} (R : WsR l x W) (k : ∀ q ∈ l, q ∈ l') : WsR l' x W := by
  obtain ⟨raw, dx, tn, tc, vs, h1, h2, h3, h4, h5, k1, k2, k3, k4, k5, t1, t2, t3, t4, e, m1, m2, m3, m4, r⟩ := R
  exact ⟨raw, dx, tn, tc, vs, h1, h2, h3, h4, h5, k1, k2, k3, k4, k5, t1, t2, t3, t4, e, k _ m1, k _ m2, k _ m3, k _ m4, r⟩
theorem WsR.at {l : List (Addr × Obj)} {x : Addr} {W : Ws} {h : Heap} (R : WsR l x W) (k : ∀ q ∈ l, h.get? q.1 = some q.2) : WsAt h x W := by
  obtain ⟨raw, dx, tn, tc, vs, h1, h2, h3, h4, h5, k1, k2, k3, k4, k5, t1, t2, t3, t4, e, m1, m2, m3, m4, r⟩ := R
  exact ⟨raw, dx, tn, tc, vs, h1, h2, h3, h4, h5, k1, k2, k3, k4, k5, t1, t2, t3, t4, e, ⟨k _ m1, rfl, rfl, k _ m2⟩, ⟨_, k _ m3, rfl, _, rfl⟩, ⟨_, k _ m4, rfl, _, rfl⟩, r⟩
def isInit (x : Addr) (raw : Str) (g _ h' : Heap) (v : Value) : Prop := v = .none ∧ ∃ fresh, WsR fresh x (wsOf raw) ∧ ∀ q ∈ fresh, h'.get? q.1 = some q.2 ∧ g.get? q.1 = none
theorem init_fin {g h' : Heap} {L x dx tn tc : Addr} {m : Str → Option Value} {news : List (Addr × Obj)} {raw : Str} {W : Ws} {vs : List Value} {h1 h2 h3 h4 h5 : Int} {k1 k2 k3 k4 k5 t1 t2 t3 t4 : Tok} {e : Nat} (hw : wsOf raw = W) (_F : Fr g L h' m) (N : News g L h' news) (hx : (x, instObj 118 dx) ∈ news)
    (hd : (dx, dictOf (wsDict raw W tn h1 h2 h3 h4 h5 k1 k2 k3 k4 k5 t1 t2 t3) e) ∈ news) (ht : (tn, ({ cls := .type "tuple", data := .seq #[.ref tc, .int W.b t4] } : Obj)) ∈ news) (hc : (tc, ({ cls := .type "tuple", data := .seq vs.toArray } : Obj)) ∈ news)
    (hvs : IntsAre vs W.cnt) (hraw : raw.length < 900) : ∃ fresh, WsR fresh x (wsOf raw) ∧ ∀ q ∈ fresh, h'.get? q.1 = some q.2 ∧ g.get? q.1 = none := by
  have sm := small_fold ((KStt.codes raw).takeWhile blank)
  have hle : ((KStt.codes raw).takeWhile blank).length ≤ raw.length := by
    rw [← KStt.codes_length raw]
    exact (List.takeWhile_sublist _).length_le
  have sm' : Small ((KStt.codes raw).takeWhile blank).length W := by rw [← hw]; exact sm
  rw [hw]
  have b1 := sm'.b; have b2 := sm'.n; have b3 := sm'.nt; have b4 := sm'.len
  exact ⟨news, ⟨raw, dx, tn, tc, vs, h1, h2, h3, h4, h5, k1, k2, k3, k4, k5, t1, t2, t3, t4, e, hx, hd, ht, hc, hvs, by omega, fun c hc => by have := sm'.c c hc; omega, by omega⟩, fun q hq => ⟨(N q hq).1, (N q hq).2.2⟩⟩
theorem t_init (w : World) (x dx : Addr) (raw : Str) (tk : Tok) (hraw : raw.length < 900) : Ct w 73 [.ref x, .str raw tk] 1 8 (fun g h => Bare g h x dx) (isInit x raw) := by
  unfold Ct
  k_fill
  intro p loose mean mg mb dp un gd outer A₀ base g s R B X T kp sz hp hd hu ret
  k_dflt (refine' enterN (news := [(x, instObj 118 dx), (dx, dictOf [] 0)]) ?k1 ?k2 ?k3 ?k4 ?k5 ?k6 ?k7 ?k8 ?k9 ?kB ?c5 ?c2 ?c3 ?c4 ?kR; (case k1 => assumption); (case k2 => assumption); (case k3 => assumption); (case k4 => assumption); (case k5 => exact List.forall_mem_cons.mpr ⟨⟨hp.1, hp.2.2.1⟩, List.forall_mem_cons.mpr ⟨⟨hp.2.1, hp.2.2.2.1⟩, List.forall_mem_nil _⟩⟩); (case k6 => k_is); (case k7 => k_is); (case k8 => omega); (case k9 => exact BindsTo.of_eq rfl); (case kB => exact locs rfl); (case c5 => decide); (case c2 => exact rfl); (case c3 => exact rfl); (case c4 => exact rfl))
  k_whole
  intro L' h₁ F' hL hk₁ N' lN'
  dsimp only
  k_fold
  (try k_lt lN')
  k_with_none
  have hxd := ltN hp.2.2.2.2
  (k_with "pyIter str" =>
    k_dflt (refine' init_loop rfl ?F ?N ?h1 ?h2 ?h3 ?e1 ?e2 ?e3 ?e4 ?_ ?_; (case F => k_asm); (case N => k_asm); (case h1 => omega); (case h2 => omega); (case h3 => omega); (case e1 => exact rfl); (case e2 => exact rfl); (case e3 => exact rfl); (case e4 => exact rfl))
  )
  (k_with "exec Break" => (refine wpAny_Break ?_; dsimp only; (try dsimp only [PostI])))
  (k_with "call type:tuple" => (k_dflt (refine' kde_tupleOf ?k1 ?k2 ?k3 ?k4 ?k5 ?_; (case k1 => k_asm); (case k2 => k_asm); (case k3 => exact News.isList (by k_asm) (by k_mem)); (case k4 => (rw [List.size_toArray]; omega)); (case k5 => exact List.toList_toArray)); intro D' h' F' N' l1; (try k_lt l1); (try k_sweep)))
  k_steps
  all_goals (try k_data)
  all_goals (first
    | (refine' init_end ?F ?N ?e4 ?hl ?hD ?hx ?hd ?hI ?nI ?lt (w_space (by assumption) (by assumption)) (bl_space (by assumption) (by assumption)) ?hv ?e1 ?e2 ?e3 ?e5; (case F => k_asm); (case N => k_asm); (case e4 => exact rfl); (case hl => k_mem); (case hD => k_mem); (case hx => k_mem); (case hd => k_mem); (case hI => k_mem); (case nI => exact ⟨by omega, by omega, by omega, by omega⟩); (case lt => exact ⟨by omega, by omega, by omega⟩); (case e1 => exact rfl); (case e2 => exact rfl); (case e3 => exact rfl); (case e5 => (intro z a1 a2 a3 a4 a5; simp only [if_neg a1, if_neg a2, if_neg a3, if_neg a4, if_neg a5])); (case hv => assumption))
    | (refine' init_end ?F ?N ?e4 ?hl ?hD ?hx ?hd ?hI ?nI ?lt (w_tab (by assumption) (by assumption)) (bl_tab (by assumption) (by assumption)) ?hv ?e1 ?e2 ?e3 ?e5; (case F => k_asm); (case N => k_asm); (case e4 => exact rfl); (case hl => k_mem); (case hD => k_mem); (case hx => k_mem); (case hd => k_mem); (case hI => k_mem); (case nI => exact ⟨by omega, by omega, by omega, by omega⟩); (case lt => exact ⟨by omega, by omega, by omega⟩); (case e1 => exact rfl); (case e2 => exact rfl); (case e3 => exact rfl); (case e5 => (intro z a1 a2 a3 a4 a5; simp only [if_neg a1, if_neg a2, if_neg a3, if_neg a4, if_neg a5])); (case hv => first | exact tab_ge (by omega) (by assumption) | exact tab_lt (by omega) (by assumption)))
    | (k_dflt (refine' back (s := s) ret ?F hL (And.intro rfl (init_fin ?hw ?F2 ?N ?hx ?hd ?ht ?hc ?hvs hraw)); (case F => k_asm); (case F2 => k_asm); (case N => k_asm); (case hx => k_mem); (case hd => k_mem); (case ht => k_mem); (case hc => k_mem); (case hvs => assumption); (case hw => first | exact ws_break (by assumption) (by assumption) (by assumption) (by assumption) (by assumption) | exact ws_done (by assumption) (by assumption)))))
end
section
theorem flush_Cf : (1 : Nat) = 1 := by
  w_top off
  k_with_none
  first | walk1 | rfl
theorem wsAt_keep {h h' : Heap} {x : Addr} {W : Ws} (q : WsAt h x W) (k : ∀ b o, h.get? b = some o → h'.get? b = some o) : WsAt h' x W := by
  obtain ⟨raw, dx, tn, tc, vs, q1, q2, q3, q4, q5, k1, k2, k3, k4, k5, t1, t2, t3, t4, e, hI, hN, hC, hc, hlen, hcb, hW⟩ := q
  exact ⟨raw, dx, tn, tc, vs, q1, q2, q3, q4, q5, k1, k2, k3, k4, k5, t1, t2, t3, t4, e, InstAt.kept hI k, IsTup.keeps hN k, IsTup.keeps hC k, hc, hlen, hcb, hW⟩
theorem wsAt_inst {h : Heap} {x : Addr} {W : Ws} (q : WsAt h x W) : ∃ raw dx tn h1 h2 h3 h4 h5 k1 k2 k3 k4 k5 t1 t2 t3 e, PySem.W.InstAt h x (instObj 118 dx) 118 (some (dictOf (wsDict raw W tn h1 h2 h3 h4 h5 k1 k2 k3 k4 k5 t1 t2 t3) e)) := by
  obtain ⟨raw, dx, tn, tc, vs, q1, q2, q3, q4, q5, k1, k2, k3, k4, k5, t1, t2, t3, t4, e, hI, hN, hC, hc, hlen, hcb, hW⟩ := q
  exact ⟨_, _, _, _, _, _, _, _, _, _, _, _, _, _, _, _, _, hI⟩
theorem wsAt_len {h : Heap} {x : Addr} {W : Ws} (q : WsAt h x W) : W.cnt.length < 1000 ∧ 0 ≤ W.b ∧ W.b < 1000 ∧ 0 ≤ W.n ∧ W.n < 1000 ∧ 0 ≤ W.nt ∧ W.nt < 1000 := by
  obtain ⟨raw, dx, tn, tc, vs, q1, q2, q3, q4, q5, k1, k2, k3, k4, k5, t1, t2, t3, t4, e, hI, hN, hC, hc, hlen, hcb, hW⟩ := q
  exact ⟨hlen, hW⟩
def longS (W : Ws) : Int := max ((W.cnt.length : Int) - 1) W.b
theorem t_longL (w : World) (x : Addr) (W : Ws) : Ct w 80 [.ref x] 1 8 (fun g _ => WsAt g x W) (isInt (longS W)) := t_longest w x W
theorem long_ok {W : Ws} (p : W.cnt.length < 1000 ∧ 0 ≤ W.b ∧ W.b < 1000 ∧ 0 ≤ W.n ∧ W.n < 1000 ∧ 0 ≤ W.nt ∧ W.nt < 1000) : 0 ≤ longS W ∧ longS W ≤ 999 := by
  unfold longS
  obtain ⟨a, b, c, _⟩ := p
  omega
/-- a list of triples of ints -/
inductive Trip (h : Heap) : List Value → List (Int × Int × Int) → Prop where
  | nil : Trip h [] []
  | cons {a : Addr} {i j k : Int} {ti tj tk : Tok} {vs : List Value} {l : List (Int × Int × Int)} : IsTup h a #[.int i ti, .int j tj, .int k tk] → Trip h vs l → Trip h (.ref a :: vs) ((i, j, k) :: l)
inductive TripL (tl : List (Addr × Obj)) : List Value → List (Int × Int × Int) → Prop where
  | nil : TripL tl [] []
  | cons {a : Addr} {i j k : Int} {ti tj tk : Tok} {vs : List Value} {l : List (Int × Int × Int)} : (a, ({ cls := .type "tuple", data := .seq #[.int i ti, .int j tj, .int k tk] } : Obj)) ∈ tl → TripL tl vs l → TripL tl (.ref a :: vs) ((i, j, k) :: l)
theorem TripL.mono {tl tl' : List (Addr × Obj)} {vs : List Value} {l : List (Int × Int × Int)} (h : TripL tl vs l) (k : ∀ p ∈ tl, p ∈ tl') : TripL tl' vs l := by
  induction h with
  | nil => exact .nil
  | cons hm _ ih => exact .cons (k _ hm) ih
theorem TripL.snoc {tl : List (Addr × Obj)} {vs : List Value} {l : List (Int × Int × Int)} {a : Addr} {i j k : Int} {ti tj tk : Tok} (h : TripL tl vs l) (hm : (a, ({ cls := .type "tuple", data := .seq #[.int i ti, .int j tj, .int k tk] } : Obj)) ∈ tl) : TripL tl (vs ++ [.ref a]) (l ++ [(i, j, k)]) := by
  induction h with
  | nil => exact .cons hm .nil
  | cons hm' _ ih => exact .cons hm' ih
theorem TripL.trip {g h : Heap} {L : Addr} {news tl : List (Addr × Obj)} {vs : List Value} {l : List (Int × Int × Int)} (q : TripL tl vs l) (N : News g L h news) (k : ∀ p ∈ tl, p ∈ news) : Trip h vs l := by
  induction q with
  | nil => exact .nil
  | cons hm _ ih => exact .cons ⟨_, (N _ (k _ hm)).1, rfl, _, rfl⟩ ih
def isTrips (l : List (Int × Int × Int)) (g _ h' : Heap) (v : Value) : Prop := ∃ a vs n, v = .ref a ∧ g.get? a = none ∧ h'.get? a = some (PySem.W.listOf (List.toArray vs) n) ∧ Trip h' vs l
def witS (P : Int → Int → Bool) (W V : Ws) (n : Nat) : List (Int × Int × Int) := ((rangeKs 1 n).filter fun t => P (indentS W t) (indentS V t)).map fun t => (t, indentS W t, indentS V t)
theorem rangeKs_succ (a : Int) (n : Nat) : rangeKs a (n + 1) = rangeKs a n ++ [a + n] := by simp [rangeKs, List.range_succ]
theorem witS_succ (P : Int → Int → Bool) (W V : Ws) (n : Nat) : witS P W V (n + 1) = witS P W V n ++ (if P (indentS W (1 + n)) (indentS V (1 + n)) = true then [((1 + n : Int), indentS W (1 + n), indentS V (1 + n))] else []) := by
  unfold witS
  rw [rangeKs_succ, List.filter_append, List.map_append]
  congr 1
  by_cases h : P (indentS W (1 + n)) (indentS V (1 + n)) = true
  · rw [if_pos h, List.filter_cons, if_pos h]; rfl
  · rw [if_neg h, List.filter_cons, if_neg h]; rfl
def JWit (P : Int → Int → Bool) (W V : Ws) (m₀ : Str → Option Value) (l : Addr) (i : Nat) (m : Str → Option Value) (news : List (Addr × Obj)) : Prop :=
  ∃ vs k tl, news = (l, PySem.W.listOf (List.toArray vs) k) :: tl ∧ TripL tl vs (witS P W V i) ∧ (∀ p ∈ tl, l < p.1) ∧ vs.length ≤ i ∧ ∀ z, z ≠ Str.ofString "ts" → m z = m₀ z
section
variable {prog : Program} {w : World} {A : Around} {E : Value → Shared → Prop} {s : Shared} {env : Env} {h₀ : Heap} {body : List Stmt} {Q : Flow → Shared → Prop}
theorem wit_loop (P : Int → Int → Bool) (W V : Ws) {r l : Addr} {b₀ : Int} {t₀ u₀ v₀ : Tok} {n : Nat} {m₀ : Str → Option Value}
    (hh : A.handled = none) (hr : IsRange s.heap r 1 b₀ 1 t₀ u₀ v₀) (hsmall : Builtin.Range.small 1 b₀ 1 = true) (hn : Builtin.Range.rangeSize 1 b₀ 1 = (n : Int)) (F : Fr h₀ env.locals s.heap m₀) (N : News h₀ env.locals s.heap [(l, PySem.W.listOf #[] 0)])
    (turn : ∀ (i : Nat) (k : Int) t I oI (vs : List Value) kk tl h tk, i < n → k = 1 + i → TripL tl vs (witS P W V i) → vs.length ≤ i → (∀ p ∈ tl, l < p.1) → (∀ p ∈ tl, p.1 ≠ l) → (∀ p ∈ tl, p.1 ≠ I) → @Ne Nat l I →
      Fr h₀ env.locals h (fun y => if y = Str.ofString "ts" then some (.int k t) else m₀ y) → News h₀ env.locals h ((I, oI) :: (l, PySem.W.listOf vs.toArray kk) :: tl) →
      wpAny (model prog w) A (execs body env) (PostI h₀ env.locals (JWit P W V m₀ l (i + 1)) I oI { s with heap := h, toks := tk } Q) E { s with heap := h, toks := tk })
    (done : ∀ (vs : List Value) kk tl (u : Option Value) h tk, TripL tl vs (witS P W V n) → Fr h₀ env.locals h (fun y => if y = Str.ofString "ts" then u else m₀ y) → News h₀ env.locals h ((l, PySem.W.listOf vs.toArray kk) :: tl) → Q .next { s with heap := h, toks := tk }) :
    wpAny (model prog w) A (pyIter (.ref r)) (fun it s₂ => LoopAtV prog w A h₀ env (Str.ofString "ts") body Q E it s₂) E s := by
  refine range_loop (JWit P W V m₀ l) hh hr hsmall hn F N ⟨[], 0, [], rfl, .nil, (fun _ hp => nomatch hp), Nat.le_refl _, fun _ _ => rfl⟩ ?_ ?_
  · rintro i k t m₁ news₁ h tk I oI hi hk ⟨vs, kk, tl, rfl, ht, hlt, hv, hm⟩ off F₁ N₁
    refine turn i k t I oI vs kk tl h tk hi hk ht hv hlt (fun p hp => Nat.ne_of_gt (hlt p hp)) (fun p hp => off p (.tail _ hp)) (off _ (.head _)) (fr_canon F₁ fun y => ?_) N₁
    by_cases a : y = Str.ofString "ts"
    · rw [if_pos a, if_pos a]
    · rw [if_neg a, if_neg a, hm y a]
  · rintro m₁ news₁ h tk ⟨vs, kk, tl, rfl, ht, hlt, hv, hm⟩ F₁ N₁
    refine done vs kk tl (m₁ (Str.ofString "ts")) h tk ht (fr_canon F₁ fun y => ?_) N₁
    by_cases a : y = Str.ofString "ts"
    · rw [if_pos a, a]
    · rw [if_neg a, hm y a]
end
theorem wit_no {P : Int → Int → Bool} {W V : Ws} {h₀ : Heap} {L I l : Addr} {oI : Obj} {m₀ m' : Str → Option Value} {news' tl : List (Addr × Obj)} {i : Nat} {k : Int} {vs : List Value} {kk : Nat} {s₁ : Shared} {Q : Flow → Shared → Prop} {h' : Heap} {tk : Nat}
    (F : Fr h₀ L h' m') (N : News h₀ L h' news') (hk : k = 1 + i) (hP : P (indentS W k) (indentS V k) = false) (ht : TripL tl vs (witS P W V i)) (hv : vs.length ≤ i) (hlt : ∀ p ∈ tl, l < p.1) (hI : (I, oI) ∈ news') (hl : (l, PySem.W.listOf vs.toArray kk) ∈ news') (hs : ∀ p ∈ tl, p ∈ news') (n1 : @Ne Nat l I) (n2 : ∀ p ∈ tl, p.1 ≠ I)
    (e5 : ∀ z, z ≠ Str.ofString "ts" → m' z = m₀ z) : PostI h₀ L (JWit P W V m₀ l (i + 1)) I oI s₁ Q .next { s₁ with heap := h', toks := tk } := by
  refine ⟨h', tk, m', news', (l, PySem.W.listOf vs.toArray kk) :: tl, rfl, F, N, List.forall_mem_cons.mpr ⟨hl, hs⟩, hI, List.forall_mem_cons.mpr ⟨n1, n2⟩, vs, kk, tl, rfl, ?_, hlt, by omega, e5⟩
  subst hk
  rw [witS_succ, hP]
  simpa using ht
theorem wit_yes {P : Int → Int → Bool} {W V : Ws} {h₀ : Heap} {L I l D : Addr} {oI : Obj} {m₀ m' : Str → Option Value} {news' tl : List (Addr × Obj)} {i : Nat} {k : Int} {vs : List Value} {kk : Nat} {t1 t2 t3 : Tok} {s₁ : Shared} {Q : Flow → Shared → Prop} {h' : Heap} {tk : Nat}
    (F : Fr h₀ L h' m') (N : News h₀ L h' news') (hk : k = 1 + i) (hP : P (indentS W k) (indentS V k) = true) (ht : TripL tl vs (witS P W V i)) (hv : vs.length ≤ i) (hlt : ∀ p ∈ tl, l < p.1) (hI : (I, oI) ∈ news') (hl : (l, PySem.W.listOf (vs.toArray.push (.ref D)) kk) ∈ news') (hs : ∀ p ∈ tl, p ∈ news')
    (hD : (D, ({ cls := .type "tuple", data := .seq #[.int k t1, .int (indentS W k) t2, .int (indentS V k) t3] } : Obj)) ∈ news') (hDl : @LT.lt Nat _ l D) (hDI : @Ne Nat D I) (n1 : @Ne Nat l I) (n2 : ∀ p ∈ tl, p.1 ≠ I)
    (e5 : ∀ z, z ≠ Str.ofString "ts" → m' z = m₀ z) : PostI h₀ L (JWit P W V m₀ l (i + 1)) I oI s₁ Q .next { s₁ with heap := h', toks := tk } := by
  refine ⟨h', tk, m', news', (l, PySem.W.listOf (vs ++ [Value.ref D]).toArray kk) :: (D, { cls := .type "tuple", data := .seq #[.int k t1, .int (indentS W k) t2, .int (indentS V k) t3] }) :: tl, rfl, F, N, List.forall_mem_cons.mpr ⟨by rw [List.push_toArray] at hl; exact hl, List.forall_mem_cons.mpr ⟨hD, hs⟩⟩, hI, List.forall_mem_cons.mpr ⟨n1, List.forall_mem_cons.mpr ⟨hDI, n2⟩⟩, vs ++ [Value.ref D], kk, (D, { cls := .type "tuple", data := .seq #[.int k t1, .int (indentS W k) t2, .int (indentS V k) t3] }) :: tl, rfl, ?_, List.forall_mem_cons.mpr ⟨hDl, hlt⟩, by rw [List.length_append, List.length_singleton]; omega, e5⟩
  subst hk
  rw [witS_succ, if_pos hP]
  exact TripL.snoc (ht.mono fun p hp => .tail _ hp) (.head _)
theorem trips_back {g h h' : Heap} {L l : Addr} {m : Str → Option Value} {vs : List Value} {kk : Nat} {tl : List (Addr × Obj)} {t : List (Int × Int × Int)} (ht : TripL tl vs t) (_F : Fr g L h' m) (N : News g L h' ((l, PySem.W.listOf vs.toArray kk) :: tl)) : isTrips t g h h' (.ref l) :=
  ⟨l, vs, kk, rfl, (N _ (.head _)).2.2, (N _ (.head _)).1, ht.trip N fun p hp => .tail _ hp⟩
def mostS (W V : Ws) : Int := max (longS W) (longS V) + 1
local macro_rules | `(tactic| k_all) => `(tactic| with_reducible assumption)
theorem most_le {W V : Ws} (p : 0 ≤ longS W ∧ longS W ≤ 999) (q : 0 ≤ longS V ∧ longS V ≤ 999) : (mostS W V).toNat ≤ 1000 := by
  unfold mostS
  omega
theorem mx1 {a b : Int} (h : ¬ (b > a)) : (a + 1 + 1 - 2).toNat = (max a b + 1 - 1).toNat := by omega
theorem mx2 {a b : Int} (h : b > a) : (b + 1 + 1 - 2).toNat = (max a b + 1 - 1).toNat := by omega
theorem t_notEq (w : World) (x y : Addr) (W V : Ws) : Ct w 101 [.ref x, .ref y] 3 40 (fun g _ => WsAt g x W ∧ WsAt g y V) (isTrips (witS (fun a b => decide (a ≠ b)) W V (mostS W V).toNat)) := by
  unfold Ct
  k_fill
  intro p loose mean mg mb dp un gd outer A₀ base g s R B X T kp sz hp hd hu ret
  k_dflt (refine' enterC ?k1 ?k2 ?k3 ?k4 ?k6 ?k7 ?k8 ?k9 ?kB ?c5 ?c2 ?c3 ?c4 ?kR; (case k1 => assumption); (case k2 => assumption); (case k3 => assumption); (case k4 => assumption); (case k6 => k_is); (case k7 => k_is); (case k8 => omega); (case k9 => exact BindsTo.of_eq rfl); (case kB => exact locs rfl); (case c5 => decide); (case c2 => exact rfl); (case c3 => exact rfl); (case c4 => exact rfl))
  k_whole
  intro L' h₁ F' hL hk₁
  dsimp only
  k_fold
  have N' : PyProof.Rows.News g L' h₁ [] := PyProof.Rows.News.nil
  k_with_none
  obtain ⟨hx, hy⟩ := hp
  have lx := long_ok (wsAt_len hx)
  have ly := long_ok (wsAt_len hy)
  obtain ⟨raw, dx, tn, h1, h2, h3, h4, h5, k1, k2, k3, k4, k5, t1, t2, t3, e, hIx⟩ := wsAt_inst hx
  obtain ⟨raw', dx', tn', h1', h2', h3', h4', h5', k1', k2', k3', k4', k5', t1', t2', t3', e', hIy⟩ := wsAt_inst hy
  have hm : (mostS W V).toNat ≤ 1000 := most_le lx ly
  (k_with "pyIter ref" => ((with_reducible rename IsRange _ _ _ _ _ _ _ _ => rgX); k_dflt (refine' wit_loop (fun a b => decide (a ≠ b)) W V (n := (mostS W V).toNat) rfl rgX ?hs ?hn ?F ?N ?_ ?_; (case F => k_asm); (case N => exact List.forall_mem_cons.mpr ⟨(by k_asm : PyProof.Rows.News _ _ _ _) _ (by k_mem), List.forall_mem_nil _⟩); (case hs => exact small_one (by omega) (by omega) (by omega) (by omega)); (case hn => (rw [rangeSize_one]; unfold mostS; split <;> omega)))))
  (k_with "call ref" => (k_here; k_dflt (first | (refine' useC (t_longL _ _ _) ?B ?F ?X ?N ?T ?hA ?hf ?hke ?hp ?hd ?hu ?_) | (refine' useC (t_indent _ _ _ _ _ ?ts) ?B ?F ?X ?N ?T ?hA ?hf ?hke ?hp ?hd ?hu ?_; (case ts => omega))); (case B => assumption); (case F => k_asm); (case X => assumption); (case N => k_asm); (case T => assumption); (case hA => exact rfl); (case hf => exact rfl); (case hke => exact rfl); (case hp => first | exact trivial | exact wsAt_keep (by assumption) (Fr.keep (by k_asm))); (case hd => ((try dsimp only [arC]); omega)); (case hu => (have hcL9 := cLine_is; (try dsimp only [arC]); omega)); intro v' h' tk' F' N' kp' sz' q'; obtain ⟨t', q'⟩ := q'; subst q'; (try k_sweep); clear kp' sz'))
  k_steps
  all_goals (try k_data)
  all_goals (first
    | (k_dflt (refine' wit_yes ?F ?N ?hk ?hP ?ht ?hv ?hlt ?hI ?hl ?hs ?hD ?hDl ?hDI ?n1 ?n2 ?e5; (case F => k_asm); (case N => k_asm); (case hk => assumption); (case hP => exact decide_eq_true (by omega)); (case ht => assumption); (case hv => assumption); (case hlt => assumption); (case hI => k_mem); (case hl => k_mem); (case hs => exact fun _ hp => List.mem_cons_of_mem _ (List.mem_cons_of_mem _ (List.mem_cons_of_mem _ hp))); (case hD => k_mem); (case hDl => omega); (case hDI => omega); (case n1 => omega); (case n2 => assumption); (case e5 => (intro z a1; simp only [if_neg a1]))))
    | (k_dflt (refine' wit_no ?F ?N ?hk ?hP ?ht ?hv ?hlt ?hI ?hl ?hs ?n1 ?n2 ?e5; (case F => k_asm); (case N => k_asm); (case hk => assumption); (case hP => exact decide_eq_false (by omega)); (case ht => assumption); (case hv => assumption); (case hlt => assumption); (case hI => k_mem); (case hl => k_mem); (case hs => exact fun _ hp => List.mem_cons_of_mem _ (List.mem_cons_of_mem _ hp)); (case n1 => omega); (case n2 => assumption); (case e5 => (intro z a1; simp only [if_neg a1]))))
    | exact back (s := s) ret (by assumption) hL (trips_back (by assumption) (by assumption) (by assumption)))
theorem t_notLess (w : World) (x y : Addr) (W V : Ws) : Ct w 115 [.ref x, .ref y] 3 40 (fun g _ => WsAt g x W ∧ WsAt g y V) (isTrips (witS (fun a b => decide (a ≥ b)) W V (mostS W V).toNat)) := by
  unfold Ct
  k_fill
  intro p loose mean mg mb dp un gd outer A₀ base g s R B X T kp sz hp hd hu ret
  k_dflt (refine' enterC ?k1 ?k2 ?k3 ?k4 ?k6 ?k7 ?k8 ?k9 ?kB ?c5 ?c2 ?c3 ?c4 ?kR; (case k1 => assumption); (case k2 => assumption); (case k3 => assumption); (case k4 => assumption); (case k6 => k_is); (case k7 => k_is); (case k8 => omega); (case k9 => exact BindsTo.of_eq rfl); (case kB => exact locs rfl); (case c5 => decide); (case c2 => exact rfl); (case c3 => exact rfl); (case c4 => exact rfl))
  k_whole
  intro L' h₁ F' hL hk₁
  dsimp only
  k_fold
  have N' : PyProof.Rows.News g L' h₁ [] := PyProof.Rows.News.nil
  k_with_none
  obtain ⟨hx, hy⟩ := hp
  have lx := long_ok (wsAt_len hx)
  have ly := long_ok (wsAt_len hy)
  obtain ⟨raw, dx, tn, h1, h2, h3, h4, h5, k1, k2, k3, k4, k5, t1, t2, t3, e, hIx⟩ := wsAt_inst hx
  obtain ⟨raw', dx', tn', h1', h2', h3', h4', h5', k1', k2', k3', k4', k5', t1', t2', t3', e', hIy⟩ := wsAt_inst hy
  have hm : (mostS W V).toNat ≤ 1000 := most_le lx ly
  (k_with "pyIter ref" => ((with_reducible rename IsRange _ _ _ _ _ _ _ _ => rgX); k_dflt (refine' wit_loop (fun a b => decide (a ≥ b)) W V (n := (mostS W V).toNat) rfl rgX ?hs ?hn ?F ?N ?_ ?_; (case F => k_asm); (case N => exact List.forall_mem_cons.mpr ⟨(by k_asm : PyProof.Rows.News _ _ _ _) _ (by k_mem), List.forall_mem_nil _⟩); (case hs => exact small_one (by omega) (by omega) (by omega) (by omega)); (case hn => (rw [rangeSize_one]; unfold mostS; split <;> omega)))))
  (k_with "call ref" => (k_here; k_dflt (first | (refine' useC (t_longL _ _ _) ?B ?F ?X ?N ?T ?hA ?hf ?hke ?hp ?hd ?hu ?_) | (refine' useC (t_indent _ _ _ _ _ ?ts) ?B ?F ?X ?N ?T ?hA ?hf ?hke ?hp ?hd ?hu ?_; (case ts => omega))); (case B => assumption); (case F => k_asm); (case X => assumption); (case N => k_asm); (case T => assumption); (case hA => exact rfl); (case hf => exact rfl); (case hke => exact rfl); (case hp => first | exact trivial | exact wsAt_keep (by assumption) (Fr.keep (by k_asm))); (case hd => ((try dsimp only [arC]); omega)); (case hu => (have hcL9 := cLine_is; (try dsimp only [arC]); omega)); intro v' h' tk' F' N' kp' sz' q'; obtain ⟨t', q'⟩ := q'; subst q'; (try k_sweep); clear kp' sz'))
  k_steps
  all_goals (try k_data)
  all_goals (first
    | (k_dflt (refine' wit_yes ?F ?N ?hk ?hP ?ht ?hv ?hlt ?hI ?hl ?hs ?hD ?hDl ?hDI ?n1 ?n2 ?e5; (case F => k_asm); (case N => k_asm); (case hk => assumption); (case hP => exact decide_eq_true (by omega)); (case ht => assumption); (case hv => assumption); (case hlt => assumption); (case hI => k_mem); (case hl => k_mem); (case hs => exact fun _ hp => List.mem_cons_of_mem _ (List.mem_cons_of_mem _ (List.mem_cons_of_mem _ hp))); (case hD => k_mem); (case hDl => omega); (case hDI => omega); (case n1 => omega); (case n2 => assumption); (case e5 => (intro z a1; simp only [if_neg a1]))))
    | (k_dflt (refine' wit_no ?F ?N ?hk ?hP ?ht ?hv ?hlt ?hI ?hl ?hs ?n1 ?n2 ?e5; (case F => k_asm); (case N => k_asm); (case hk => assumption); (case hP => exact decide_eq_false (by omega)); (case ht => assumption); (case hv => assumption); (case hlt => assumption); (case hI => k_mem); (case hl => k_mem); (case hs => exact fun _ hp => List.mem_cons_of_mem _ (List.mem_cons_of_mem _ hp)); (case n1 => omega); (case n2 => assumption); (case e5 => (intro z a1; simp only [if_neg a1]))))
    | exact back (s := s) ret (by assumption) hL (trips_back (by assumption) (by assumption) (by assumption)))
section
variable {prog : Program} {w : World} {A : Around} {E : Value → Shared → Prop} {s : Shared} {Q : Value → Shared → Prop}
theorem readsAll_ints {h : Heap} {vs : List Value} {ns : List Int} (hi : IntsAre vs ns) : ReadsAll h vs (ns.map PyData.int) [] := readsAll_of_ints hi
theorem reads_norm {h : Heap} {tn tc : Addr} {vs : List Value} {ns : List Int} {b : Int} {t : Tok} (hN : IsTup h tn #[.ref tc, .int b t]) (hC : IsTup h tc vs.toArray) (hc : IntsAre vs ns) : ∃ as, Reads h (.ref tn) (.tuple [.tuple (ns.map PyData.int), .int b]) as := by
  obtain ⟨o, e1, e2, n, e3⟩ := hN
  obtain ⟨o', e1', e2', n', e3'⟩ := hC
  exact ⟨_, .tuple e1 e2 e3 (.cons (.tuple e1' e2' e3' (readsAll_ints hc)) (.cons (.int _ _) .nil))⟩
theorem shaped_norm (ns : List Int) (b : Int) : SeqAt.shaped (.tuple [.tuple (ns.map PyData.int), .int b]) = true := by
  have h1 := canLayAll0_ints ns
  have h2 := PySem.W.depthAll_ints ns
  unfold SeqAt.shaped
  rw [Bool.and_eq_true]
  refine ⟨by simp only [PyData.canLay0, PyData.canLayAll0, h1, Bool.and_true], decide_eq_true ?_⟩
  simp only [PyData.depth, PyData.depthAll]
  omega
theorem eqv_norm (ns ms : List Int) (a b : Int) : PyData.eqv (.tuple [.tuple (ns.map PyData.int), .int a]) (.tuple [.tuple (ms.map PyData.int), .int b]) = decide (ns = ms ∧ a = b) := by
  simp only [PyData.eqv, PyData.eqvAll, ked_eqvAll, Bool.and_true]
  by_cases h1 : ns = ms <;> by_cases h2 : a = b <;> simp [h1, h2]
theorem eq_norm {tn tc tn' tc' : Addr} {vs vs' : List Value} {ns ns' : List Int} {b b' : Int} {t t' : Tok} (hN : IsTup s.heap tn #[.ref tc, .int b t]) (hC : IsTup s.heap tc vs.toArray) (hc : IntsAre vs ns) (hN' : IsTup s.heap tn' #[.ref tc', .int b' t']) (hC' : IsTup s.heap tc' vs'.toArray) (hc' : IntsAre vs' ns') (hu : A.units + 64 < cLine)
    (h : Q (.bool (decide (ns = ns' ∧ b = b'))) s) : wpAny (model prog w) A (compareOp .Eq (.ref tn) (.ref tn')) Q E s := by
  obtain ⟨as, ra⟩ := reads_norm hN hC hc
  obtain ⟨bs, rb⟩ := reads_norm hN' hC' hc'
  exact SeqAt.compareEq_shaped ra rb (shaped_norm _ _) (shaped_norm _ _) hu (by rw [eqv_norm]; exact h)
def tripD (t : Int × Int × Int) : PyData := .tuple [.int t.1, .int t.2.1, .int t.2.2]
theorem trip_reads {h : Heap} {vs : List Value} {l : List (Int × Int × Int)} (q : Trip h vs l) : ∃ as, ReadsAll h vs (l.map tripD) as := by
  induction q with
  | nil => exact ⟨_, .nil⟩
  | cons ht _ ih =>
    obtain ⟨as, ih⟩ := ih
    obtain ⟨o, e1, e2, n, e3⟩ := ht
    exact ⟨_, .cons (.tuple e1 e2 e3 (.cons (.int _ _) (.cons (.int _ _) (.cons (.int _ _) .nil)))) ih⟩
theorem trip_can : ∀ l : List (Int × Int × Int), PyData.canLayAll0 (l.map tripD) = true
  | [] => rfl
  | t :: r => by simp only [List.map_cons, PyData.canLayAll0, trip_can r, tripD, PyData.canLay0, Bool.and_true]
theorem trip_depth : ∀ l : List (Int × Int × Int), PyData.depthAll (l.map tripD) ≤ 1
  | [] => by simp [PyData.depthAll]
  | t :: r => by
    have := trip_depth r
    simp only [List.map_cons, PyData.depthAll, tripD, PyData.depth]
    omega
theorem trip_shaped (l : List (Int × Int × Int)) : SeqAt.shaped (.list (l.map tripD)) = true := by
  have h1 := trip_can l
  have h2 := trip_depth l
  unfold SeqAt.shaped
  rw [Bool.and_eq_true]
  refine ⟨by simp only [PyData.canLay0, h1], decide_eq_true ?_⟩
  simp only [PyData.depth]
  omega
theorem trip_eqv : ∀ l m : List (Int × Int × Int), PyData.eqvAll (l.map tripD) (m.map tripD) = decide (l = m)
  | [], [] => by simp [PyData.eqvAll]
  | [], _ :: _ => by simp [PyData.eqvAll]
  | _ :: _, [] => by simp [PyData.eqvAll]
  | (a, b, c) :: r, (a', b', c') :: r' => by
    simp only [List.map_cons, PyData.eqvAll, trip_eqv r r', tripD, PyData.eqv]
    by_cases h1 : a = a' <;> by_cases h2 : b = b' <;> by_cases h3 : c = c' <;> by_cases h4 : r = r' <;> simp [h1, h2, h3, h4]
theorem ne_trips {a b : Addr} {vs us : List Value} {l m : List (Int × Int × Int)} {n k : Nat} (ha : s.heap.get? a = some (PySem.W.listOf vs.toArray n)) (hb : s.heap.get? b = some (PySem.W.listOf us.toArray k)) (hl : Trip s.heap vs l) (hm : Trip s.heap us m) (hu : A.units + 64 < cLine)
    (h : Q (.bool (!decide (l = m))) s) : wpAny (model prog w) A (compareOp .NotEq (.ref a) (.ref b)) Q E s := by
  obtain ⟨as, ra⟩ := trip_reads hl
  obtain ⟨bs, rb⟩ := trip_reads hm
  refine SeqAt.compareNe_shaped (da := .list (l.map tripD)) (db := .list (m.map tripD)) (.list ha rfl rfl ra) (.list hb rfl rfl rb) (trip_shaped _) (trip_shaped _) hu ?_
  show Q (.bool (!PyData.eqv (.list (l.map tripD)) (.list (m.map tripD)))) s
  rw [show PyData.eqv (.list (l.map tripD)) (.list (m.map tripD)) = PyData.eqvAll (l.map tripD) (m.map tripD) from by simp only [PyData.eqv], trip_eqv]
  exact h
end
def lessS (W V : Ws) : Bool := if W.n ≥ V.n then false else if W.cnt.length ≤ 1 ∧ V.cnt.length ≤ 1 then decide (W.nt ≤ V.nt) else (rangeKs 2 (mostS W V - 1).toNat).all fun t => decide (indentS W t < indentS V t)
theorem less_1 {W V : Ws} (h : V.n ≤ W.n) : false = lessS W V := by unfold lessS; rw [if_pos (by omega)]
theorem less_2 {W V : Ws} (h : ¬ V.n ≤ W.n) (h1 : (W.cnt.length : Int) ≤ 1) (h2 : (V.cnt.length : Int) ≤ 1) : decide (W.nt ≤ V.nt) = lessS W V := by unfold lessS; rw [if_neg (by omega), if_pos (by omega)]
theorem less_3 {W V : Ws} {k : Int} {n i : Nat} (h : ¬ V.n ≤ W.n) (h1 : ¬ ((W.cnt.length : Int) ≤ 1 ∧ (V.cnt.length : Int) ≤ 1)) (hk : k = 2 + (i : Int)) (hi : i < n) (hn : n = (mostS W V - 1).toNat) (q : indentS V k ≤ indentS W k) : false = lessS W V := by
  unfold lessS
  rw [if_neg (by omega), if_neg (by omega)]
  symm
  rw [List.all_eq_false]
  refine ⟨k, ?_, by simpa using q⟩
  subst hn hk
  exact List.mem_map.mpr ⟨i, List.mem_range.mpr hi, rfl⟩
theorem less_4 {W V : Ws} {n : Nat} (h : ¬ V.n ≤ W.n) (h1 : ¬ ((W.cnt.length : Int) ≤ 1 ∧ (V.cnt.length : Int) ≤ 1)) (hn : n = (mostS W V - 1).toNat) (q : ∀ t, t ∈ rangeKs 2 n → indentS W t < indentS V t) : true = lessS W V := by
  unfold lessS
  rw [if_neg (by omega), if_neg (by omega)]
  symm
  rw [List.all_eq_true]
  subst hn
  intro t ht
  exact decide_eq_true (q t ht)
theorem t_less (w : World) (x y : Addr) (W V : Ws) : Ct w 108 [.ref x, .ref y] 3 40 (fun g _ => WsAt g x W ∧ WsAt g y V) (isBool (lessS W V)) := by
  unfold Ct
  k_fill
  intro p loose mean mg mb dp un gd outer A₀ base g s R B X T kp sz hp hd hu ret
  k_dflt (refine' enterC ?k1 ?k2 ?k3 ?k4 ?k6 ?k7 ?k8 ?k9 ?kB ?c5 ?c2 ?c3 ?c4 ?kR; (case k1 => assumption); (case k2 => assumption); (case k3 => assumption); (case k4 => assumption); (case k6 => k_is); (case k7 => k_is); (case k8 => omega); (case k9 => exact BindsTo.of_eq rfl); (case kB => exact locs rfl); (case c5 => decide); (case c2 => exact rfl); (case c3 => exact rfl); (case c4 => exact rfl))
  k_whole
  intro L' h₁ F' hL hk₁
  dsimp only
  k_fold
  have N' : PyProof.Rows.News g L' h₁ [] := PyProof.Rows.News.nil
  k_with_none
  obtain ⟨hx, hy⟩ := hp
  have lx := long_ok (wsAt_len hx)
  have ly := long_ok (wsAt_len hy)
  obtain ⟨raw, dx, tn, h1, h2, h3, h4, h5, k1, k2, k3, k4, k5, t1, t2, t3, e, hIx⟩ := wsAt_inst hx
  obtain ⟨raw', dx', tn', h1', h2', h3', h4', h5', k1', k2', k3', k4', k5', t1', t2', t3', e', hIy⟩ := wsAt_inst hy
  have hm : (mostS W V).toNat ≤ 1000 := most_le lx ly
  (k_with "pyIter ref" => k_search (fun pre => ∀ t ∈ pre, indentS W t < indentS V t))
  (k_with "call ref" => (k_here; k_dflt (first | (refine' useC (t_longL _ _ _) ?B ?F ?X ?N ?T ?hA ?hf ?hke ?hp ?hd ?hu ?_) | (refine' useC (t_indent _ _ _ _ _ ?ts) ?B ?F ?X ?N ?T ?hA ?hf ?hke ?hp ?hd ?hu ?_; (case ts => omega))); (case B => assumption); (case F => k_asm); (case X => assumption); (case N => k_asm); (case T => assumption); (case hA => exact rfl); (case hf => exact rfl); (case hke => exact rfl); (case hp => first | exact trivial | exact wsAt_keep (by assumption) (Fr.keep (by k_asm))); (case hd => ((try dsimp only [arC]); omega)); (case hu => (have hcL9 := cLine_is; (try dsimp only [arC]); omega)); intro v' h' tk' F' N' kp' sz' q'; obtain ⟨t', q'⟩ := q'; subst q'; (try k_sweep); clear kp' sz'))
  k_steps
  all_goals (try k_data)
  all_goals (first
    | exact back (s := s) ret (by assumption) hL (isBool_of (less_1 (by assumption)))
    | exact back (s := s) ret (by assumption) hL (isBool_of (less_2 (by assumption) (by assumption) (by assumption)))
    | (refine' back (s := s) ret ?zF hL (isBool_of (less_4 ?z0 ?z1 ?z2 ?z3)); (case zF => k_asm); (case z0 => assumption); (case z3 => assumption); (case z1 => omega); (case z2 => (unfold mostS; (repeat' split) <;> (first | exact mx1 (by assumption) | exact mx2 (by assumption) | omega))))
    | (refine' back (s := s) ret ?zF hL (isBool_of (less_3 ?z0 ?z1 ?z2 ?z3 ?z4 ?z5)); (case zF => k_asm); (case z0 => assumption); (case z5 => assumption); (case z2 => assumption); (case z3 => assumption); (case z1 => omega); (case z4 => (unfold mostS; (repeat' split) <;> (first | exact mx1 (by assumption) | exact mx2 (by assumption) | omega))))
   )
theorem t_equal (w : World) (x y : Addr) (W V : Ws) : Ct w 94 [.ref x, .ref y] 3 100 (fun g _ => WsAt g x W ∧ WsAt g y V) (isBool (decide (W.cnt = V.cnt ∧ W.b = V.b))) := by
  unfold Ct
  k_fill
  intro p loose mean mg mb dp un gd outer A₀ base g s R B X T kp sz hp hd hu ret
  k_dflt (refine' enterC ?k1 ?k2 ?k3 ?k4 ?k6 ?k7 ?k8 ?k9 ?kB ?c5 ?c2 ?c3 ?c4 ?kR; (case k1 => assumption); (case k2 => assumption); (case k3 => assumption); (case k4 => assumption); (case k6 => k_is); (case k7 => k_is); (case k8 => omega); (case k9 => exact BindsTo.of_eq rfl); (case kB => exact locs rfl); (case c5 => decide); (case c2 => exact rfl); (case c3 => exact rfl); (case c4 => exact rfl))
  k_whole
  intro L' h₁ F' hL hk₁
  dsimp only
  k_fold
  have N' : PyProof.Rows.News g L' h₁ [] := PyProof.Rows.News.nil
  k_with_none
  obtain ⟨⟨raw, dx, tn, tc, vs, q1, q2, q3, q4, q5, k1, k2, k3, k4, k5, t1, t2, t3, t4, e, hI, hN, hC, hc, hlen, hcb, hW⟩, ⟨raw', dx', tn', tc', vs', q1', q2', q3', q4', q5', k1', k2', k3', k4', k5', t1', t2', t3', t4', e', hI', hN', hC', hc', hlen', hcb', hW'⟩⟩ := hp
  (k_with "compareOp Eq ref ref" => k_dflt (refine' eq_norm ?a ?b ?c ?d ?e ?f ?g ?_; (case a => exact IsTup.keeps hN (Fr.keep (by k_asm))); (case b => exact IsTup.keeps hC (Fr.keep (by k_asm))); (case c => assumption); (case d => exact IsTup.keeps hN' (Fr.keep (by k_asm))); (case e => exact IsTup.keeps hC' (Fr.keep (by k_asm))); (case f => assumption); (case g => (have hcL9 := cLine_is; (try dsimp only [arC, Around.deeper]); omega))))
  (k_with "call ref" => (k_here; k_dflt (first | (refine' useC (t_longL _ _ _) ?B ?F ?X ?N ?T ?hA ?hf ?hke ?hp ?hd ?hu ?_) | (refine' useC (t_indent _ _ _ _ _ ?ts) ?B ?F ?X ?N ?T ?hA ?hf ?hke ?hp ?hd ?hu ?_; (case ts => omega))); (case B => assumption); (case F => k_asm); (case X => assumption); (case N => k_asm); (case T => assumption); (case hA => exact rfl); (case hf => exact rfl); (case hke => exact rfl); (case hp => first | exact trivial | exact wsAt_keep (by assumption) (Fr.keep (by k_asm))); (case hd => ((try dsimp only [arC]); omega)); (case hu => (have hcL9 := cLine_is; (try dsimp only [arC]); omega)); intro v' h' tk' F' N' kp' sz' q'; obtain ⟨t', q'⟩ := q'; subst q'; (try k_sweep); clear kp' sz'))
  k_steps
  all_goals (try k_data)
  all_goals (first | exact back (s := s) ret (by assumption) hL (isBool_of rfl))
end
section
theorem flush_Ch : (1 : Nat) = 1 := by
  w_top off
  k_with_none
  first | walk1 | rfl
def substS (x y : Str) : Int := if (x == y) = true then 0 else if (Txt.lower x == Txt.lower y) = true then 1 else 2
theorem t_subst (w : World) (x y : Str) (t u : Tok) (hx : x.length ≤ 1) (hy : y.length ≤ 1) : Ct w 136 [.str x t, .str y u] 1 8 noPre (isInt (substS x y)) := by
  unfold Ct
  k_fill
  intro p loose mean mg mb dp un gd outer A₀ base g s R B X T kp sz hp hd hu ret
  k_dflt (refine' enterC ?k1 ?k2 ?k3 ?k4 ?k6 ?k7 ?k8 ?k9 ?kB ?c5 ?c2 ?c3 ?c4 ?kR; (case k1 => assumption); (case k2 => assumption); (case k3 => assumption); (case k4 => assumption); (case k6 => k_is); (case k7 => k_is); (case k8 => omega); (case k9 => exact BindsTo.of_eq rfl); (case kB => exact locs rfl); (case c5 => decide); (case c2 => exact rfl); (case c3 => exact rfl); (case c4 => exact rfl))
  k_whole
  intro L' h₁ F' hL hk₁
  dsimp only
  k_fold
  have N' : PyProof.Rows.News g L' h₁ [] := PyProof.Rows.News.nil
  k_with_none
  k_steps
  all_goals (try k_data)
  all_goals (first | exact back (s := s) ret (by assumption) hL (isInt_of (by simp only [substS, *, if_true, Bool.false_eq_true, if_false])))
end
section
theorem flush_Cy : (1 : Nat) = 1 := by
  w_top off
  k_with_none
  first | walk1 | rfl
def rowInit (n : Nat) : List Int := (List.range n).map fun (i : Nat) => 2 + (i : Int) * 2
section
variable {prog : Program} {w : World} {A : Around} {E : Value → Shared → Prop} {s : Shared} {Q : Value → Shared → Prop} {h₀ : Heap} {L : Addr} {m : Str → Option Value} {news : List (Addr × Obj)}
theorem intsAre_of {vs : List Value} {ns : List Int} (hl : vs.length = ns.length) (h : ∀ i v, vs[i]? = some v → ∃ t, v = Value.int (ns.getD i 0) t) : IntsAre vs ns := by
  induction ns generalizing vs with
  | nil => cases vs with
    | nil => exact .nil
    | cons _ _ => cases hl
  | cons n r ih => cases vs with
    | nil => cases hl
    | cons v vs =>
      obtain ⟨t, e⟩ := h 0 v rfl
      subst e
      exact .cons n t (ih (by simpa using hl) fun i v hv => by simpa using h (i + 1) v (by simpa using hv))
theorem list_row {r : Addr} {b : Int} {t u v : Tok} {n : Nat} (hh : A.handled = none) (F : Fr h₀ L s.heap m) (N : News h₀ L s.heap news) (hr : IsRange s.heap r 2 b 2 t u v) (hb : b = 2 * ((n : Int) + 1)) (hn : n ≤ 100)
    (h : ∀ (D : Addr) (vs : List Value) k h' tk, Fr h₀ L h' m → News h₀ L h' ((D, PySem.W.listOf vs.toArray k) :: news) → (∀ p ∈ news, p.1 < D) → IntsAre vs (rowInit n) → Q (.ref D) { s with heap := h', toks := tk }) :
    wpAny (model prog w) A (call (.type "list") [.ref r]) Q E s := by
  have e : Builtin.Range.rangeSize 2 b 2 = (n : Int) := by
    subst hb
    unfold Builtin.Range.rangeSize
    rw [if_pos (by decide)]
    split <;> omega
  have hsm : Builtin.Range.small 2 b 2 = true := by
    unfold Builtin.Range.small
    rw [e]
    simp only [Builtin.Range.rangeFitsLong, Bool.and_eq_true, Bool.or_eq_true, decide_eq_true_eq, beq_iff_eq, show (2 : Int) > 0 by decide, if_true]
    omega
  refine call_list_range hh hr hsm e (by omega) fun h' tk acc' c' hk hS' hacc => ?_
  have hI : IntsAre acc'.toList (rowInit n) := by
    refine intsAre_of (by rw [Array.length_toList, hacc.1]; simp [rowInit]) fun i v hv => ?_
    have hv' : acc'[i]? = some v := by simpa using hv
    obtain ⟨t, e⟩ := hacc.2 i v hv'
    have hi : i < n := by rw [← hacc.1]; exact (Array.getElem?_eq_some_iff.mp hv').1
    refine ⟨t, e.trans ?_⟩
    congr 1
    simp [rowInit, List.getD_eq_getElem?_getD, hi]
  have hne : s.heap.objs.size ≠ L := Nat.ne_of_gt F.ns.lt
  refine h _ acc'.toList c' h' tk (F.keeps hk) (List.forall_mem_cons.mpr ⟨⟨by rw [hS'], hne, next_is_new F⟩, fun p hp => ⟨hk _ _ (N p hp).1, (N p hp).2⟩⟩) (fun p hp => Heap.lt_size (N p hp).1) hI
end

def inT (c a : Str) (st : Int × Int × Int × List Int) (i : Int) : Int × Int × Int × List Int :=
  let d := st.2.2.2.getD i.toNat 0
  let r := min (min st.2.1 d + 2) (st.1 + substS c (Txt.item a i))
  (d, r, if r < st.2.2.1 then r else st.2.2.1, st.2.2.2.set i.toNat r)
def inS (c a : Str) (j : Int) (row : List Int) (i : Nat) : Int × Int × Int × List Int := (rangeKs 0 i).foldl (inT c a) (j * 2, j * 2, 9223372036854775807, row)
def rowT (a b : Str) (st : Int × List Int) (j : Int) : Int × List Int := ((inS (Txt.item b j) a j st.2 a.length).2.1, (inS (Txt.item b j) a j st.2 a.length).2.2.2)
def rowS (a b : Str) (j : Nat) : Int × List Int := (rangeKs 0 j).foldl (rowT a b) (0, rowInit a.length)
/-- no row is above the bound -/
def rowsOk (a b : Str) (m : Int) : Prop := ∀ j : Nat, j < b.length → (inS (Txt.item b j) a j (rowS a b j).2 a.length).2.2.1 ≤ m
theorem inS_succ (c a : Str) (j : Int) (row : List Int) (i : Nat) : inS c a j row (i + 1) = inT c a (inS c a j row i) i := by
  unfold inS
  rw [rangeKs_succ, List.foldl_append, Int.zero_add]; rfl
theorem rowS_succ (a b : Str) (j : Nat) : rowS a b (j + 1) = rowT a b (rowS a b j) j := by
  unfold rowS
  rw [rangeKs_succ, List.foldl_append, Int.zero_add]; rfl
theorem inS_len (c a : Str) (j : Int) (row : List Int) : ∀ i : Nat, (inS c a j row i).2.2.2.length = row.length
  | 0 => rfl
  | i + 1 => by rw [inS_succ]; show (List.set _ _ _).length = _; rw [List.length_set, inS_len c a j row i]
theorem rowS_len (a b : Str) : ∀ j : Nat, (rowS a b j).2.length = a.length
  | 0 => by simp [rowS, rangeKs, rowInit]
  | j + 1 => by rw [rowS_succ]; show (inS _ _ _ _ _).2.2.2.length = _; rw [inS_len, rowS_len a b j]
/-- the inner loop's state -/
def JIn (c a : Str) (j : Int) (row : List Int) (m₀ : Str → Option Value) (D J : Addr) (oJ : Obj) (i : Nat) (m : Str → Option Value) (news : List (Addr × Obj)) : Prop :=
  ∃ vs k t1 t2 t3, news = [(D, PySem.W.listOf (List.toArray vs) k), (J, oJ)] ∧ IntsAre vs (inS c a j row i).2.2.2 ∧ m (Str.ofString "distance") = some (.int (inS c a j row i).1 t1) ∧ m (Str.ofString "result") = some (.int (inS c a j row i).2.1 t2) ∧ m (Str.ofString "minimum") = some (.int (inS c a j row i).2.2.1 t3) ∧
    ∀ z, z ≠ Str.ofString "index" → z ≠ Str.ofString "distance" → z ≠ Str.ofString "result" → z ≠ Str.ofString "minimum" → z ≠ Str.ofString "substitute" → z ≠ Str.ofString "insert_delete" → m z = m₀ z
theorem canon_in {m m₀ : Str → Option Value} {v1 v2 v3 : Value} (h1 : m (Str.ofString "distance") = some v1) (h2 : m (Str.ofString "result") = some v2) (h3 : m (Str.ofString "minimum") = some v3)
    (h5 : ∀ z, z ≠ Str.ofString "index" → z ≠ Str.ofString "distance" → z ≠ Str.ofString "result" → z ≠ Str.ofString "minimum" → z ≠ Str.ofString "substitute" → z ≠ Str.ofString "insert_delete" → m z = m₀ z) (v : Option Value) (y : Str) :
    (if y = Str.ofString "index" then v else m y) = (if y = Str.ofString "index" then v else if y = Str.ofString "distance" then some v1 else if y = Str.ofString "result" then some v2 else if y = Str.ofString "minimum" then some v3 else if y = Str.ofString "substitute" then m (Str.ofString "substitute") else if y = Str.ofString "insert_delete" then m (Str.ofString "insert_delete") else m₀ y) := by
  by_cases a : y = Str.ofString "index"
  · rw [if_pos a, if_pos a]
  rw [if_neg a, if_neg a]
  by_cases b : y = Str.ofString "distance"
  · rw [if_pos b, b, h1]
  rw [if_neg b]
  by_cases c : y = Str.ofString "result"
  · rw [if_pos c, c, h2]
  rw [if_neg c]
  by_cases d : y = Str.ofString "minimum"
  · rw [if_pos d, d, h3]
  rw [if_neg d]
  by_cases e : y = Str.ofString "substitute"
  · rw [if_pos e, e]
  rw [if_neg e]
  by_cases f : y = Str.ofString "insert_delete"
  · rw [if_pos f, f]
  rw [if_neg f]
  exact h5 y a b c d e f
section
variable {prog : Program} {w : World} {A : Around} {E : Value → Shared → Prop} {s : Shared} {env : Env} {h₀ : Heap} {body : List Stmt} {Q : Flow → Shared → Prop}
theorem in_loop {c a : Str} {j : Int} {row : List Int} {tc ta : Tok} {r D J : Addr} {oJ : Obj} {b₀ : Int} {t₀ u₀ v₀ t1 t2 t3 : Tok} {n : Nat} {m₀ : Str → Option Value} {vs₀ : List Value} {k₀ : Nat}
    (hh : A.handled = none) (hr : IsRange s.heap r 0 b₀ 1 t₀ u₀ v₀) (hb : b₀ = (n : Int)) (hn : n ≤ 100) (F : Fr h₀ env.locals s.heap m₀) (N : News h₀ env.locals s.heap [(D, PySem.W.listOf vs₀.toArray k₀), (J, oJ)]) (hv : IntsAre vs₀ row)
    (ec : m₀ (Str.ofString "bchar") = some (.str c tc)) (ea : m₀ (Str.ofString "a") = some (.str a ta)) (e1 : m₀ (Str.ofString "distance") = some (.int (j * 2) t1)) (e2 : m₀ (Str.ofString "result") = some (.int (j * 2) t2)) (e3 : m₀ (Str.ofString "minimum") = some (.int 9223372036854775807 t3))
    (turn : ∀ (i : Nat) (x : Int) t I oI (vs : List Value) k t1 t2 t3 u1 u2 h tk, i < n → x = i → IntsAre vs (inS c a j row i).2.2.2 → (inS c a j row i).2.2.2.length = row.length → @Ne Nat D I → @Ne Nat J I →
      Fr h₀ env.locals h (fun y => if y = Str.ofString "index" then some (.int x t) else if y = Str.ofString "distance" then some (.int (inS c a j row i).1 t1) else if y = Str.ofString "result" then some (.int (inS c a j row i).2.1 t2) else if y = Str.ofString "minimum" then some (.int (inS c a j row i).2.2.1 t3) else if y = Str.ofString "substitute" then u1 else if y = Str.ofString "insert_delete" then u2 else m₀ y) →
      News h₀ env.locals h [(I, oI), (D, PySem.W.listOf vs.toArray k), (J, oJ)] →
      wpAny (model prog w) A (execs body env) (PostI h₀ env.locals (JIn c a j row m₀ D J oJ (i + 1)) I oI { s with heap := h, toks := tk } Q) E { s with heap := h, toks := tk })
    (done : ∀ (vs : List Value) k t1 t2 t3 u u1 u2 h tk, IntsAre vs (inS c a j row n).2.2.2 →
      Fr h₀ env.locals h (fun y => if y = Str.ofString "index" then u else if y = Str.ofString "distance" then some (.int (inS c a j row n).1 t1) else if y = Str.ofString "result" then some (.int (inS c a j row n).2.1 t2) else if y = Str.ofString "minimum" then some (.int (inS c a j row n).2.2.1 t3) else if y = Str.ofString "substitute" then u1 else if y = Str.ofString "insert_delete" then u2 else m₀ y) →
      News h₀ env.locals h [(D, PySem.W.listOf vs.toArray k), (J, oJ)] → Q .next { s with heap := h, toks := tk }) :
    wpAny (model prog w) A (pyIter (.ref r)) (fun it s₂ => LoopAtV prog w A h₀ env (Str.ofString "index") body Q E it s₂) E s := by
  subst hb
  refine range_loop (n := n) (JIn c a j row m₀ D J oJ) hh hr (small_one (by omega) (by omega) (by omega) (by omega)) (by rw [rangeSize_one]; split <;> omega) F N ⟨vs₀, k₀, t1, t2, t3, rfl, hv, e1, e2, e3, fun _ _ _ _ _ _ _ => rfl⟩ ?_ ?_
  · rintro i x t m₁ news₁ h tk I oI hi hx ⟨vs, k, t1, t2, t3, rfl, hvs, q1, q2, q3, q5⟩ off F₁ N₁
    exact turn i x t I oI vs k t1 t2 t3 _ _ h tk hi (by omega) hvs (inS_len _ _ _ _ _) (off _ (.head _)) (off _ (.tail _ (.head _))) (fr_canon F₁ (canon_in q1 q2 q3 q5 _)) N₁
  · rintro m₁ news₁ h tk ⟨vs, k, t1, t2, t3, rfl, hvs, q1, q2, q3, q5⟩ F₁ N₁
    refine done vs k t1 t2 t3 (m₁ (Str.ofString "index")) (m₁ (Str.ofString "substitute")) (m₁ (Str.ofString "insert_delete")) h tk hvs (fr_canon F₁ fun y => ?_) N₁
    rw [← canon_in q1 q2 q3 q5]
    split
    · rename_i e; rw [e]
    · rfl
end

theorem in_end {c a : Str} {j : Int} {row : List Int} {h₀ : Heap} {L I D J : Addr} {oI oJ : Obj} {m₀ m' : Str → Option Value} {news' : List (Addr × Obj)} {i : Nat} {x sub : Int} {vs : List Value} {k : Nat} {s₁ : Shared} {Q : Flow → Shared → Prop} {h' : Heap} {tk : Nat} {t t1 t2 t3 : Tok} {d r mn : Int}
    (F : Fr h₀ L h' m') (N : News h₀ L h' news') (hx : x = i) (hD : (D, PySem.W.listOf (vs.set x.toNat (.int r t)).toArray k) ∈ news') (hI : (I, oI) ∈ news') (hJ : (J, oJ) ∈ news') (n1 : @Ne Nat D I) (n2 : @Ne Nat J I) (hv : IntsAre vs (inS c a j row i).2.2.2)
    (hsub : sub = substS c (Txt.item a x)) (hd : d = (inS c a j row i).2.2.2.getD x.toNat 0) (hr : r = min (min (inS c a j row i).2.1 d + 2) ((inS c a j row i).1 + sub)) (hm : mn = if r < (inS c a j row i).2.2.1 then r else (inS c a j row i).2.2.1)
    (e1 : m' (Str.ofString "distance") = some (.int d t1)) (e2 : m' (Str.ofString "result") = some (.int r t2)) (e3 : m' (Str.ofString "minimum") = some (.int mn t3))
    (e5 : ∀ z, z ≠ Str.ofString "index" → z ≠ Str.ofString "distance" → z ≠ Str.ofString "result" → z ≠ Str.ofString "minimum" → z ≠ Str.ofString "substitute" → z ≠ Str.ofString "insert_delete" → m' z = m₀ z) :
    PostI h₀ L (JIn c a j row m₀ D J oJ (i + 1)) I oI s₁ Q .next { s₁ with heap := h', toks := tk } := by
  have e : inS c a j row (i + 1) = (d, r, mn, (inS c a j row i).2.2.2.set x.toNat r) := by
    rw [inS_succ]
    subst hx
    show (_, _, _, _) = _
    rw [hm, hr, hd, hsub]
  refine ⟨h', tk, m', news', [(D, PySem.W.listOf (vs.set x.toNat (.int r t)).toArray k), (J, oJ)], rfl, F, N, List.forall_mem_cons.mpr ⟨hD, List.forall_mem_cons.mpr ⟨hJ, List.forall_mem_nil _⟩⟩, hI, List.forall_mem_cons.mpr ⟨n1, List.forall_mem_cons.mpr ⟨n2, List.forall_mem_nil _⟩⟩, vs.set x.toNat (.int r t), k, t1, t2, t3, rfl, ?_, ?_, ?_, ?_, e5⟩
  · rw [e]; exact intsAre_set hv _ _ _
  · rw [e]; exact e1
  · rw [e]; exact e2
  · rw [e]; exact e3
def outNames (z : Str) : Prop := z ≠ Str.ofString "bindex" ∧ z ≠ Str.ofString "bchar" ∧ z ≠ Str.ofString "index" ∧ z ≠ Str.ofString "distance" ∧ z ≠ Str.ofString "result" ∧ z ≠ Str.ofString "minimum" ∧ z ≠ Str.ofString "substitute" ∧ z ≠ Str.ofString "insert_delete"
def JOut (a b : Str) (m₀ : Str → Option Value) (D : Addr) (j : Nat) (m : Str → Option Value) (news : List (Addr × Obj)) : Prop :=
  ∃ vs k t, news = [(D, PySem.W.listOf (List.toArray vs) k)] ∧ IntsAre vs (rowS a b j).2 ∧ m (Str.ofString "result") = some (.int (rowS a b j).1 t) ∧ ∀ z, outNames z → m z = m₀ z
/-- the map of names in the outer turn -/
def outMap (m₀ u : Str → Option Value) (x : Int) (t : Tok) (res : Value) : Str → Option Value := fun y => if y = Str.ofString "bindex" then some (.int x t) else if y = Str.ofString "result" then some res else if y = Str.ofString "bchar" then u y else if y = Str.ofString "index" then u y else if y = Str.ofString "distance" then u y else if y = Str.ofString "minimum" then u y else if y = Str.ofString "substitute" then u y else if y = Str.ofString "insert_delete" then u y else m₀ y
theorem canon_out {m m₀ : Str → Option Value} {res : Value} (h1 : m (Str.ofString "result") = some res) (h5 : ∀ z, outNames z → m z = m₀ z) (x : Int) (t : Tok) (y : Str) :
    (if y = Str.ofString "bindex" then some (Value.int x t) else m y) = outMap m₀ m x t res y := by
  unfold outMap
  by_cases a : y = Str.ofString "bindex"
  · rw [if_pos a, if_pos a]
  rw [if_neg a, if_neg a]
  by_cases b : y = Str.ofString "result"
  · rw [if_pos b, b, h1]
  rw [if_neg b]
  by_cases c : y = Str.ofString "bchar"
  · rw [if_pos c]
  rw [if_neg c]
  by_cases d : y = Str.ofString "index"
  · rw [if_pos d]
  rw [if_neg d]
  by_cases e : y = Str.ofString "distance"
  · rw [if_pos e]
  rw [if_neg e]
  by_cases f : y = Str.ofString "minimum"
  · rw [if_pos f]
  rw [if_neg f]
  by_cases g : y = Str.ofString "substitute"
  · rw [if_pos g]
  rw [if_neg g]
  by_cases h : y = Str.ofString "insert_delete"
  · rw [if_pos h]
  rw [if_neg h]
  exact h5 y ⟨a, c, d, e, b, f, g, h⟩
section
variable {prog : Program} {w : World} {A : Around} {E : Value → Shared → Prop} {s : Shared} {env : Env} {h₀ : Heap} {body : List Stmt} {Q : Flow → Shared → Prop}
theorem out_loop {a b : Str} (mx : Int) (hok : rowsOk a b mx) {ta tb : Tok} {r D : Addr} {b₀ : Int} {t₀ u₀ v₀ t1 : Tok} {n : Nat} {m₀ : Str → Option Value} {vs₀ : List Value} {k₀ : Nat}
    (hh : A.handled = none) (hr : IsRange s.heap r 0 b₀ 1 t₀ u₀ v₀) (hb : b₀ = (n : Int)) (hn : n ≤ 100) (F : Fr h₀ env.locals s.heap m₀) (N : News h₀ env.locals s.heap [(D, PySem.W.listOf vs₀.toArray k₀)]) (hv : IntsAre vs₀ (rowInit a.length)) (hnb : n = b.length) (ea : m₀ (Str.ofString "a") = some (.str a ta)) (eb : m₀ (Str.ofString "b") = some (.str b tb))
    (e1 : m₀ (Str.ofString "result") = some (.int 0 t1))
    (turn : ∀ (j : Nat) t I oI (vs : List Value) k t1 u h tk, j < n → IntsAre vs (rowS a b j).2 → (rowS a b j).2.length = a.length → (inS (Txt.item b j) a j (rowS a b j).2 a.length).2.2.1 ≤ mx → @Ne Nat D I →
      Fr h₀ env.locals h (outMap m₀ u (j : Int) t (.int (rowS a b j).1 t1)) → News h₀ env.locals h [(I, oI), (D, PySem.W.listOf vs.toArray k)] →
      wpAny (model prog w) A (execs body env) (PostI h₀ env.locals (JOut a b m₀ D (j + 1)) I oI { s with heap := h, toks := tk } Q) E { s with heap := h, toks := tk })
    (done : ∀ (vs : List Value) k t (u : Str → Option Value) (x : Option Value) h tk, Fr h₀ env.locals h (fun y => if y = Str.ofString "result" then some (.int (rowS a b n).1 t) else if y = Str.ofString "bindex" then x else u y) →
      News h₀ env.locals h [(D, PySem.W.listOf vs.toArray k)] → Q .next { s with heap := h, toks := tk }) :
    wpAny (model prog w) A (pyIter (.ref r)) (fun it s₂ => LoopAtV prog w A h₀ env (Str.ofString "bindex") body Q E it s₂) E s := by
  subst hb
  refine range_loop (n := n) (JOut a b m₀ D) hh hr (small_one (by omega) (by omega) (by omega) (by omega)) (by rw [rangeSize_one]; split <;> omega) F N ⟨vs₀, k₀, t1, rfl, hv, e1, fun _ _ => rfl⟩ ?_ ?_
  · rintro j x t m₁ news₁ h tk I oI hj hx ⟨vs, k, t1, rfl, hvs, q1, q5⟩ off F₁ N₁
    obtain rfl : x = (j : Int) := by omega
    exact turn j t I oI vs k t1 m₁ h tk hj hvs (rowS_len a b j) (hok j (hnb ▸ hj)) (off _ (.head _)) (fr_canon F₁ (canon_out q1 q5 _ t)) N₁
  · rintro m₁ news₁ h tk ⟨vs, k, t1, rfl, hvs, q1, q5⟩ F₁ N₁
    refine done vs k t1 m₁ (m₁ (Str.ofString "bindex")) h tk (fr_canon F₁ fun y => ?_) N₁
    by_cases a : y = Str.ofString "result"
    · rw [if_pos a, a, q1]
    · rw [if_neg a]
      split
      · rename_i e; rw [e]
      · rfl
end

theorem out_end {a b : Str} {h₀ : Heap} {L I D : Addr} {oI : Obj} {m₀ m' : Str → Option Value} {news' : List (Addr × Obj)} {j : Nat} {vs : List Value} {k : Nat} {s₁ : Shared} {Q : Flow → Shared → Prop} {h' : Heap} {tk : Nat} {t : Tok}
    (F : Fr h₀ L h' m') (N : News h₀ L h' news') (hD : (D, PySem.W.listOf vs.toArray k) ∈ news') (hI : (I, oI) ∈ news') (n1 : @Ne Nat D I) (hv : IntsAre vs (inS (Txt.item b j) a j (rowS a b j).2 a.length).2.2.2)
    (e2 : m' (Str.ofString "result") = some (.int (inS (Txt.item b j) a j (rowS a b j).2 a.length).2.1 t)) (e5 : ∀ z, outNames z → m' z = m₀ z) :
    PostI h₀ L (JOut a b m₀ D (j + 1)) I oI s₁ Q .next { s₁ with heap := h', toks := tk } := by
  refine ⟨h', tk, m', news', [(D, PySem.W.listOf vs.toArray k)], rfl, F, N, List.forall_mem_cons.mpr ⟨hD, List.forall_mem_nil _⟩, hI, List.forall_mem_cons.mpr ⟨n1, List.forall_mem_nil _⟩, vs, k, t, rfl, ?_, ?_, e5⟩
  · rw [rowS_succ]; exact hv
  · rw [rowS_succ]; exact e2
end
section
theorem flush_Ci : (1 : Nat) = 1 := by
  w_top off
  k_with_none
  first | walk1 | rfl
section
variable {prog : Program} {w : World} {A : Around} {E : Value → Shared → Prop} {Q : Flow → Shared → Prop} {s : Shared} {env : Env} {h₀ : Heap} {L : Addr}
/-- a while that turns one int: how it is left -/
def End1 (h₀ : Heap) (L : Addr) (nm : Str) (m₀ : Str → Option Value) (news : List (Addr × Obj)) (pe : Int) (s s₂ : Shared) : Prop :=
  ∃ p t h tk, s₂ = { s with heap := h, toks := tk } ∧ p = pe ∧ Fr h₀ L h (fun z => if z = nm then some (.int p t) else m₀ z) ∧ News h₀ L h news
def Turn1 (h₀ : Heap) (L : Addr) (nm : Str) (m₀ : Str → Option Value) (news : List (Addr × Obj)) (P : Int → Prop) (μ : Int → Nat) (p : Int) (s s₂ : Shared) : Prop :=
  ∃ p' t h tk m', s₂ = { s with heap := h, toks := tk } ∧ P p' ∧ μ p' < μ p ∧ Fr h₀ L h m' ∧ m' nm = some (.int p' t) ∧ (∀ z, z ≠ nm → m' z = m₀ z) ∧ News h₀ L h news
def Post1 (h₀ : Heap) (L : Addr) (nm : Str) (m₀ : Str → Option Value) (news : List (Addr × Obj)) (P : Int → Prop) (μ : Int → Nat) (p : Int) (s : Shared) (Q : Flow → Shared → Prop) (f : Flow) (s₂ : Shared) : Prop :=
  match f with
  | .ret v => Q (.ret v) s₂
  | .brk => Q .next s₂
  | _ => Turn1 h₀ L nm m₀ news P μ p s s₂
theorem while1 {nm : Str} {test : Expr} {body : List Stmt} {pos : Pos} {m₀ : Str → Option Value} {news : List (Addr × Obj)} {p₀ : Int} {t₀ : Tok} (P : Int → Prop) (pe : Int) (μ : Int → Nat)
    (F : Fr h₀ L s.heap m₀) (N : News h₀ L s.heap news) (e0 : m₀ nm = some (.int p₀ t₀)) (hp : P p₀)
    (turn : ∀ p t h tk, P p → Fr h₀ L h (fun z => if z = nm then some (.int p t) else m₀ z) → News h₀ L h news →
      wpAny (model prog w) A (isTrue test env (eval test env)) (fun b s₂ => if b = true then wpAny (model prog w) A (execs body env) (Post1 h₀ L nm m₀ news P μ p s Q) E s₂ else End1 h₀ L nm m₀ news pe s s₂) E { s with heap := h, toks := tk })
    (done : ∀ t h tk, Fr h₀ L h (fun z => if z = nm then some (.int pe t) else m₀ z) → News h₀ L h news → Q .next { s with heap := h, toks := tk })
    (hE : PassesOwn (model prog w) A env E := by passes_own) : wpAny (model prog w) A (exec (.While test body [] pos) env) Q E s := by
  refine While_inv2 (fun n m nx => ∃ p t, nx = news ∧ μ p = n ∧ P p ∧ m nm = some (.int p t) ∧ ∀ z, z ≠ nm → m z = m₀ z) F N ⟨p₀, t₀, rfl, rfl, hp, e0, fun _ _ => rfl⟩ ?_ hE
  rintro n m₁ nx h tk F₁ N₁ ⟨p, t, rfl, rfl, hP, e1, e2⟩
  have F₂ : Fr h₀ L h (fun z => if z = nm then some (.int p t) else m₀ z) := fr_canon F₁ fun y => by
    by_cases a : y = nm
    · rw [if_pos a, a, e1]
    · rw [if_neg a, e2 y a]
  refine wpAny_mono (turn p t h tk hP F₂ N₁) (fun b s₂ q => ?_) fun _ _ x => x
  cases b with
  | false =>
    simp only [Bool.false_eq_true, if_false] at q ⊢
    obtain ⟨p', t', h', tk', rfl, hD, F', N'⟩ := q
    subst hD; exact done t' h' tk' F' N'
  | true =>
    simp only [if_true] at q ⊢
    refine wpAny_mono q (fun f s₃ r => ?_) fun _ _ x => x
    cases f with
    | ret v => exact r
    | brk => exact r
    | next =>
      obtain ⟨p', t', h', tk', m', rfl, hp9, hm9, F', e1', e2', N'⟩ := r
      exact ⟨h', tk', m', nx, μ p', rfl, F', N', hm9, p', t', rfl, rfl, hp9, e1', e2'⟩
    | cont =>
      obtain ⟨p', t', h', tk', m', rfl, hp9, hm9, F', e1', e2', N'⟩ := r
      exact ⟨h', tk', m', nx, μ p', rfl, F', N', hm9, p', t', rfl, rfl, hp9, e1', e2'⟩
end
def lcpF (x y : Str) : Nat → Int → Int
  | 0, p => p
  | k + 1, p => if p < x.length ∧ p < y.length ∧ (Txt.item x p == Txt.item y p) = true then lcpF x y k (p + 1) else p
def lcpS (x y : Str) : Int := lcpF x y 200 0
/-- the loop that seeks the common head: at p, all before it equal -/
def LcpP (x y : Str) (p : Int) : Prop := 0 ≤ p ∧ p ≤ x.length ∧ p ≤ y.length ∧ lcpF x y (200 - p.toNat) p = lcpS x y
theorem lcp_start (x y : Str) : LcpP x y 0 := ⟨by omega, by omega, by omega, rfl⟩
theorem lcp_step {x y : Str} {p : Int} (hx : x.length ≤ 100) (hc : 0 ≤ p ∧ p ≤ (x.length : Int) ∧ p ≤ (y.length : Int) ∧ LcpP x y p) (h1 : p < x.length) (h2 : p < y.length) (e : (Txt.item x p == Txt.item y p) = true) : LcpP x y (p + 1) := by
  obtain ⟨a, b, c, d⟩ := hc.2.2.2
  refine ⟨by omega, by omega, by omega, ?_⟩
  rw [← d, show 200 - p.toNat = (200 - (p + 1).toNat) + 1 from by omega]
  show _ = if _ then _ else _
  rw [if_pos ⟨h1, h2, e⟩]
theorem lcp_stop {x y : Str} {p : Int} (hx : x.length ≤ 100) (hc : 0 ≤ p ∧ p ≤ (x.length : Int) ∧ p ≤ (y.length : Int) ∧ LcpP x y p) (e : ¬ p < x.length ∨ ¬ p < y.length ∨ (Txt.item x p == Txt.item y p) = false) : p = lcpS x y := by
  obtain ⟨a, b, c, d⟩ := hc.2.2.2
  rw [← d, show 200 - p.toNat = (199 - p.toNat) + 1 from by omega]
  show _ = if _ then _ else _
  rw [if_neg]
  rintro ⟨h1, h2, h3⟩
  rcases e with q | q | q
  · exact q h1
  · exact q h2
  · rw [h3] at q; cases q
theorem lcp_bound {x y : Str} {p : Int} (h : LcpP x y p) : 0 ≤ p ∧ p ≤ x.length ∧ p ≤ y.length := ⟨h.1, h.2.1, h.2.2.1⟩
def lcsF (x y : Str) : Nat → Int → Int
  | 0, q => q
  | k + 1, q => if -q < x.length ∧ -q < y.length ∧ (Txt.item x (q - 1) == Txt.item y (q - 1)) = true then lcsF x y k (q - 1) else q
def lcsS (x y : Str) : Int := lcsF x y 200 0
def LcsP (x y : Str) (q : Int) : Prop := q ≤ 0 ∧ -q ≤ x.length ∧ -q ≤ y.length ∧ lcsF x y (200 - (-q).toNat) q = lcsS x y
theorem lcs_start (x y : Str) : LcsP x y 0 := ⟨by omega, by omega, by omega, rfl⟩
theorem lcs_step {x y : Str} {q : Int} (hx : x.length ≤ 100) (hc : q ≤ 0 ∧ -q ≤ (x.length : Int) ∧ -q ≤ (y.length : Int) ∧ LcsP x y q) (h1 : -q < x.length) (h2 : -q < y.length) (e : (Txt.item x (q - 1) == Txt.item y (q - 1)) = true) : LcsP x y (q - 1) := by
  obtain ⟨a, b, c, d⟩ := hc.2.2.2
  refine ⟨by omega, by omega, by omega, ?_⟩
  rw [← d, show 200 - (-q).toNat = (200 - (-(q - 1)).toNat) + 1 from by omega]
  show _ = if _ then _ else _
  rw [if_pos ⟨h1, h2, e⟩]
theorem lcs_stop {x y : Str} {q : Int} (hx : x.length ≤ 100) (hc : q ≤ 0 ∧ -q ≤ (x.length : Int) ∧ -q ≤ (y.length : Int) ∧ LcsP x y q) (e : ¬ -q < x.length ∨ ¬ -q < y.length ∨ (Txt.item x (q - 1) == Txt.item y (q - 1)) = false) : q = lcsS x y := by
  obtain ⟨a, b, c, d⟩ := hc.2.2.2
  rw [← d, show 200 - (-q).toNat = (199 - (-q).toNat) + 1 from by omega]
  show _ = if _ then _ else _
  rw [if_neg]
  rintro ⟨h1, h2, h3⟩
  rcases e with r | r | r
  · exact r h1
  · exact r h2
  · rw [h3] at r; cases r
theorem post1_intro {h₀ : Heap} {L : Addr} {nm : Str} {m₀ m' : Str → Option Value} {news : List (Addr × Obj)} {P : Int → Prop} {μ : Int → Nat} {p p' : Int} {t : Tok} {s : Shared} {Q : Flow → Shared → Prop} {h : Heap} {tk : Nat}
    (F : Fr h₀ L h m') (N : News h₀ L h news) (e1 : m' nm = some (.int p' t)) (hp : P p') (hm : μ p' < μ p) (e2 : ∀ z, z ≠ nm → m' z = m₀ z) : Post1 h₀ L nm m₀ news P μ p s Q .next { s with heap := h, toks := tk } :=
  ⟨p', t, h, tk, m', rfl, hp, hm, F, e1, e2, N⟩
theorem end1_intro {h₀ : Heap} {L : Addr} {nm : Str} {m₀ : Str → Option Value} {news : List (Addr × Obj)} {pe p : Int} {t : Tok} {s : Shared} {h : Heap} {tk : Nat}
    (F : Fr h₀ L h (fun z => if z = nm then some (.int p t) else m₀ z)) (N : News h₀ L h news) (e : p = pe) : End1 h₀ L nm m₀ news pe s { s with heap := h, toks := tk } := ⟨p, t, h, tk, rfl, e, F, N⟩
def Stop (P : Prop) : Prop := P
theorem stop_in {P : Prop} (h : Stop P) : P := h
theorem len_neg {a : Str} {q : Int} (h0 : q < 0) (h1 : -(a.length : Int) ≤ q) : ((Txt.slice a none (some q)).length : Int) = a.length + q := by
  have e : Txt.slice a none (some q) = StrLaws.sliceText a none (some q) := rfl
  rw [e, StrLaws.sliceText_to_neg h0 h1]
  have h2 : a.cps.toList.length = a.length := by simp [Str.length]
  show ((((a.cps.toList.drop 0).take (q + a.length - 0).toNat).toArray.size : Nat) : Int) = _
  rw [List.size_toArray, List.length_take, List.drop_zero, h2]
  omega
section
variable {prog : Program} {w : World} {A : Around} {E : Value → Shared → Prop} {s : Shared} {Q : Value → Shared → Prop} {h₀ : Heap} {L : Addr} {m : Str → Option Value} {news : List (Addr × Obj)} {value slice : Expr} {x : Str} {t : Tok}
theorem slice_neg {j : Int} {uj : Tok} (hF : Fr h₀ L s.heap m) (hN : News h₀ L s.heap news) (h0 : j < 0) (h1 : -(x.length : Int) ≤ j) (hx : x.length ≤ 100)
    (h : ∀ h' t' k, Fr h₀ L h' m → News h₀ L h' news → ((Txt.slice x none (some j)).length : Int) = x.length + j → Q (.str (Txt.slice x none (some j)) t') { s with heap := h', toks := k })
    (hs : subscripted slice false (.str x t) (.ref s.heap.objs.size) = operate [.ref s.heap.objs.size, .str x t] (getItem (.str x t) (.ref s.heap.objs.size)) := by with_unfolding_all rfl)
    (ht : ∀ r, letTemporaryGo value (.str x t) r = pure () := by intro _; with_unfolding_all rfl) :
    wpAny (model prog w) A (subscriptTail value slice (.str x t) (.ref s.heap.objs.size)) Q E { s with heap := s.heap.push { cls := .type "slice", data := .fields #[.none, .int j uj, .none] } } :=
  slice_strN_ns hF hN (fun h' t' k a b => h h' t' k a b (len_neg h0 h1)) hs ht (by rw [sizeLine_eq]; omega)
theorem item9 {i : Int} {u : Tok} (h1 : -(x.length : Int) ≤ i) (h2 : i < x.length) (hx : x.length ≤ 100) (h : (1 ≤ (Txt.item x i).length ∧ (Txt.item x i).length ≤ 1) → Q (.str (Txt.item x i) s.toks) { s with toks := s.toks + 1 })
    (hs : subscripted slice false (.str x t) (.int i u) = operate [.str x t, .int i u] (getItem (.str x t) (.int i u)) := by with_unfolding_all rfl)
    (ht : ∀ r, letTemporaryGo value (.str x t) r = pure () := by intro _; with_unfolding_all rfl) :
    wpAny (model prog w) A (subscriptTail value slice (.str x t) (.int i u)) Q E s :=
  item_str (fitsSsize_of (N := 9223372036854775808) (by omega) (by omega) (Int.le_refl _)) h1 h2 h hs ht
end
theorem slice_all (x : Str) : Txt.slice x none none = x := by
  unfold Txt.slice
  rw [if_pos]
  have : (PySem.Builtin.Str.strSliceIndices none none 1 x.length).length = x.length := by
    unfold PySem.Builtin.Str.strSliceIndices PySem.sliceRange
    simp only [show (1 : Int) > 0 by decide, if_true, List.length_map, List.length_range]
    split <;> omega
  simp [this]
section
variable {prog : Program} {w : World} {A : Around} {E : Value → Shared → Prop} {s : Shared} {Q : Value → Shared → Prop} {h₀ : Heap} {L : Addr} {m : Str → Option Value} {news : List (Addr × Obj)} {value slice : Expr} {x : Str} {t : Tok}
theorem slice_full (hF : Fr h₀ L s.heap m) (hN : News h₀ L s.heap news) (hx : x.length ≤ 100)
    (h : ∀ h' t' k, Fr h₀ L h' m → News h₀ L h' news → Q (.str x t') { s with heap := h', toks := k })
    (hs : subscripted slice false (.str x t) (.ref s.heap.objs.size) = operate [.ref s.heap.objs.size, .str x t] (getItem (.str x t) (.ref s.heap.objs.size)) := by with_unfolding_all rfl)
    (ht : ∀ r, letTemporaryGo value (.str x t) r = pure () := by intro _; with_unfolding_all rfl) :
    wpAny (model prog w) A (subscriptTail value slice (.str x t) (.ref s.heap.objs.size)) Q E { s with heap := s.heap.push { cls := .type "slice", data := .fields #[.none, .none, .none] } } :=
  slice_strN_nn hF hN (fun h' t' k a b => by rw [slice_all]; exact h h' t' k a b) hs ht (by rw [sizeLine_eq]; omega)
end
theorem lcp_bound' (x y : Str) : 0 ≤ lcpS x y ∧ lcpS x y ≤ x.length ∧ lcpS x y ≤ y.length := by
  have key : ∀ (k : Nat) (p : Int), 0 ≤ p → p ≤ x.length → p ≤ y.length → 0 ≤ lcpF x y k p ∧ lcpF x y k p ≤ x.length ∧ lcpF x y k p ≤ y.length := by
    intro k
    induction k with
    | zero => intro p a b c; exact ⟨a, b, c⟩
    | succ k ih =>
      intro p a b c
      rw [lcpF]
      split
      · rename_i h; exact ih (p + 1) (by omega) (by omega) (by omega)
      · exact ⟨a, b, c⟩
  exact key 200 0 (by omega) (by omega) (by omega)
theorem lcs_bound' (x y : Str) : lcsS x y ≤ 0 ∧ -lcsS x y ≤ x.length ∧ -lcsS x y ≤ y.length := by
  have key : ∀ (k : Nat) (q : Int), q ≤ 0 → -q ≤ x.length → -q ≤ y.length → lcsF x y k q ≤ 0 ∧ -lcsF x y k q ≤ x.length ∧ -lcsF x y k q ≤ y.length := by
    intro k
    induction k with
    | zero => intro p a b c; exact ⟨a, b, c⟩
    | succ k ih =>
      intro p a b c
      rw [lcsF]
      split
      · rename_i h; exact ih (p - 1) (by omega) (by omega) (by omega)
      · exact ⟨a, b, c⟩
  exact key 200 0 (by omega) (by omega) (by omega)
/-- the head s[:q or None], q nought or below -/
def cutS (s : Str) (q : Int) : Str := if q = 0 then s else Txt.slice s none (some q)
theorem cut_len {s : Str} {q : Int} (h0 : q ≤ 0) (h1 : -q ≤ s.length) : ((cutS s q).length : Int) = s.length + q := by
  unfold cutS
  split
  · omega
  · rw [len_neg (by omega) (by omega)]
theorem len_from {a : Str} {p : Int} (h0 : 0 ≤ p) (h1 : p ≤ a.length) : ((Txt.slice a (some p) none).length : Int) = a.length - p := by
  have e : Txt.slice a (some p) none = StrLaws.sliceText a (some p) none := rfl
  have h2 : a.cps.toList.length = a.length := by simp [Str.length]
  rw [e, StrLaws.sliceText_from ⟨h0, by rw [h2]; omega⟩]
  show ((((a.cps.toList.drop p.toNat).take _).toArray.size : Nat) : Int) = _
  rw [List.size_toArray, List.length_take, List.length_drop, h2]
  omega
theorem cut2 {M : Model} {A : Around} {E : Value → Shared → Prop} {Q : Flow → Shared → Prop} {s : Shared} {st1 st2 : Stmt} {rest : List Stmt} {env : Env} (EC : Shared → Prop)
    (h1 : wpAny M A (exec st1 env) (fun f s' => match f with | .next => wpAny M A (exec st2 env) (fun f s'' => f = .next ∧ EC s'') E s' | _ => False) E s)
    (h2 : ∀ s'', EC s'' → wpAny M A (execs rest env) Q E s'') : wpAny M A (execs (st1 :: st2 :: rest) env) Q E s := by
  refine wpAny_execs_cons (wpAny_mono h1 (fun f s' q => ?_) fun _ _ e => e)
  cases f with
  | next =>
    refine wpAny_execs_cons (wpAny_mono q (fun f s'' r => ?_) fun _ _ e => e)
    obtain ⟨rfl, r⟩ := r
    exact h2 s'' r
  | _ => exact q.elim
def EndAB (g : Heap) (L : Addr) (m₁ : Str → Option Value) (a b : Str) (s s'' : Shared) : Prop :=
  ∃ ta tb h tk, s'' = { s with heap := h, toks := tk } ∧ Fr g L h (fun z => if z = Str.ofString "b" then some (.str b tb) else if z = Str.ofString "a" then some (.str a ta) else m₁ z) ∧ News g L h []
theorem endAB {g : Heap} {L : Addr} {m₁ : Str → Option Value} {a b a' b' : Str} {ta tb : Tok} {s : Shared} {h : Heap} {tk : Nat} (F : Fr g L h (fun z => if z = Str.ofString "b" then some (.str b' tb) else if z = Str.ofString "a" then some (.str a' ta) else m₁ z)) (N : News g L h []) (ea : a' = a) (eb : b' = b) : EndAB g L m₁ a b s { s with heap := h, toks := tk } := by
  subst ea eb
  exact ⟨ta, tb, h, tk, rfl, F, N⟩
theorem cutAB {M : Model} {A : Around} {E : Value → Shared → Prop} {Q : Flow → Shared → Prop} {s₀ : Shared} {h : Heap} {tk : Nat} {st1 st2 : Stmt} {rest : List Stmt} {env : Env} {g : Heap} {L : Addr} {m₁ : Str → Option Value} (a b : Str) (_F : Fr g L h m₁)
    (h1 : wpAny M A (exec st1 env) (fun f s' => match f with | .next => wpAny M A (exec st2 env) (fun f s'' => f = .next ∧ EndAB g L m₁ a b s₀ s'') E s' | _ => False) E { s₀ with heap := h, toks := tk })
    (h2 : ∀ ta tb h tk, Fr g L h (fun z => if z = Str.ofString "b" then some (.str b tb) else if z = Str.ofString "a" then some (.str a ta) else m₁ z) → News g L h [] → wpAny M A (execs rest env) Q E { s₀ with heap := h, toks := tk }) :
    wpAny M A (execs (st1 :: st2 :: rest) env) Q E { s₀ with heap := h, toks := tk } :=
  cut2 _ h1 (by rintro s'' ⟨ta, tb, h, tk, rfl, F, N⟩; exact h2 ta tb h tk F N)
def levA (x y : Str) : Str := cutS (Txt.slice x (some (lcpS x y)) none) (lcsS (Txt.slice x (some (lcpS x y)) none) (Txt.slice y (some (lcpS x y)) none))
def levB (x y : Str) : Str := cutS (Txt.slice y (some (lcpS x y)) none) (lcsS (Txt.slice x (some (lcpS x y)) none) (Txt.slice y (some (lcpS x y)) none))
def levT (a b : Str) : Int := if a.length = 0 ∨ b.length = 0 then 2 * (a.length + b.length) else (rowS a b b.length).1
def levS (x y : Str) : Int := if (x == y) = true then 0 else levT (levA x y) (levB x y)
theorem lev_same {x y : Str} (h : (x == y) = true) : (0 : Int) = levS x y := by unfold levS; rw [if_pos h]
theorem lev_two {x y : Str} (h : (x == y) = false) (e : (levA x y).length = 0 ∨ (levB x y).length = 0) : 2 * (((levA x y).length : Int) + (levB x y).length) = levS x y := by
  unfold levS
  rw [if_neg (by rw [h]; decide)]
  unfold levT
  rw [if_pos e]
theorem lev_row {x y : Str} (h : (x == y) = false) (e : ¬ ((levA x y).length = 0 ∨ (levB x y).length = 0)) : (rowS (levA x y) (levB x y) (levB x y).length).1 = levS x y := by
  unfold levS
  rw [if_neg (by rw [h]; decide)]
  unfold levT
  rw [if_neg e]
theorem t_lev (w : World) (x y : Str) (t u v : Tok) (m : Int) (hx : x.length ≤ 40) (hy : y.length ≤ 40) (hxy : x.length ≤ y.length) (hok : ¬ ((levA x y).length = 0 ∨ (levB x y).length = 0) → rowsOk (levA x y) (levB x y) m) (hgap : ((levB x y).length : Int) - (levA x y).length ≤ m - ((levB x y).length - (levA x y).length)) : Ct w 143 [.str x t, .str y u, .int m v] 3 40 noPre (isInt (levS x y)) := by
  unfold Ct
  k_fill
  intro p loose mean mg mb dp un gd outer A₀ base g s R B X T kp sz hp hd hu ret
  k_dflt (refine' enterC ?k1 ?k2 ?k3 ?k4 ?k6 ?k7 ?k8 ?k9 ?kB ?c5 ?c2 ?c3 ?c4 ?kR; (case k1 => assumption); (case k2 => assumption); (case k3 => assumption); (case k4 => assumption); (case k6 => k_is); (case k7 => k_is); (case k8 => omega); (case k9 => exact BindsTo.of_eq rfl); (case kB => exact locs rfl); (case c5 => decide); (case c2 => exact rfl); (case c3 => exact rfl); (case c4 => exact rfl))
  k_whole
  intro L' h₁ F' hL hk₁
  dsimp only
  k_fold
  have N' : PyProof.Rows.News g L' h₁ [] := PyProof.Rows.News.nil
  k_with_none
  (k_with "exec While BoolOp cons nil" => refine stop_in ?_)
  (k_with "exec While BoolOp cons nil" => ((with_reducible rename Fr _ _ _ _ => F9); (with_reducible rename News _ _ _ _ => N9); k_dflt (refine' while1 (nm := Str.ofString "pre") (fun p => 0 ≤ p ∧ p ≤ (x.length : Int) ∧ p ≤ (y.length : Int) ∧ LcpP x y p) (lcpS x y) (fun p => (100 - p).toNat) F9 N9 ?ze ⟨by omega, by omega, by omega, lcp_start x y⟩ ?_ ?_ ?zp; (case ze => exact rfl); (case zp => passes_own); (all_goals (try clear F9 N9)))))
  (k_with "call ref" => (k_here; k_dflt (refine' useC (t_subst _ _ _ _ _ ?zx ?zy) ?B ?F ?X ?N ?T ?hA ?hf ?hke ?hp ?hd ?hu ?_; (case zx => omega); (case zy => omega)); (case B => assumption); (case F => k_asm); (case X => assumption); (case N => k_asm); (case T => assumption); (case hA => exact rfl); (case hf => exact rfl); (case hke => exact rfl); (case hp => first | exact trivial | exact wsAt_keep (by assumption) (Fr.keep (by k_asm))); (case hd => ((try dsimp only [arC]); omega)); (case hu => (have hcL9 := cLine_is; (try dsimp only [arC]); omega)); intro v' h' tk' F' N' kp' sz' q'; obtain ⟨t', q'⟩ := q'; subst q'; (try k_sweep); clear kp' sz'))
  k_steps
  all_goals (try k_data)
  all_goals (first
    | (k_dflt (refine' post1_intro ?zF ?zN ?z1 ?z2 ?z3 ?z4; (case zF => k_asm); (case zN => k_asm); (case z1 => exact rfl); (case z2 => exact ⟨by omega, by omega, by omega, lcp_step (by omega) (by assumption) (by omega) (by omega) (by assumption)⟩); (case z3 => ((try dsimp only); omega)); (case z4 => (intro z a1; simp only [if_neg a1]))))
    | (k_dflt (refine' end1_intro ?zF ?zN ?z1; (case zF => k_asm); (case zN => k_asm); (case z1 => first | exact lcp_stop (by omega) (by assumption) (.inr (.inr (by assumption))) | exact lcp_stop (by omega) (by assumption) (.inl (by omega)) | exact lcp_stop (by omega) (by assumption) (.inr (.inl (by omega))))))
    | exact back (s := s) ret (by assumption) hL (isInt_of (lev_same (by assumption)))
    | skip)
  unfold Stop
  ((with_reducible rename Fr _ _ _ _ => F9); (with_reducible rename News _ _ _ _ => N9); k_dflt (refine' while1 (nm := Str.ofString "post") (fun q => q ≤ 0 ∧ -q ≤ ((Txt.slice x (some (lcpS x y)) none).length : Int) ∧ -q ≤ ((Txt.slice y (some (lcpS x y)) none).length : Int) ∧ LcsP (Txt.slice x (some (lcpS x y)) none) (Txt.slice y (some (lcpS x y)) none) q) (lcsS (Txt.slice x (some (lcpS x y)) none) (Txt.slice y (some (lcpS x y)) none)) (fun q => (100 + q).toNat) F9 N9 ?ze ⟨by omega, by omega, by omega, lcs_start _ _⟩ ?_ ?_ ?zp; (case ze => exact rfl); (case zp => passes_own); (all_goals (try clear F9 N9))))
  · k_with_none
    (k_with "subscriptTail Name Slice str ref" => (k_dflt (refine' slice_neg (s := ⟨_, _, _, _, _⟩) ?zF ?zN ?z0 ?z1 ?z2 ?_ ?zs ?zt; (case zF => k_asm); (case zN => k_asm); (case z0 => omega); (case z1 => omega); (case z2 => omega); (case zs => with_unfolding_all rfl); (case zt => (intro _; with_unfolding_all rfl))); intro h' t' k' F' N' zlen))
    (k_with "subscriptTail Name Slice str ref" => (k_dflt (refine' slice_full (s := ⟨_, _, _, _, _⟩) ?zF ?zN ?z2 ?_ ?zs ?zt; (case zF => k_asm); (case zN => k_asm); (case z2 => omega); (case zs => with_unfolding_all rfl); (case zt => (intro _; with_unfolding_all rfl))); intro h' t' k' F' N'))
    (k_with "subscriptTail Name BinOp str int" => (k_dflt (refine' item9 ?z0 ?z1 ?z2 ?_ ?zs ?zt; (case z0 => omega); (case z1 => omega); (case z2 => omega); (case zs => with_unfolding_all rfl); (case zt => (intro _; with_unfolding_all rfl)))))
    k_steps
    all_goals (try k_data)
    all_goals (first
      | (k_dflt (refine' post1_intro ?zF ?zN ?z1 ?z2 ?z3 ?z4; (case zF => k_asm); (case zN => k_asm); (case z1 => exact rfl); (case z2 => exact ⟨by omega, by omega, by omega, lcs_step (by omega) (by assumption) (by omega) (by omega) (by assumption)⟩); (case z3 => ((try dsimp only); omega)); (case z4 => (intro z a1; simp only [if_neg a1]))))
      | (k_dflt (refine' end1_intro ?zF ?zN ?z1; (case zF => k_asm); (case zN => k_asm); (case z1 => first | exact lcs_stop (by omega) (by assumption) (.inr (.inr (by assumption))) | exact lcs_stop (by omega) (by assumption) (.inl (by omega)) | exact lcs_stop (by omega) (by assumption) (.inr (.inl (by omega))))))
      | (exfalso; omega)
      | skip)
  · have b1 := lcp_bound' x y
    have b2 := lcs_bound' (Txt.slice x (some (lcpS x y)) none) (Txt.slice y (some (lcpS x y)) none)
    intro t9 h9 tk9 F9 N9
    dsimp only
    refine cutAB (s₀ := s) (cutS (Txt.slice x (some (lcpS x y)) none) (lcsS (Txt.slice x (some (lcpS x y)) none) (Txt.slice y (some (lcpS x y)) none))) (cutS (Txt.slice y (some (lcpS x y)) none) (lcsS (Txt.slice x (some (lcpS x y)) none) (Txt.slice y (some (lcpS x y)) none))) F9 ?_ ?_
    · k_with_none
      (k_with "subscriptTail Name Slice str ref" => (k_dflt (refine' slice_neg (s := ⟨_, _, _, _, _⟩) ?zF ?zN ?z0 ?z1 ?z2 ?_ ?zs ?zt; (case zF => k_asm); (case zN => k_asm); (case z0 => omega); (case z1 => omega); (case z2 => omega); (case zs => with_unfolding_all rfl); (case zt => (intro _; with_unfolding_all rfl))); intro h' t' k' F' N' zlen))
      (k_with "subscriptTail Name Slice str ref" => (k_dflt (refine' slice_full (s := ⟨_, _, _, _, _⟩) ?zF ?zN ?z2 ?_ ?zs ?zt; (case zF => k_asm); (case zN => k_asm); (case z2 => omega); (case zs => with_unfolding_all rfl); (case zt => (intro _; with_unfolding_all rfl))); intro h' t' k' F' N'))
      k_steps
      all_goals (try k_data)
      all_goals (first
        | (k_dflt (refine' endAB ?zF ?zN ?z1 ?z2; (case zF => k_asm); (case zN => k_asm); (case z1 => (unfold cutS; first | rw [if_pos (by omega)] | rw [if_neg (by omega)])); (case z2 => (unfold cutS; first | rw [if_pos (by omega)] | rw [if_neg (by omega)]))))
        | (exfalso; omega)
        | skip)
    · have c1 : ((levA x y).length : Int) = _ := cut_len b2.1 b2.2.1
      have c2 : ((levB x y).length : Int) = _ := cut_len b2.1 b2.2.2
      have c3 := Txt.slice_le x (some (lcpS x y)) none
      have c4 := Txt.slice_le y (some (lcpS x y)) none
      have c5 := len_from b1.1 b1.2.1
      have c6 := len_from b1.1 b1.2.2
      have d1 : (levA x y).length ≤ 40 := by omega
      have d2 : (levB x y).length ≤ 40 := by omega
      have d3 : (levA x y).length ≤ (levB x y).length := by omega
      have hgap' : (((levB x y).length : Int) - (levA x y).length) * 2 ≤ m := by omega
      have w1 : ((levA x y).length = 0 ∨ (levB x y).length = 0) → 2 * (((levA x y).length : Int) + (levB x y).length) = levS x y := fun e => lev_two (by assumption) e
      have w2 : ¬ ((levA x y).length = 0 ∨ (levB x y).length = 0) → (rowS (levA x y) (levB x y) (levB x y).length).1 = levS x y := fun e => lev_row (by assumption) e
      clear hgap c1 c2 c3 c4 c5 c6 b1 b2
      show ∀ ta tb h tk, Fr g L' h (fun z => if z = Str.ofString "b" then some (.str (levB x y) tb) else if z = Str.ofString "a" then some (.str (levA x y) ta) else _) → _
      revert hok d1 d2 d3 hgap' w1 w2
      generalize levA x y = a2
      generalize levB x y = b2
      intro hok d1 d2 d3 hgap' w1 w2
      intro ta tb h9 tk9 F9 N9
      k_with_none
      (k_with "call type:list" => ((with_reducible rename IsRange _ _ _ _ _ _ _ _ => rgX); k_dflt (refine' list_row (n := a2.length) rfl ?zF ?zN rgX ?z1 ?z2 ?_; (case zF => k_asm); (case zN => k_asm); (case z1 => omega); (case z2 => omega)); intro D' vs' k' h' tk' F' N' l1 hrow; (try k_lt l1); (try k_sweep)))
      (k_with "pyIter ref" => ((with_reducible rename IsRange _ _ _ _ _ _ _ _ => rgX); k_dflt (refine' out_loop m (hok (by omega)) rfl rgX ?z1 ?z2 ?zF ?zN ?zv ?z3 ?z4 ?z5 ?z6 ?_ ?_; (case zF => k_asm); (case zN => exact List.forall_mem_cons.mpr ⟨(by k_asm : PyProof.Rows.News _ _ _ _) _ (by k_mem), List.forall_mem_nil _⟩); (case zv => assumption); (case z4 => exact rfl); (case z5 => exact rfl); (case z6 => exact rfl); (case z3 => exact rfl); (case z1 => exact rfl); (case z2 => omega))))
      (k_with "pyIter ref" => ((with_reducible rename IsRange _ _ _ _ _ _ _ _ => rgX); k_dflt (refine' in_loop (n := a2.length) rfl rgX ?z1 ?z2 ?zF ?zN ?zv ?z3 ?z4 ?z5 ?z6 ?z7 ?_ ?_; (case zF => k_asm); (case zN => exact List.forall_mem_cons.mpr ⟨(by k_asm : PyProof.Rows.News _ _ _ _) _ (by k_mem), List.forall_mem_cons.mpr ⟨(by k_asm : PyProof.Rows.News _ _ _ _) _ (by k_mem), List.forall_mem_nil _⟩⟩); (case zv => assumption); (case z3 => exact rfl); (case z4 => exact rfl); (case z5 => exact rfl); (case z6 => exact rfl); (case z7 => exact rfl); (case z1 => exact rfl); (case z2 => omega))))
      (k_with "call ref" => (k_here; k_dflt (refine' useC (t_subst _ _ _ _ _ ?zx ?zy) ?B ?F ?X ?N ?T ?hA ?hf ?hke ?hp ?hd ?hu ?_; (case zx => omega); (case zy => omega)); (case B => assumption); (case F => k_asm); (case X => assumption); (case N => k_asm); (case T => assumption); (case hA => exact rfl); (case hf => exact rfl); (case hke => exact rfl); (case hp => first | exact trivial | exact wsAt_keep (by assumption) (Fr.keep (by k_asm))); (case hd => ((try dsimp only [arC]); omega)); (case hu => (have hcL9 := cLine_is; (try dsimp only [arC]); omega)); intro v' h' tk' F' N' kp' sz' q'; obtain ⟨t', q'⟩ := q'; subst q'; (try k_sweep); clear kp' sz'))
      k_steps
      all_goals (try k_data)
      all_goals (first
        | ((with_reducible show PostI _ _ (JIn _ _ _ _ _ _ _ _ _) _ _ _ _ _ _); k_dflt (refine' in_end ?zF ?zN ?zx ?zD ?zI ?zJ ?zn ?zo ?zv ?zs ?zd ?zr ?zm ?z1 ?z2 ?z3 ?z5; (case zF => k_asm); (case zN => k_asm); (case z1 => exact rfl); (case z2 => exact rfl); (case z3 => exact rfl); (case zx => assumption); (case zD => k_mem); (case zI => k_mem); (case zJ => k_mem); (case zn => omega); (case zo => omega); (case zv => assumption); (case zs => exact rfl); (case zd => exact rfl); (case zr => ((repeat' split) <;> omega)); (case zm => first | exact (if_pos (by omega)).symm | exact (if_neg (by omega)).symm); (case z5 => (intro z a1 a2 a3 a4 a5 a6; simp only [if_neg a1, if_neg a2, if_neg a3, if_neg a4, if_neg a5, if_neg a6]))))
        | ((with_reducible show PostI _ _ (JOut _ _ _ _ _) _ _ _ _ _ _); k_dflt (refine' out_end ?zF ?zN ?zD ?zI ?zn ?zv ?z2 ?z5; (case zF => k_asm); (case zN => k_asm); (case z2 => exact rfl); (case zD => k_mem); (case zI => k_mem); (case zn => omega); (case zv => assumption); (case z5 => (intro z a1; obtain ⟨a1, a2, a3, a4, a5, a6, a7, a8⟩ := a1; simp only [outMap, if_neg a1, if_neg a2, if_neg a3, if_neg a4, if_neg a5, if_neg a6, if_neg a7, if_neg a8]))))
        | exact back (s := s) ret (by assumption) hL (isInt_of (w1 (by omega)))
        | exact back (s := s) ret (by assumption) hL (isInt_of (w2 (by omega)))
        | skip)
end
section
theorem flush_Bg : (1 : Nat) = 1 := by
  w_top off
  k_with_none
  first | walk1 | rfl
/-- a contract of a def that may make generators: those that stand are bare -/
def CtG (w : World) (f : Addr) (args : List Value) (dn cu : Nat) (pre : Heap → Heap → Prop) (post : Heap → Heap → Heap → Value → Prop) : Prop :=
  ∀ (p : Program) (loose : List Str) (mean : ExcName → Option Value) (mg mb : Str → Option Value) (dp un : Nat) (gd : Option (List Code)) (outer : List Env) (A₀ : Around) (base g : Heap) (s : Shared) (R : Result → Shared → Prop),
    Below A₀ base outer g → (Mine.hd.heap_1 w.params).In g → Top p loose mean mg mb g → (∀ b o, g.get? b = some o → s.heap.get? b = some o) → g.objs.size ≤ s.heap.objs.size → AllBare s.gens → pre g s.heap → dp + dn < recursionLimit → un + cu < cLine →
    (∀ v h' tk' gs', AllBare gs' → (∀ b o, g.get? b = some o → h'.get? b = some o) → s.heap.objs.size ≤ h'.objs.size → post g s.heap h' v → R (.ok (.ret v)) { s with heap := h', toks := tk', gens := gs' }) →
    codeAny (model PySem.Challenge.rw_pe0269_01.row.prog w) (arC dp un gd outer) (.call (.ref f) ⟨args, []⟩) R s
theorem backG {g h' : Heap} {L : Addr} {m : Str → Option Value} {v : Value} {s : Shared} {tk' : Nat} {gs' : Array GenState} {post : Heap → Heap → Heap → Value → Prop} {R : Result → Shared → Prop}
    (ret : ∀ v h' tk' gs', AllBare gs' → (∀ b o, g.get? b = some o → h'.get? b = some o) → s.heap.objs.size ≤ h'.objs.size → post g s.heap h' v → R (.ok (.ret v)) { s with heap := h', toks := tk', gens := gs' }) (hg : AllBare gs') (F : Fr g L h' m) (hL : s.heap.objs.size ≤ L) (q : post g s.heap h' v) :
    R (.ok (.ret v)) { s with heap := h', toks := tk', gens := gs' } :=
  ret v h' tk' gs' hg F.keep (by obtain ⟨o, _, _, e, _⟩ := F.ns; exact Nat.le_trans hL (Nat.le_of_lt (Heap.lt_size e))) q
/-- the table of a def's own code, that holds at most the one triple at pos -/
def TabP (P : Addr) (pos : Pos) (h : Heap) : Prop := ∃ ps, h.get? P = some (tabObj ps) ∧ (ps = #[] ∨ ∃ c' : Addr, ps = #[rawInt pos.line, rawInt pos.col, .ref c'])
theorem codeHd_of {K : Frag} {g : Heap} {c P : Addr} {oc : Obj} {vs : Array Value} {file : Str} {tf tg tt : Tok} {flags text : Int} {inF : Bool} (X : K.In g) (e : K.lookup c = some oc) (h1 : oc.cls = .type "code") (h2 : oc.data = .fields vs) (h3 : vs[11]? = some (.ref P)) (h4 : vs.getD 11 .none = .ref P) (h5 : vs.getD 18 .none = .str file tf)
    (h6 : vs.getD 7 .none = .int flags tg) (h7 : vs.getD 9 .none = .bool inF) (h8 : vs.getD 10 .none = .int text tt) (h9 : c ≠ P) : CodeHd g c P := ⟨oc, vs, file, tf, flags, tg, inF, text, tt, X _ _ e, h1, h2, h3, h4, h5, h6, h7, h8, h9⟩
theorem codeHd_fmt {w : World} {g : Heap} (X : (Mine.hd.heap_1 w.params).In g) : CodeHd g 128 124 := by
  refine codeHd_of X (c := 128) (P := 124) (by with_unfolding_all rfl) rfl rfl rfl rfl rfl rfl rfl rfl (by decide)
end
section
theorem flush_Fm : (1 : Nat) = 1 := by
  w_top off
  k_with_none
  first | walk1 | rfl
def txt (i : Int) : Str := Str.ofString (toString i)
theorem trip_get {h : Heap} {vs : List Value} {l : List (Int × Int × Int)} (q : Trip h vs l) : ∀ (i : Nat) (v : Value), vs[i]? = some v → ∃ a t ti tj tk, v = .ref a ∧ l[i]? = some t ∧ IsTup h a #[.int t.1 ti, .int t.2.1 tj, .int t.2.2 tk] := by
  induction q with
  | nil => intro i v h; simp at h
  | @cons a i j k ti tj tk vs l ht _ ih =>
    intro n v hv
    cases n with
    | zero => simp at hv; subst hv; exact ⟨a, (i, j, k), ti, tj, tk, rfl, rfl, ht⟩
    | succ n => exact ih n v (by simpa using hv)
theorem trip_len {h : Heap} {vs : List Value} {l : List (Int × Int × Int)} (q : Trip h vs l) : vs.length = l.length := by
  induction q with
  | nil => rfl
  | cons _ _ ih => simp [ih]
theorem Trip.keeps {h h' : Heap} {vs : List Value} {l : List (Int × Int × Int)} (q : Trip h vs l) (k : ∀ b o, h.get? b = some o → h'.get? b = some o) : Trip h' vs l := by
  induction q with
  | nil => exact .nil
  | cons ht _ ih => exact .cons (IsTup.keeps ht k) ih
section
variable {prog : Program} {w : World}
theorem quiet_str {cenv : Env} {g href : Heap} {mg mb : Str → Option Value} {fp wr : List Addr} {vs : List Value} {l : List (Int × Int × Int)} {p1 p2 p3 p4 p5 : Pos} {kc : Nat}
    (hk : cenv.scope.kind = .function) (hl : cenv.kindOf (Str.ofString "tup") = some .local) (hx : cenv.kindOf (Str.ofString "str") = some .globalImplicit) (hgl : cenv.globals = mainGlobals) (hbl : cenv.builtins = builtinsNs)
    (G : g.Ns mainGlobals mg) (Bn : g.Ns builtinsNs mb) (e1 : mg (Str.ofString "str") = none) (e2 : mb (Str.ofString "str") = some (.type "str"))
    (ht : Trip g vs l) (hb : ∀ t ∈ l, 0 ≤ t.1 ∧ t.1 < 1000) (hfp : ∀ b o, g.get? b = some o → b ∈ fp ∧ b ∉ wr ∧ href.get? b = some o) :
    QuietGen prog w cenv (Str.ofString "tup") [] (.Call (.Name (Str.ofString "str") p1) [.Subscript (.Name (Str.ofString "tup") p2) (.Constant (.int 0) kc p3) p4] [] p5) fp wr (fun i v => vs[i]? = some v) (fun _ => true)
      (fun i v => ∃ t, v = .str (txt ((l.getD i (0, 0, 0)).1)) t) href where
  tests := fun A' E' i v s₂ m₂ _ _ _ _ _ => wpAny_pure ⟨rfl, s₂.heap, s₂.toks, rfl, fun _ _ e => e⟩
  elt := fun A' E' i v s₂ m₂ _ hv _ hn hm hkp => by
    have kp : ∀ b o, g.get? b = some o → s₂.heap.get? b = some o := fun b o e => let ⟨x, y, z⟩ := hfp b o e; hkp b x y o z
    obtain ⟨a, t, ti, tj, tk, rfl, hi, hT⟩ := trip_get ht i v hv
    have hbt := hb t (List.mem_of_getElem? hi)
    refine Call_ (Calls.Name_function_global hk hx (Calls.loadGlobal_builtin (by rw [hgl]; exact G.keeps kp) e1 (by rw [hbl]; exact Bn.keeps kp) e2 ?_))
    refine PyProof.Rows.callWith_type1 (args_cons (Subscript_ (wpAny_Name (wpAny_loadName_local hk hl hn hm (wpAny_Constant_int ?_)))))
    refine item_tupleT (l := [.int t.1 ti, .int t.2.1 tj, .int t.2.2 tk]) (j := 0) (IsTup.keeps hT kp) (by decide) (by decide) rfl rfl (args_nil (P.str_of_int (shown (N := 2 ^ 1920) ?_ ?_ (Int.le_refl _)) ?_))
    · have : (0 : Int) < 2 ^ 1920 := by decide +kernel
      omega
    · have : (1000 : Int) < 2 ^ 1920 := by decide +kernel
      omega
    · refine ⟨⟨_, congrArg (fun z : Int => Value.str (txt z) _) (show t.1 = (l.getD i (0, 0, 0)).1 from ?_)⟩, s₂.heap, _, rfl, fun _ _ e => e⟩
      rw [List.getD_eq_getElem?_getD, hi]
      rfl
end
/-- the generator made, ready to be run at a later state -/
def GenR (prog : Program) (w : World) (A : Around) (aG C I : Addr) (l : List (Int × Int × Int)) (s : Shared) : Prop :=
  ∃ fp St gi, WalksS prog w A.in4 aG fp [C, I] (GenOnlyQ gi) l.length (fun j y => ∃ i, (List.range l.length)[j]? = some i ∧ ∃ t, y = .str (txt ((l.getD i (0, 0, 0)).1)) t) St ∧ St 0 s ∧ (∀ i s', St i s' → s'.TypeIs (.ref aG) "generator") ∧ aG ∈ fp ∧ ∀ b ∈ fp, b < s.heap.objs.size
theorem passing_all (n : Nat) : passing (fun _ => true) n 0 = List.range n := by
  unfold passing; simp
abbrev gScope : Scope := { kind := .function, names := [(Str.ofString ".0", .local), (Str.ofString "tup", .local), (Str.ofString "str", .globalImplicit)], isGenerator := true, isCoroutine := false }
abbrev gElt (p1 p2 p3 p4 p5 : Pos) (kc : Nat) : Expr := .Call (.Name (Str.ofString "str") p1) [.Subscript (.Name (Str.ofString "tup") p2) (.Constant (.int 0) kc p3) p4] [] p5
section
variable {prog : Program} {w : World} {A : Around} {E : Value → Shared → Prop} {s : Shared}
theorem walks_one {A' : Around} {I r : Addr} {vs : List Value} {fp0 : List Addr} (hA : A'.handled = none) (hne : r ≠ I) (h1 : I ∈ fp0) (h2 : r ∈ fp0) :
    Walks prog w A' I fp0 [I] vs.toArray.size (fun i v => vs[i]? = some v) (fun i h => h.IsListIter I r i ∧ h.IsList r vs.toArray) := by
  have W := Walks.list (prog := prog) (w := w) hA I r hne vs.toArray
  have W2 := W.mono_fp (fp' := fp0) fun b hb => by
    rcases List.mem_cons.mp hb with rfl | hb
    · exact h1
    · rw [List.mem_singleton.mp hb]; exact h2
  simpa using W2
end

section
variable {prog : Program} {w : World} {A : Around} {E : Value → Shared → Prop} {s : Shared}
theorem fmt_gen {g : Heap} {cn : Str} {cs : Scope} {L a : Addr} {ccd : Value} {m mg mb : Str → Option Value} {p : Program} {loose : List Str} {mean : ExcName → Option Value} {ps : Array Value} {P c r : Addr} {vs : List Value} {n : Nat} {l : List (Int × Int × Int)} {p1 p2 p3 p4 p5 px pw pos : Pos} {kc : Nat} {Q : Value → Shared → Prop}
    (hh : A.handled = none) (hroom : A.depth < recursionLimit) (F : Fr g L s.heap m) (N : News g L s.heap [(P, tabObj ps)]) (T : Top p loose mean mg mb g) (e1 : mg (Str.ofString "str") = none) (e2 : mb (Str.ofString "str") = some (.type "str")) (C : CodeHd g c P) (hcode : ccd = .ref c)
    (hps : ps = #[] ∨ ∃ c', ps = #[rawInt pos.line, rawInt pos.col, .ref c']) (hk : cs.kind = .function) (hwk : (envOf cn cs L a ccd).kindOf (Str.ofString "w") = some .local) (hw : m (Str.ofString "w") = some (.ref r)) (hl : g.get? r = some (PySem.W.listOf vs.toArray n)) (ht : Trip g vs l) (hb : ∀ t ∈ l, 0 ≤ t.1 ∧ t.1 < 1000)
    (h : ∀ (aG C I c' : Addr) (oG oC oI : Obj) h' tk gs, Fr g L h' m → News g L h' [(aG, oG), (C, oC), (I, oI), (P, tabObj #[rawInt pos.line, rawInt pos.col, .ref c'])] → @LT.lt Nat _ L C → @LT.lt Nat _ L I → s.heap.objs.size ≤ h'.objs.size → gs.bare = true →
      (∀ s' : Shared, (∀ b o, g.get? b = some o → s'.heap.get? b = some o) → s'.heap.get? aG = some oG → s'.heap.get? C = some oC → s'.heap.get? I = some oI → s'.gens = s.gens.push gs → GenR prog w A aG C I l s') →
      Q (.ref aG) { s with heap := h', toks := tk, gens := s.gens.push gs }) :
    wpAny (model prog w) A (eval (.GeneratorExp (gElt p1 p2 p3 p4 p5 kc) [⟨.Name (Str.ofString "tup") px, .Name (Str.ofString "w") pw, [], 0⟩] gScope pos) (envOf cn cs L a ccd)) Q E s := by
  have hm := N _ (.head _)
  have hgs := T.g
  obtain ⟨bm, ob, b1, b2, b3, b4, b5, b6⟩ := T.bmain
  have hgP : mainGlobals ≠ P := fun q => by
    obtain ⟨o, es, ep, e, hd, _⟩ := hgs.keeps F.keep
    rw [q, hm.1] at e; cases e; cases hd
  have hcP : cStatics ≠ P := fun q => by
    obtain ⟨mc, x, _⟩ := T.nolimit
    obtain ⟨o, es, ep, e, hd, _⟩ := x.keeps F.keep
    rw [q, hm.1] at e; cases e; cases hd
  have hbP : bm ≠ P := fun q => by
    have e := F.keep _ _ b3
    rw [q, hm.1] at e; cases e; cases b4
  have hrP : r ≠ P := fun q => by
    have e := F.keep _ _ hl
    rw [q, hm.1] at e; cases e
  have old : ∀ b o, g.get? b = some o → b ≠ P := fun b o e q => by rw [q, hm.2.2] at e; cases e
  have hlt : ∀ b o, g.get? b = some o → b < L := fun b o e => Nat.lt_of_lt_of_le (Heap.lt_size e) F.above
  have hLs : L < s.heap.objs.size := F.ns.lt
  refine wpAny_GeneratorExp_make (cl := []) rfl (closureFor_none (by decide)) (by decide) (by decide) rfl hroom (wpAny_Name (wpAny_loadName_local hk hwk F.ns hw ?_)) (fun x => rfl)
  have hlS : s.heap.IsList r vs.toArray := ⟨_, F.keep _ _ hl, rfl, _, rfl⟩
  refine wpAny_pyIter_list hlS ⟨(T.nolimit.keeps F.keep).push _, ?_⟩
  generalize hI : s.heap.objs.size = I
  generalize hoI : ({ cls := .type "list_iterator", data := .fields #[.ref r, .int 0 0] } : Obj) = oI
  have gI : (s.heap.push oI).get? I = some oI := by rw [← hI, ← hoI]; exact Heap.get?_push_size _ rfl
  have sI : (s.heap.push oI).objs.size = I + 1 := by rw [Heap.size_push, hI]
  have kI : ∀ b o, s.heap.get? b = some o → (s.heap.push oI).get? b = some o := fun b o e => Heap.get?_push_of_some _ e
  have hLI : L < I := hI ▸ hLs
  have hIP : I ≠ P := by rw [← hI]; exact Nat.ne_of_gt (Heap.lt_size hm.1)
  have core : ∀ (c' : Addr) (h3 : Heap) (tk3 : Nat), Heap.ExtBut P (s.heap.push oI) h3 → (s.heap.push oI).objs.size ≤ h3.objs.size → h3.get? P = some (tabObj #[rawInt pos.line, rawInt pos.col, .ref c']) →
      wpAny (model prog w) A (builtinsFor (envOf cn cs L a ccd).globals (envOf cn cs L a ccd).builtins) (fun bi s₄ => ∀ h', h'.Ns s₄.heap.objs.size (fun y => if y = Str.ofString ".0" then some (.ref I) else none) → Heap.SameBut s₄.heap.objs.size (s₄.heap.push { cls := .type "frame", data := .dict #[] }) h' →
          Q (.ref h'.objs.size) { s₄ with
            gens := s₄.gens.push (.fresh (.compStart (.GeneratorExp (gElt p1 p2 p3 p4 p5 kc) [⟨.Name (Str.ofString "tup") px, .Name (Str.ofString "w") pw, [], 0⟩] gScope pos) 0 (.ref I) .none (genEnv gScope [] s₄.heap.objs.size (.ref c') bi (envOf cn cs L a ccd)))),
            toks := s₄.toks + 1 + 1 + 1,
            heap := h'.push { cls := .type "generator", data := .fields #[.int s₄.gens.size 0, .str "<genexpr>" (s₄.toks + 1), .str ((envOf cn cs L a ccd).qual ++ "<genexpr>") (s₄.toks + 1 + 1)] } }) E { s with heap := h3, toks := tk3 } := by
    intro c' h3 tk3 hx hsz hP3
    have k3 : ∀ b o, g.get? b = some o → h3.get? b = some o := fun b o e => hx b o (old b o e) (kI b o (F.keep b o e))
    refine wpAny_builtinsFor (hgs.keeps k3) b1 b2 (k3 _ _ b3) b4 b5 b6 ?_
    intro h' hn' hs'
    have hs1 : h'.objs.size = h3.objs.size + 1 := by rw [hs'.1, Heap.size_push]
    have keep' : ∀ b o, h3.get? b = some o → h'.get? b = some o := fun b o e => hs'.extBut b o (Nat.ne_of_lt (Heap.lt_size e)) (Heap.get?_push_of_some _ e)
    obtain ⟨oC, _, _, eC, _, _⟩ := id hn'
    generalize hoG : ({ cls := .type "generator", data := .fields #[.int s.gens.size 0, .str "<genexpr>" (tk3 + 1), .str ((envOf cn cs L a ccd).qual ++ "<genexpr>") (tk3 + 1 + 1)] } : Obj) = oG
    have hIlt : I < h3.objs.size := by rw [sI] at hsz; exact hsz
    have hLC : L < h3.objs.size := Nat.lt_trans hLI hIlt
    have hGC : h3.objs.size < h'.objs.size := by omega
    have hLG : L < h'.objs.size := Nat.lt_trans hLC hGC
    have kk : ∀ b o, h3.get? b = some o → (h'.push oG).get? b = some o := fun b o e => Heap.get?_push_of_some _ (keep' b o e)
    have fresh : ∀ b, L < b → g.get? b = none := fun b hb => Heap.get?_none_of_le (Nat.le_trans F.above (Nat.le_of_lt hb))
    have eG : (h'.push oG).get? h'.objs.size = some oG := by rw [← hoG]; exact Heap.get?_push_size _ rfl
    have eI3 : h3.get? I = some oI := hx I oI hIP gI
    have hLP : L ≠ P := hm.2.1.symm
    have F' : Fr g L (h'.push oG) m := ⟨by
        refine Heap.Ns.push ?_ _
        exact (((F.ns.keeps kI).extBut hx hLP).keeps keep'), fun b o e => kk b o (k3 b o e), F.above⟩
    refine h h'.objs.size h3.objs.size I c' oG oC oI _ _ _ F' ?_ hLC hLI ?_ rfl ?_
    · intro q hq
      simp only [List.mem_cons, List.not_mem_nil, or_false] at hq
      rcases hq with rfl | rfl | rfl | rfl
      · exact ⟨eG, Nat.ne_of_gt hLG, fresh _ hLG⟩
      · exact ⟨Heap.get?_push_of_some _ eC, Nat.ne_of_gt hLC, fresh _ hLC⟩
      · exact ⟨kk _ _ eI3, Nat.ne_of_gt hLI, fresh _ hLI⟩
      · exact ⟨kk _ _ hP3, hm.2.1, hm.2.2⟩
    · rw [Heap.size_push]; omega
    · intro s' kp hG hC hI' hgen
      obtain ⟨mc, hst1, hst2⟩ := T.nolimit
      have inG : ∀ b o, g.get? b = some o → b ∈ I :: (List.range L).filter fun b => (g.get? b).isSome := fun b o e =>
        List.mem_cons_of_mem _ (List.mem_filter.mpr ⟨List.mem_range.mpr (hlt b o e), by rw [e]; rfl⟩)
      have hrI : r ≠ I := Nat.ne_of_lt (Nat.lt_trans (hlt _ _ hl) hLI)
      have hcs : cStatics ∈ I :: (List.range L).filter fun b => (g.get? b).isSome := by
        obtain ⟨o, es, ep, e, _⟩ := hst1
        exact inG _ _ e
      have hcl : cStatics < L := by
        obtain ⟨o, es, ep, e, _⟩ := hst1
        exact hlt _ _ e
      have lim : s'.heap.NoLimit := ⟨mc, hst1.keeps kp, hst2⟩
      have W₀ : ∀ A' : Around, A'.handled = none → Walks prog w A' I (I :: (List.range L).filter fun b => (g.get? b).isSome) [I] vs.toArray.size (fun i v => vs[i]? = some v) (fun i h => h.IsListIter I r i ∧ h.IsList r vs.toArray) :=
        fun A' hA => walks_one hA hrI (.head _) (inG _ _ hl)
      have noC : h3.objs.size ∉ I :: (List.range L).filter fun b => (g.get? b).isSome := fun hm => by
        rcases List.mem_cons.mp hm with q | q
        · exact absurd q (Nat.ne_of_gt hIlt)
        · exact absurd (List.mem_range.mp (List.mem_filter.mp q).1) (Nat.not_lt.mpr (Nat.le_of_lt hLC))
      have noG : h'.objs.size ∉ I :: (List.range L).filter fun b => (g.get? b).isSome := fun hm => by
        rcases List.mem_cons.mp hm with q | q
        · exact absurd q (Nat.ne_of_gt (Nat.lt_trans hIlt hGC))
        · exact absurd (List.mem_range.mp (List.mem_filter.mp q).1) (Nat.not_lt.mpr (Nat.le_of_lt hLG))
      have hsub : ∀ b ∈ [I], b ∈ I :: (List.range L).filter fun b => (g.get? b).isSome := fun b hb => by rw [List.mem_singleton.mp hb]; exact .head _
      have hvl : vs.toArray.size = l.length := by rw [List.size_toArray, trip_len ht]
      have q0 := quiet_str (prog := prog) (w := w) (cenv := genEnv gScope [] h3.objs.size (.ref c') builtinsNs (envOf cn cs L a ccd)) (href := s'.heap) (fp := I :: (List.range L).filter fun b => (g.get? b).isSome) (wr := [I]) (p1 := p1) (p2 := p2) (p3 := p3) (p4 := p4) (p5 := p5) (kc := kc) rfl rfl rfl rfl rfl hgs T.b e1 e2 ht hb
        (fun b o e => ⟨inG b o e, fun hm => Nat.ne_of_lt (Nat.lt_trans (hlt b o e) hLI) (List.mem_singleton.mp hm), kp b o e⟩)
      refine ⟨h'.objs.size :: h3.objs.size :: (I :: (List.range L).filter fun b => (g.get? b).isSome), GenAt prog w A.in4 h'.objs.size s.gens.size h3.objs.size (I :: (List.range L).filter fun b => (g.get? b).isSome) [I] (fun _ => true) vs.toArray.size (fun i v => ∃ t, v = .str (txt ((l.getD i (0, 0, 0)).1)) t), s.gens.size, ?_, ?_, fun i s'' st => st.1.typeIs, .head _, ?_⟩
      · have W := WalksS.genexpQ (prog := prog) (w := w) (A := A.in4) hh h'.objs.size s.gens.size h3.objs.size (I :: (List.range L).filter fun b => (g.get? b).isSome) [I] (fun _ => true) vs.toArray.size (fun i v => ∃ t, v = .str (txt ((l.getD i (0, 0, 0)).1)) t) (Nat.ne_of_gt hGC) noG hsub hroom hcs (Nat.ne_of_lt (Nat.lt_trans hcl hLC)) (fun hm => absurd (List.mem_singleton.mp hm) (Nat.ne_of_lt (Nat.lt_trans hcl hLI)))
        rw [passing_all, List.length_range] at W
        rw [hvl] at W ⊢
        exact W
      · refine GenAt.fresh (A := A.in4) (x := Str.ofString "tup") (px := px) (elt := gElt p1 p2 p3 p4 p5 kc) (iter := .Name (Str.ofString "w") pw) (ifs := []) (scope := gScope) (pos := pos) (cenv := genEnv gScope [] h3.objs.size (.ref c') builtinsNs (envOf cn cs L a ccd)) (m := fun y => if y = Str.ofString ".0" then some (.ref I) else none) hh W₀ (fun _ => true) (fun i v => ∃ t, v = .str (txt ((l.getD i (0, 0, 0)).1)) t) rfl rfl rfl noC q0 ?_ ?_ ?_ ?_ lim
        · subst hoG; exact ⟨_, _, _, hG, rfl, rfl, rfl⟩
        · rw [hgen]; exact Array.getElem?_push_size ..
        · subst hoI; exact ⟨⟨_, hI', rfl, rfl⟩, _, kp _ _ hl, rfl, _, rfl⟩
        · exact hn'.at' fun o e => by rw [eC] at e; cases e; exact hC
      · intro b hb
        have hCs := Heap.lt_size hC
        rcases List.mem_cons.mp hb with rfl | hb
        · exact Heap.lt_size hG
        · rcases List.mem_cons.mp hb with rfl | hb
          · exact hCs
          · rcases List.mem_cons.mp hb with rfl | hb
            · exact Heap.lt_size hI'
            · exact Nat.lt_trans (List.mem_range.mp (List.mem_filter.mp hb).1) (Nat.lt_trans hLC hCs)
  have CC : CodeHd (s.heap.push oI) c P := (C.keeps F.keep).keeps kI
  have hPP : ∀ ps', s.heap.get? P = some (tabObj ps') → (s.heap.push oI).get? P = some (tabObj ps') := fun ps' e => kI _ _ e
  rcases hps with rfl | ⟨c', rfl⟩
  · exact wpAny_genexprCodeX hcode (CC.code (hPP _ hm.1) trivial) (CC.tab (hPP _ hm.1)) rfl fun c' h' tk hx hge hlt hcode' hrec htab _ => core c' h' tk hx (Nat.le_trans hge (Nat.le_of_lt hlt)) htab.2
  · exact wpAny_genexprCode_hit hcode (CC.code (hPP _ hm.1) (by simp [TriplesOk, rawInt])) (c' := .ref c') (by simp [codeAmong, rawInt]) (core c' _ _ (Heap.ExtBut.refl _ _) (Nat.le_refl _) (hPP _ hm.1))
end

section
variable {prog : Program} {w : World} {A : Around} {E : Value → Shared → Prop} {s : Shared} {Q : Value → Shared → Prop}
theorem fmt_join {sep : Str} {t : Tok} {aG C I : Addr} {l : List (Int × Int × Int)} {g : Heap} {L : Addr} {m : Str → Option Value} {P : Addr} {oP oG oC oI : Obj} {gs : GenState} {g₀ : Array GenState}
    (Fh : Fr g L s.heap m) (N : News g L s.heap [(aG, oG), (C, oC), (I, oI), (P, oP)]) (G : AllBare s.gens) (hg : s.gens = g₀.push gs)
    (R : ∀ s' : Shared, (∀ b o, g.get? b = some o → s'.heap.get? b = some o) → s'.heap.get? aG = some oG → s'.heap.get? C = some oC → s'.heap.get? I = some oI → s'.gens = g₀.push gs → GenR prog w A aG C I l s')
    (hC : @LT.lt Nat _ L C) (hI : @LT.lt Nat _ L I) (nC : P ≠ C) (nI : P ≠ I) (hok : JoinOk sep (l.map fun t => txt t.1) = true) (hsz : l.length ≤ sizeLine)
    (hQ : ∀ h' tk gs' t', AllBare gs' → Fr g L h' m → News g L h' [(P, oP)] → Q (.str (Txt.join sep (l.map fun t => txt t.1)) t') { s with heap := h', toks := tk, gens := gs' }) :
    wpAny (model prog w) A (call (.builtin "str.join") [.str sep t, .ref aG]) Q E s := by
  obtain ⟨fp, St, gi, W, hst, hT, ha, hfp⟩ := R s Fh.keep (N _ (.head _)).1 (N _ (.tail _ (.head _))).1 (N _ (.tail _ (.tail _ (.head _)))).1 hg
  have W := W.in4_2
  refine SC.joinGen W hT hst hfp ha (fun j v hv => let ⟨i, _, u, e⟩ := hv; ⟨_, u, e⟩) (fun s' lt hm hacc => ?_) hsz
  have hl : lt.map (·.1) = l.map fun t => txt t.1 := by
    apply List.ext_getElem?
    intro j
    have hsz : lt.length = l.length := by simpa [strValues] using hacc.1
    by_cases hj : j < l.length
    · have hj' : j < lt.length := hsz ▸ hj
      obtain ⟨i, hi, u, hv⟩ := hacc.2 j (.str lt[j].1 lt[j].2) (by simp [strValues, List.getElem?_eq_getElem hj'])
      have hij : i = j := by simpa [hj] using hi.symm
      subst hij
      injection hv with h1 _
      simp [List.getElem?_eq_getElem hj', hj, h1, List.getD_eq_getElem?_getD]
    · rw [List.getElem?_eq_none (by simpa [hsz] using Nat.le_of_not_lt hj), List.getElem?_eq_none (by simpa using Nat.le_of_not_lt hj)]
  rw [hl]
  have hwr : ∀ b ∈ [C, I], L < b := fun b hb => by
    rcases List.mem_cons.mp hb with rfl | hb
    · exact hC
    · rw [List.mem_singleton.mp hb]; exact hI
  have f1 := Fh.moved hm hwr
  have g1 := G.movedS hm
  have nP := N (P, oP) (.tail _ (.tail _ (.tail _ (.head _))))
  have hP := hm.heap P oP (by simp [nC, nI]) nP.1
  refine ⟨hok, fun t' k => ?_⟩
  have := hQ s'.heap k s'.gens t' g1 f1 (fun q hq => by rw [List.mem_singleton.mp hq]; exact ⟨hP, nP.2⟩)
  have e : ({ s with heap := s'.heap, toks := k, gens := s'.gens } : Shared) = { s' with toks := k } := by
    rw [← hm.drawn, ← hm.os]
  rwa [e] at this
end
theorem txt_len {i : Int} (h : 0 ≤ i ∧ i < 10) : (txt i).length ≤ 2 := by
  have : i = 0 ∨ i = 1 ∨ i = 2 ∨ i = 3 ∨ i = 4 ∨ i = 5 ∨ i = 6 ∨ i = 7 ∨ i = 8 ∨ i = 9 := by omega
  rcases this with rfl | rfl | rfl | rfl | rfl | rfl | rfl | rfl | rfl | rfl <;> decide +kernel
def comma : Str := Str.ofString ", "
def fmtS (l : List (Int × Int × Int)) : Str := (if 1 < l.length then Str.ofString "at tab sizes" else Str.ofString "at tab size") ++ Str.ofString " " ++ Txt.join comma (l.map fun t => txt t.1)
theorem join_len2 (l : List Str) (h : ∀ x ∈ l, x.length ≤ 2) : (Txt.join comma l).length ≤ 4 * l.length := by
  have h1 := StrLaws.join_length_le comma l
  have e : comma.length = 2 := by decide +kernel
  have h2 : (l.map (·.length)).sum ≤ 2 * l.length := by
    clear h1
    induction l with
    | nil => simp
    | cons a r ih =>
      have := h a (.head _)
      have := ih fun x hx => h x (.tail _ hx)
      simp only [List.map_cons, List.sum_cons, List.length_cons]; omega
  rw [e] at h1
  have h3 : (Txt.join comma l).length ≤ (l.map (·.length)).sum + l.length * 2 := by
    show (PySem.Builtin.Str.glued comma l).length ≤ _
    rw [StrLaws.glued_eq_join]
    exact h1
  omega

theorem joinOk_of (l : List Str) (h : ∀ x ∈ l, x.length ≤ 2) (hl : l.length ≤ 8) : JoinOk comma l = true := by
  unfold JoinOk
  rw [Bool.not_eq_true']
  refine tooLong_no ?_
  have e : comma.length = 2 := by decide +kernel
  have key : ∀ (r : List Str) (a : Nat), (∀ x ∈ r, x.length ≤ 2) → r.foldl (· + ·.length + comma.length) a ≤ a + 4 * r.length := by
    intro r
    induction r with
    | nil => intro a _; simp
    | cons x r ih =>
      intro a hr
      have h1 := hr x (.head _)
      have h2 := ih (a + x.length + comma.length) fun y hy => hr y (.tail _ hy)
      rw [e] at h2 ⊢
      rw [List.foldl_cons, List.length_cons]
      omega
  have := key l 0 h
  rw [← Array.foldl_toList]
  show l.foldl _ 0 ≤ 1000
  omega
theorem len_trips {prog : Program} {w : World} {A : Around} {E : Value → Shared → Prop} {s : Shared} {g : Heap} {r : Addr} {vs : List Value} {n : Nat} {l : List (Int × Int × Int)} {Q : Value → Shared → Prop} (hl : g.get? r = some (PySem.W.listOf vs.toArray n)) (hvl : vs.length = l.length) (hlen : l.length ≤ 8) (k : ∀ b o, g.get? b = some o → s.heap.get? b = some o)
    (h : Q (.int l.length (s.toks + 1)) { s with toks := s.toks + 1 + 1 }) : wpAny (model prog w) A (call (.builtin "len") [.ref r]) Q E s := by
  have e : vs.toArray.size = l.length := by rw [List.size_toArray, hvl]
  exact PyProof.Rows.len_list ⟨_, k _ _ hl, rfl, _, rfl⟩ (by rw [e]; omega) (by rw [e]; exact h)
theorem addF {prog : Program} {w : World} {A : Around} {E : Value → Shared → Prop} {s : Shared} {a b : Str} {t u : Tok} {Q : Value → Shared → Prop} (ha : a.length ≤ 20) (hb : b.length ≤ 32) (k : ∀ t' k, Q (.str (a ++ b) t') { s with toks := k }) : wpAny (model prog w) A (binaryOp .Add (.str a t) (.str b u)) Q E s := by
  have hz := sizeLine_eq
  exact SBL.add (fun _ _ _ => k _ _) (by omega)
theorem fmt_ge {l : List (Int × Int × Int)} (h : 1 < l.length) : Str.ofString "at tab sizes" ++ Str.ofString " " ++ Txt.join (Str.ofString ", ") (l.map fun t => txt t.1) = fmtS l := by
  unfold fmtS; rw [if_pos h]; rfl
theorem fmt_lt {l : List (Int × Int × Int)} (h : ¬ 1 < l.length) : Str.ofString "at tab size" ++ Str.ofString " " ++ Txt.join (Str.ofString ", ") (l.map fun t => txt t.1) = fmtS l := by
  unfold fmtS; rw [if_neg h]; rfl
def fmtPost (l : List (Int × Int × Int)) (_ _ h' : Heap) (v : Value) : Prop := (∃ t, v = .str (fmtS l) t) ∧ TabP 124 ⟨144, 13, 144, 39⟩ h'
theorem fmt_post {g h h' : Heap} {L : Addr} {m : Str → Option Value} {l : List (Int × Int × Int)} {x : Str} {t : Tok} {c' : Addr} (_F : Fr g L h' m) (N : News g L h' [(124, tabObj #[rawInt 144, rawInt 13, .ref c'])]) (e : x = fmtS l) : fmtPost l g h h' (.str x t) :=
  ⟨⟨t, by rw [e]⟩, _, (N _ (.head _)).1, .inr ⟨c', rfl⟩⟩
def TabF : Heap → Prop := TabP 124 ⟨144, 13, 144, 39⟩
theorem t_fmt (w : World) (r : Addr) (l : List (Int × Int × Int)) (hlen : l.length ≤ 8) (hb : ∀ t ∈ l, 0 ≤ t.1 ∧ t.1 < 10) :
    CtG w 129 [.ref r] 1 40 (fun g h => (∃ vs n, g.get? r = some (PySem.W.listOf (List.toArray vs) n) ∧ Trip g vs l) ∧ g.get? 124 = none ∧ TabF h) (fmtPost l) := by
  unfold CtG
  k_fill
  intro p loose mean mg mb dp un gd outer A₀ base g s R B X T kp sz hG hp hd hu ret
  obtain ⟨⟨vs, n, hl, ht⟩, g124, ps, hP, hps⟩ := hp
  have hvl := trip_len ht
  have hC := codeHd_fmt X
  k_dflt (refine' enterN (news := [(124, tabObj ps)]) ?k1 ?k2 ?k3 ?k4 ?k5 ?k6 ?k7 ?k8 ?k9 ?kB ?c5 ?c2 ?c3 ?c4 ?kR; (case k1 => assumption); (case k2 => assumption); (case k3 => assumption); (case k4 => assumption); (case k5 => exact List.forall_mem_cons.mpr ⟨⟨hP, g124⟩, List.forall_mem_nil _⟩); (case k6 => k_is); (case k7 => k_is); (case k8 => omega); (case k9 => exact BindsTo.of_eq rfl); (case kB => exact locs rfl); (case c5 => decide); (case c2 => exact rfl); (case c3 => exact rfl); (case c4 => exact rfl))
  k_whole
  intro L' h₁ F' hL hk₁ N' lN'
  dsimp only
  k_fold
  (try k_lt lN')
  k_with_none
  have e1 : mg (Str.ofString "str") = none := mg_none_of X T.g (by with_unfolding_all rfl)
  have e2 : mb (Str.ofString "str") = some (.type "str") := (T.builtins _ (by decide)).trans (by rfl)
  have hokJ : JoinOk comma (l.map fun t => txt t.1) = true := joinOk_of _ (fun x hx => by obtain ⟨t, ht, rfl⟩ := List.mem_map.mp hx; exact txt_len (hb t ht)) (by simpa using hlen)
  have hlJ : (Txt.join comma (l.map fun t => txt t.1)).length ≤ 32 := Nat.le_trans (join_len2 _ fun x hx => by obtain ⟨t, ht, rfl⟩ := List.mem_map.mp hx; exact txt_len (hb t ht)) (by rw [List.length_map]; omega)
  have hb' : ∀ t ∈ l, 0 ≤ t.1 ∧ t.1 < 1000 := fun t ht => by have := hb t ht; omega
  (k_with "eval GeneratorExp" => (k_dflt (refine' fmt_gen ?z0 ?z1 ?zF ?zN ?zT ?ze ?zg ?zC ?zc ?zp ?zk ?zw ?zm ?zl ?zt ?zb ?_; (case z0 => exact rfl); (case z1 => ((try dsimp only [arC, Around.deeper]); omega)); (case zF => k_asm); (case zN => k_asm); (case zT => k_asm); (case ze => exact e1); (case zg => exact e2); (case zC => exact hC); (case zc => exact rfl); (case zp => exact hps); (case zk => exact rfl); (case zw => exact rfl); (case zm => exact rfl); (case zl => exact hl); (case zt => exact ht); (case zb => exact hb')); intro aG9 C9 I9 c9 oG9 oC9 oI9 h' tk9 gs9 F' N' lC9 lI9 sz9 bare9 ready9; (try dsimp only)))
  (k_with "call builtin:len" => (k_dflt (refine' len_trips ?za ?zb ?zc ?zd ?_; (case za => exact hl); (case zb => exact hvl); (case zc => exact hlen); (case zd => exact Fr.keep (by k_asm)))))
  (k_with "call builtin:str.join" => (k_dflt (refine' fmt_join (l := l) ?zF ?zN ?zG ?zg ready9 ?zC ?zI ?zc ?zi ?zo ?zs ?_; (case zF => k_asm); (case zN => k_asm); (case zG => exact AllBare.push hG bare9); (case zg => exact rfl); (case zC => assumption); (case zI => assumption); (case zc => exact Nat.ne_of_lt (Nat.lt_trans (by omega) lC9)); (case zi => exact Nat.ne_of_lt (Nat.lt_trans (by omega) lI9)); (case zo => exact hokJ); (case zs => (rw [sizeLine_eq]; omega))); intro h' tk' gs' t' bare' F' N'; (try dsimp only)))
  (k_with "binaryOp Add str str" => (k_dflt (refine' addF ?za ?zb ?_; (case za => decide +kernel); (case zb => exact hlJ)); intro _ _))
  k_steps
  all_goals (try k_data)
  all_goals (first
    | exact backG (s := s) ret bare' F' hL (fmt_post F' N' (fmt_ge (l := l) (by omega)))
    | exact backG (s := s) ret bare' F' hL (fmt_post F' N' (fmt_lt (l := l) (by omega)))
    | exact backG (s := s) ret bare' F' hL (fmt_post F' N' (fmt_lt (l := l) (by omega))))
end
section
theorem flush_Bd : (1 : Nat) = 1 := by
  w_top off
  k_with_none
  first | walk1 | rfl
section
variable {prog : Program} {w : World} {K : Frag} {p : Program} {loose : List Str} {mean : ExcName → Option Value} {mg mb : Str → Option Value} {dp un : Nat} {gd : Option (List Code)} {outer : List Env} {base g : Heap} {s : Shared}
  {R : Result → Shared → Prop} {name qual : Str} {params : Arguments} {body : List Stmt} {scope : Scope} {dV kV doc pm cdv ct oc : Value} {an od : Option Addr} {osl : Array (Option Value)} {f : Addr} {args : Args} {binds : List (Str × Value)} {news : List (Addr × Obj)}
/-- a def with cells is entered, with a ledger -/
theorem enterNC (X : K.In g) (T : Top p loose mean mg mb g) (kp : ∀ b o, g.get? b = some o → s.heap.get? b = some o) (sz : g.objs.size ≤ s.heap.objs.size) (hn : ∀ q ∈ news, s.heap.get? q.1 = some q.2 ∧ g.get? q.1 = none)
    (ho : K.lookup f = some ⟨oc, od, .func (fnOf name qual params body scope dV kV doc pm an cdv ct), osl⟩) (hcd : codeIn K cdv qual = true) (hroom : dp < recursionLimit)
    (hbind : BindsTo s (fnOf name qual params body scope dV kV doc pm an cdv ct) args binds) (hkind : (binds.all fun y => scope.names.lookup y.1 == some .local || scope.names.lookup y.1 == some .cell) = true)
    (hnd : ((cellsFrom 0 scope.names []).map (·.1)).Nodup) (hco : scope.isCoroutine = false) (hgen : scope.isGenerator = false) (hk : scope.kind = .function)
    (h : ∀ L' h₁ tk cells, Fr g L' h₁ (bindL (envOfC qual scope L' f cdv).kindOf binds fun _ => none) → s.heap.objs.size ≤ L' → (∀ b o, s.heap.get? b = some o → h₁.get? b = some o) → News g L' h₁ (cells ++ news) →
      CellsAre (bindC (envOfC qual scope L' f cdv).kindOf binds fun _ => none) (cellsFrom (L' + 1) scope.names []) cells → (∀ q ∈ news, q.1 < L') →
      wpAny (model prog w) ((arC dp un gd outer).deeper (envOfC qual scope L' f cdv)) (execs body (envOfC qual scope L' f cdv))
        (fun fl s' => R (.ok (.ret (match fl with | .ret v => v | _ => .none))) s')
        (fun e s' => wpAny (model prog w) ((arC dp un gd outer).deeper (envOfC qual scope L' f cdv)) (leaving (envOfC qual scope L' f cdv) e) (fun _ s'' => R (.error e) s'') (fun e' s'' => R (.error e') s'') s')
        { s with heap := h₁, toks := tk }) :
    codeAny (model prog w) (arC dp un gd outer) (.call (.ref f) args) R s := by
  have hlim := T.nolimit.keeps kp
  refine codeAny_call_function (fd := fnOf name qual params body scope dV kV doc pm an cdv ct) hroom (kp _ _ (X _ _ ho)) rfl hco hgen rfl (codeRec_of (X.keeps kp) hcd) (hbind _ _ _ _ ?_)
  refine wpAny_newFunctionEnv_cells hk (kindsX hkind _) fun env' he s' x => ?_
  subst he
  refine ⟨hlim.keeps x.toInCall.keep, codeAny_func ?_⟩
  obtain ⟨h₁, tk, rfl, _⟩ := x.done
  have hk₁ := x.toInCall.keep
  obtain ⟨cells, NC, Y⟩ := Cl.news (h₀ := s.heap) (Nat.le_refl _) fun n c hm => ⟨x.cell n c (lookup_of_mem_nodup (cellsFrom_names scope.names 0 (s.heap.objs.size + 1) [] [] rfl ▸ hnd) hm), x.above n c hm⟩
  refine h s.heap.objs.size h₁ tk cells ⟨x.toInCall.ns, fun b o e => hk₁ b o (kp b o e), sz⟩ (Nat.le_refl _) hk₁ (fun q hq => ?_) Y (fun q hq => Heap.lt_size (hn q hq).1)
  rcases List.mem_append.mp hq with hq | hq
  · refine ⟨(NC q hq).1, (NC q hq).2.1, ?_⟩
    cases e : g.get? q.1 with
    | none => rfl
    | some o => have := (NC q hq).2.2; rw [kp _ _ e] at this; cases this
  · exact ⟨hk₁ _ _ (hn q hq).1, Nat.ne_of_lt (Heap.lt_size (hn q hq).1), (hn q hq).2⟩
end
section
variable {M : Model} {A : Around} {E : Value → Shared → Prop} {s : Shared} {h₀ : Heap} {L a c P : Addr} {m mg mb : Str → Option Value} {cn : Str} {cs : Scope} {ccd : Value} {cl : List (Str × Addr)} {news : List (Addr × Obj)} {gf : Obj → List (Addr × Obj)}
  {p : Program} {loose : List Str} {mean : ExcName → Option Value} {name qual : Str} {params : Arguments} {body : List Stmt} {scope : Scope} {ps : Array Value} {pos : Pos} {firstLine : Nat} {clos : List (Str × Addr)}
/-- a def made in a body, its code made now or found in the table -/
theorem nest_any {Q : Value → Shared → Prop} {R : Addr → Obj → Prop} (F : Fr h₀ L s.heap m) (N : News h₀ L s.heap news) (T : Top p loose mean mg mb h₀) (C : CodeHd h₀ c P) (hcd : ccd = .ref c) (U : UpdF P (tabObj ps) news gf)
    (hps : ps = #[] ∨ ∃ (c' : Addr) (oc : Obj) (vs : Array Value) (t : Tok), ps = #[rawInt pos.line, rawInt pos.col, .ref c'] ∧ s.heap.get? c' = some oc ∧ c' ≠ L ∧ h₀.get? c' = none ∧ oc.data = .fields vs ∧ vs[1]? = some (.str qual t) ∧ (∀ q ∈ news, q.1 ≠ c') ∧ R c' oc)
    (hcl : closureFor scope (envX cn cs L a ccd cl) = pure clos)
    (h : ∀ f c' oc vs t ctv doc h' tk, Fr h₀ L h' m →
      News h₀ L h' ((f, fnMade name qual params body scope clos doc ((mg "__name__").getD .none) c' ctv) :: (c', oc) :: gf (tabObj #[rawInt pos.line, rawInt pos.col, .ref c'])) →
      oc.data = .fields vs → vs[1]? = some (.str qual t) → (∀ q ∈ news, q.1 ≠ c') → (∀ q ∈ news, q.1 < f) → c' < f → (ps = #[] ∨ (ps = #[rawInt pos.line, rawInt pos.col, .ref c'] ∧ R c' oc)) → Q (.ref f) { s with heap := h', toks := tk }) :
    wpAny M A (makeFunction name qual params (.stmts body) scope (envX cn cs L a ccd cl) [] [] [] pos firstLine) Q E s := by
  rcases hps with rfl | ⟨c', oc, vs, t, rfl, e1, e2, e3, e4, e5, e6, e7⟩
  · exact nest_K F N T C hcd U trivial rfl hcl fun f c' oc vs t ctv doc h' tk F' N' d1 d2 l1 l2 => h f c' oc vs t ctv doc h' tk F' N' d1 d2 (fun q hq => Nat.ne_of_lt (l1 q hq)) (fun q hq => Nat.lt_trans (l1 q hq) l2) l2 (.inl rfl)
  · obtain ⟨own, rest, rfl, hgr, h1, h2⟩ := U.split
    have N2 : News h₀ L s.heap ((c', oc) :: (own ++ (P, tabObj #[rawInt pos.line, rawInt pos.col, .ref c']) :: rest)) := List.forall_mem_cons.mpr ⟨⟨e1, e2, e3⟩, N⟩
    refine nestHit_K (ps := #[rawInt pos.line, rawInt pos.col, .ref c']) (c' := c') F N2 T C hcd (.tail _ (List.mem_append_right _ (.head _))) (by simp [TriplesOk, rawInt]) (by simp [codeAmong, rawInt]) hcl fun f ctv doc h' tk F' N' l1 => ?_
    refine h f c' oc vs t ctv doc h' tk F' ?_ e4 e5 e6 (fun q hq => l1 q (.tail _ hq)) (l1 _ (.head _)) (.inr ⟨rfl, e7⟩)
    rw [hgr]; exact N'
end
/-- the table of a def whose body makes the one def at pos: empty, or the code at hand -/
def TabQ (P : Addr) (pos : Pos) (qual : Str) (g h : Heap) : Prop :=
  ∃ ps, h.get? P = some (tabObj ps) ∧ g.get? P = none ∧ (ps = #[] ∨ ∃ (c' : Addr) (oc : Obj) (vs : Array Value) (t : Tok), ps = #[rawInt pos.line, rawInt pos.col, .ref c'] ∧ h.get? c' = some oc ∧ g.get? c' = none ∧ oc.data = .fields vs ∧ vs[1]? = some (.str qual t))
def TabHit (P : Addr) (pos : Pos) (qual : Str) (g h₀ h : Heap) : Prop :=
  ∃ (c' : Addr) (oc : Obj) (vs : Array Value) (t : Tok), h.get? P = some (tabObj #[rawInt pos.line, rawInt pos.col, .ref c']) ∧ h.get? c' = some oc ∧ g.get? c' = none ∧ oc.data = .fields vs ∧ vs[1]? = some (.str qual t) ∧
    ∀ ps, h₀.get? P = some (tabObj ps) → ps = #[] ∨ (ps = #[rawInt pos.line, rawInt pos.col, .ref c'] ∧ h₀.get? c' = some oc)
theorem tab_rel {P : Addr} {h₀ : Heap} {ps : Array Value} {X : Array Value → Prop} (hP : h₀.get? P = some (tabObj ps)) (r : X ps) : ∀ ps', h₀.get? P = some (tabObj ps') → X ps' := fun ps' e => by
  rw [hP] at e
  have e2 := Option.some.inj e
  have : ps = ps' := by injection e2 with _ _ e3; injection e3
  rw [← this]; exact r
theorem codeHd_d2i {w : World} {g : Heap} (X : (Mine.hd.heap_1 w.params).In g) : CodeHd g 41 37 := by
  refine codeHd_of X (c := 41) (P := 37) (by with_unfolding_all rfl) rfl rfl rfl rfl rfl rfl rfl rfl (by decide)
theorem codeHd_i2d {w : World} {g : Heap} (X : (Mine.hd.heap_1 w.params).In g) : CodeHd g 34 30 := by
  refine codeHd_of X (c := 34) (P := 30) (by with_unfolding_all rfl) rfl rfl rfl rfl rfl rfl rfl rfl (by decide)
def d2iPos : Pos := ⟨47, 4, 52, 55⟩
def i2dPos : Pos := ⟨32, 4, 41, 28⟩
def d2iQ : Str := Str.ofString "_digits2int.<locals>.inner"
def i2dQ : Str := Str.ofString "_int2digits.<locals>.inner"
theorem codeRec_ground {g h : Heap} {L c : Addr} {m : Str → Option Value} {oc : Obj} {vs : Array Value} {qual : Str} {t : Tok} (F : Fr g L h m) (e : g.get? c = some oc) (hd : oc.data = .fields vs) (hv : vs[1]? = some (.str qual t)) : h.CodeRec (.ref c) qual :=
  ⟨c, oc, vs, t, rfl, F.keep _ _ e, hd, hv⟩
end
section
theorem flush_D2B : (1 : Nat) = 1 := by
  w_top off
  k_with_none
  first | walk1 | rfl
theorem tabq_ne {P c' : Addr} {pos : Pos} {oc : Obj} {vs : Array Value} {t : Tok} {qual : Str} {h : Heap} (e : h.get? P = some (tabObj #[rawInt pos.line, rawInt pos.col, .ref c'])) (e1 : h.get? c' = some oc) (e4 : oc.data = .fields vs) (e5 : vs[1]? = some (.str qual t)) : P ≠ c' := fun q => by
  rw [← q, e] at e1
  have e2 := Option.some.inj e1
  rw [← e2] at e4
  have e3 : #[rawInt pos.line, rawInt pos.col, Value.ref c'] = vs := by injection e4
  rw [← e3] at e5
  cases e5
def OrGt (P L : Addr) : List (Addr × Obj) → Prop
  | [] => True
  | p :: r => (p.1 = P ∨ @LT.lt Nat _ L p.1) ∧ OrGt P L r
theorem OrGt.at {P L : Addr} {l : List (Addr × Obj)} (h : OrGt P L l) : ∀ q ∈ l, q.1 = P ∨ L < q.1 := by
  induction l with
  | nil => intro q hq; cases hq
  | cons p r ih =>
    intro q hq
    rcases List.mem_cons.mp hq with e | hq
    · rw [e]; exact h.1
    · exact ih h.2 q hq
/-- the table's state as nest_any asks it, in the frame entered at L -/
theorem tabq_in {P L : Addr} {pos : Pos} {qual : Str} {g h h₁ : Heap} {ps : Array Value} {news : List (Addr × Obj)} (hps : ps = #[] ∨ ∃ (c' : Addr) (oc : Obj) (vs : Array Value) (t : Tok), ps = #[rawInt pos.line, rawInt pos.col, .ref c'] ∧ h.get? c' = some oc ∧ g.get? c' = none ∧ oc.data = .fields vs ∧ vs[1]? = some (.str qual t))
    (hP : h.get? P = some (tabObj ps)) (k : ∀ b o, h.get? b = some o → h₁.get? b = some o) (hL : h.objs.size ≤ L) (hn' : OrGt P L news) :
    ps = #[] ∨ ∃ (c' : Addr) (oc : Obj) (vs : Array Value) (t : Tok), ps = #[rawInt pos.line, rawInt pos.col, .ref c'] ∧ h₁.get? c' = some oc ∧ c' ≠ L ∧ g.get? c' = none ∧ oc.data = .fields vs ∧ vs[1]? = some (.str qual t) ∧ (∀ q ∈ news, q.1 ≠ c') ∧ h.get? c' = some oc := by
  rcases hps with rfl | ⟨c', oc, vs, t, rfl, e1, e2, e3, e4⟩
  · exact .inl rfl
  · have lc : c' < L := Nat.lt_of_lt_of_le (Heap.lt_size e1) hL
    refine .inr ⟨c', oc, vs, t, rfl, k _ _ e1, Nat.ne_of_lt lc, e2, e3, e4, fun q hq => ?_, e1⟩
    rcases hn'.at q hq with e | e
    · rw [e]; exact tabq_ne hP e1 e3 e4
    · exact Nat.ne_of_gt (Nat.lt_trans lc e)
def d2iPost (v : Int) (g h h' : Heap) (x : Value) : Prop := (∃ t, x = .int v t) ∧ TabHit 37 d2iPos d2iQ g h h'
def d2iPre (r : Addr) (ds : List Int) (g h : Heap) : Prop := (∃ vs n, g.get? r = some (PySem.W.listOf (List.toArray vs) n) ∧ IntsAre vs ds) ∧ TabQ 37 d2iPos d2iQ g h
theorem lst_up {h₀ g' : Heap} {L r : Addr} {m : Str → Option Value} {its : Array Value} (F : Fr h₀ L g' m) (h : h₀.IsList r its) : g'.IsList r its := by
  obtain ⟨o, e, x⟩ := h
  exact ⟨o, F.keep _ _ e, x⟩
section
variable {prog : Program} {w : World} {A : Around} {E : Value → Shared → Prop} {s : Shared} {Q : Value → Shared → Prop}
theorem lit_rsh {a b : Int} {t u : Tok} (e : a.fdiv (2 ^ Int.toNat 1) = b) (h : Q (.int b s.toks) { s with toks := s.toks + 1 }) : wpAny (model prog w) A (binaryOp .RShift (.int a t) (.int 1 u)) Q E s := by
  subst e; exact rshift_int (by decide) h
theorem lit_sub {a b c : Int} {t u : Tok} (e : a - b = c) (h : Q (.int c s.toks) { s with toks := s.toks + 1 }) : wpAny (model prog w) A (binaryOp .Sub (.int a t) (.int b u)) Q E s := by
  subst e; exact sub_int h
theorem item_pick {value slice : Expr} {l : Addr} {vs : List Value} {ns : List Int} {k : Int} {u : Tok} {d : Int} (hl : s.heap.IsList l vs.toArray) (hi : IntsAre vs ns) (h0 : 0 ≤ k) (h1 : k < ns.length) (hfit : k < 2 ^ 63) (e : ns.getD k.toNat 0 = d) (h : ∀ t, Q (.int d t) s)
    (hs : subscripted slice false (.ref l) (.int k u) = operate [.ref l, .int k u] (getItem (.ref l) (.int k u)) := by with_unfolding_all rfl) (hg : ∀ r, letTemporaryGo value (.ref l) r = pure () := by intro _; with_unfolding_all rfl) :
    wpAny (model prog w) A (subscriptTail value slice (.ref l) (.int k u)) Q E s := by
  subst e; exact item_list_ints hl hi h0 h1 hfit h hs hg
theorem lsh {x j n : Int} {t u : Tok} (hj : 0 ≤ j ∧ j ≤ 2) (hn : 5 ≤ n ∧ n ≤ 7) (hx : 0 ≤ x ∧ x < 1000000) (h : Q (.int (x * 2 ^ (j * n).toNat) s.toks) { s with toks := s.toks + 1 }) : wpAny (model prog w) A (binaryOp .LShift (.int x t) (.int (j * n) u)) Q E s := by
  have h1 : 0 ≤ j * n ∧ j * n ≤ 100 := by
    have : j = 0 ∨ j = 1 ∨ j = 2 := by omega
    rcases this with rfl | rfl | rfl <;> omega
  exact lshift_int_small h1.1 (by omega) (by omega) h
end
theorem pow_b {n : Int} (hn : 5 ≤ n ∧ n ≤ 7) : 0 ≤ (2 : Int) ^ (1 * n).toNat ∧ (2 : Int) ^ (1 * n).toNat ≤ 128 := by
  have : n = 5 ∨ n = 6 ∨ n = 7 := by omega
  rcases this with rfl | rfl | rfl <;> decide
theorem two_b {n a b : Int} (hn : 5 ≤ n ∧ n ≤ 7) (ha : 0 ≤ a ∧ a < 128) (hb : 0 ≤ b ∧ b < 128) : 0 ≤ a * 2 ^ (1 * n).toNat + b ∧ a * 2 ^ (1 * n).toNat + b < 1000000 := by
  have := pow_b hn
  have h1 : 0 ≤ a * 2 ^ (1 * n).toNat := Int.mul_nonneg ha.1 this.1
  have h2 : a * 2 ^ (1 * n).toNat ≤ 128 * 128 := Int.mul_le_mul (by omega) this.2 this.1 (by omega)
  omega
theorem one_b {a : Int} (ha : 0 ≤ a ∧ a < 128) : 0 ≤ a ∧ a < 1000000 := by omega
theorem d2i_end {v v' : Int} {t : Tok} {g h h' : Heap} {L : Addr} {m : Str → Option Value} {news : List (Addr × Obj)} {c' : Addr} {oc : Obj} {vs : Array Value} {t' : Tok} (_F : Fr g L h' m) (N : News g L h' news) (h1 : (37, tabObj #[rawInt d2iPos.line, rawInt d2iPos.col, .ref c']) ∈ news) (h2 : (c', oc) ∈ news) (hd : oc.data = .fields vs) (hv : vs[1]? = some (.str d2iQ t')) {ps : Array Value} (hP : h.get? 37 = some (tabObj ps)) (r : ps = #[] ∨ (ps = #[rawInt d2iPos.line, rawInt d2iPos.col, .ref c'] ∧ h.get? c' = some oc)) (e : v' = v) : d2iPost v g h h' (.int v' t) :=
  ⟨⟨t, by rw [e]⟩, c', oc, vs, t', (N _ h1).1, (N _ h2).1, (N _ h2).2.2, hd, hv, tab_rel (X := fun ps => ps = #[] ∨ (ps = #[rawInt d2iPos.line, rawInt d2iPos.col, .ref c'] ∧ h.get? c' = some oc)) hP r⟩
end
section
theorem flush_D2_0 : (1 : Nat) = 1 := by
  w_top off
  k_with_none
  first | walk1 | rfl
theorem d2i_0 (w : World) (r : Addr) (n : Int) (tk : Tok) (hn : 5 ≤ n ∧ n ≤ 7) : Ct w 42 [.ref r, .int n tk] 6 60 (d2iPre r []) (d2iPost (0)) := by
  unfold Ct
  k_fill
  intro p loose mean mg mb dp un gd outer A₀ base g s R B X T kp sz hp hd hu ret
  obtain ⟨⟨vs, nn, hl, hI⟩, ps, hP, gP, hps⟩ := hp
  have hlist : g.IsList r vs.toArray := ⟨_, hl, rfl, _, rfl⟩
  have hvl := IntsAre.length hI
  have hC := codeHd_d2i X
  k_dflt (refine' enterNC (news := [(37, tabObj ps)]) ?k1 ?k2 ?k3 ?k4 ?k5 ?k6 ?k7 ?k8 ?k9 ?kB ?kD ?c2 ?c3 ?c4 ?kR; (case k1 => assumption); (case k2 => assumption); (case k3 => assumption); (case k4 => assumption); (case k5 => exact List.forall_mem_cons.mpr ⟨⟨hP, gP⟩, List.forall_mem_nil _⟩); (case k6 => k_is); (case k7 => k_is); (case k8 => omega); (case k9 => exact BindsTo.of_eq rfl); (case kB => exact rfl); (case kD => decide +kernel); (case c2 => exact rfl); (case c3 => exact rfl); (case c4 => exact rfl))
  k_whole
  intro L' h₁ tk₁ cells F' hL hk₁ N' Y' lN'
  (try dsimp only)
  k_fold
  (try k_lt lN')
  k_cells Y'
  (try simp only [List.cons_append, List.nil_append] at N')
  k_with_none
  (k_with "exec FunctionDef" => (k_dflt (refine' nestDef_K ?d0 ?k0 ?a0 ?_; (case d0 => exact rfl); (case k0 => exact rfl); (case a0 => exact rfl)); k_dflt (refine' nest_any (pos := d2iPos) (qual := d2iQ) ?F ?N ?T ?C ?cd ?U ?ps ?cl ?_; (case F => k_asm); (case N => k_asm); (case T => k_asm); (case C => exact hC); (case cd => exact rfl); (case U => k_updF); (case ps => exact tabq_in hps hP hk₁ hL (by repeat' (first | exact trivial | refine And.intro (.inl rfl) ?_ | refine And.intro (.inr (by show (_ : Nat) < _; omega)) ?_))); (case cl => exact rfl)); k_whole; intro f' c9 oc9 vs9 t9 ct' dc' h' tk' F' N' d19 d29 l0 l1 l2 rel9; (try dsimp only at N'); (replace l0 := gnNe_of l0; simp only [GnNe, and_true] at l0); (try k_lt l1); (try k_lt2 l2)))
  (k_with "binaryOp RShift int int" => first | refine lit_rsh (b := 1) (by decide) ?_ | refine lit_rsh (b := 2) (by decide) ?_ | refine lit_rsh (b := 3) (by decide) ?_)
  (k_with "binaryOp Sub int int" => first | refine lit_sub (c := 1) (by decide) ?_ | refine lit_sub (c := 2) (by decide) ?_)
  (k_with "binaryOp LShift int int" => (k_dflt (refine' lsh ?a hn ?b ?_; (case a => decide); (case b => first | skip))))
  (k_with "subscriptTail Name Name ref int" => (k_dflt (first | skip); intro _))
  (k_with "call ref" => (k_here; k_dflt (refine wpAny_call ?_; refine' code_nest ?k1 ?k2 ?k3 ?k4 ?k5 ?kA ?kF ?kK ?k6 ?k7 ?k8 ?k9 ?kB ?_ ?c2 ?c3 ?c4 ?c5; (case kA => exact rfl); (case kF => exact rfl); (case kK => exact rfl); (case k1 => k_asm); (case k2 => k_asm); (case k3 => k_asm); (case k4 => k_asm); (case k5 => k_asm); (case k6 => k_mem); (case k7 => exact codeRec_news (by k_asm) (by k_mem) (by assumption) (by assumption)); (case k8 => ((try simp only [depth_deeper]); (try dsimp only [arC]); omega)); (case k9 => exact BindsTo.of_eq rfl); (case c5 => decide); (case kB => exact locs rfl); (case c2 => exact rfl); (case c3 => exact rfl); (case c4 => exact rfl)); k_whole; intro g' L' h' FG' F' N' B' X' T'; (have hlist9 := lst_up FG' (by assumption)); (try dsimp only); (try k_lift B'); (try k_fold)))
  k_steps
  all_goals (try k_data)
  all_goals exact back (s := s) ret (by k_asm) hL (d2i_end (by k_asm) (by k_asm) (by k_mem) (by k_mem) d19 d29 hP rel9 rfl)
end
section
theorem flush_D2G : (1 : Nat) = 1 := by
  w_top off
  k_with_none
  first | walk1 | rfl
inductive Stop8 (P : Prop) : Prop
  | mk (h : P)
theorem stop8 {P : Prop} (h : Stop8 P) : P := h.1
/-- the number that the digits from l to r make, split in the middle -/
def d2v (n : Int) (ds : List Int) : Nat → Nat → Nat → Int
  | 0, _, _ => 0
  | j + 1, l, r => if l + 1 = r then ds.getD l 0 else d2v n ds j ((l + r) / 2) r * 2 ^ ((((l + r) / 2 - l : Nat) : Int) * n).toNat + d2v n ds j l ((l + r) / 2)
theorem d2v_one {n : Int} {ds : List Int} {j l r : Nat} (e : l + 1 = r) : d2v n ds (j + 1) l r = ds.getD l 0 := if_pos e
theorem d2v_two {n : Int} {ds : List Int} {j l r : Nat} (e : ¬ l + 1 = r) : d2v n ds (j + 1) l r = d2v n ds j ((l + r) / 2) r * 2 ^ ((((l + r) / 2 - l : Nat) : Int) * n).toNat + d2v n ds j l ((l + r) / 2) := if_neg e
theorem d2v_b {n : Int} {ds : List Int} (hn : 5 ≤ n ∧ n ≤ 7) (hd : ∀ i, 0 ≤ ds.getD i 0 ∧ ds.getD i 0 < 128) {j l r : Nat} (h1 : l < r) (h2 : r ≤ l + 2) (h3 : r ≤ l + j) : 0 ≤ d2v n ds j l r ∧ d2v n ds j l r < 1000000 := by
  cases j with
  | zero => omega
  | succ j =>
    by_cases e : l + 1 = r
    · rw [d2v_one e]; exact one_b (hd l)
    · obtain rfl : r = l + 2 := by omega
      have e2 : (l + (l + 2)) / 2 = l + 1 := by omega
      cases j with
      | zero => omega
      | succ j =>
        rw [d2v_two e, e2, d2v_one rfl, d2v_one rfl, show l + 1 - l = 1 by omega]
        exact two_b hn (hd (l + 1)) (hd l)
theorem mid_rsh (l r : Nat) : ((l : Int) + (r : Int)).fdiv (2 ^ Int.toNat 1) = (((l + r) / 2 : Nat) : Int) := by
  rw [show (2 : Int) ^ Int.toNat 1 = 2 from rfl, Int.fdiv_eq_ediv_of_nonneg _ (by decide)]
  omega
theorem mid_sub {l r : Nat} (h : l < r) : ((((l + r) / 2 : Nat) : Int)) - (l : Int) = (((l + r) / 2 - l : Nat) : Int) := by omega
theorem d2v_sh {n : Int} {ds : List Int} {j l r : Nat} (e : ¬ l + 1 = r) (h : l < r) : d2v n ds (j + 1) l r = d2v n ds j ((l + r) / 2) r * 2 ^ ((((l : Int) + (r : Int)).fdiv (2 ^ Int.toNat 1) - (l : Int)) * n).toNat + d2v n ds j l ((l + r) / 2) := by
  rw [d2v_two e, mid_rsh, mid_sub h]
theorem mid_k {l r : Nat} (h : r ≤ l + 4) (h2 : l < r) : (0 : Int) ≤ ((l : Int) + (r : Int)).fdiv (2 ^ Int.toNat 1) - (l : Int) ∧ ((l : Int) + (r : Int)).fdiv (2 ^ Int.toNat 1) - (l : Int) ≤ 2 := by
  rw [mid_rsh]; omega
theorem mid_j {l r : Nat} (h : r ≤ l + 4) : (0 : Int) ≤ (((l + r) / 2 - l : Nat) : Int) ∧ (((l + r) / 2 - l : Nat) : Int) ≤ 2 := by omega
/-- what a call of the nested def does, over a ledger that holds it -/
def InnerOk (w : World) (f r : Addr) (news : List (Addr × Obj)) (vs : List Value) (val : Int) (j l rr : Nat) : Prop :=
  ∀ (p : Program) (loose : List Str) (mean : ExcName → Option Value) (mg mb : Str → Option Value) (dp un : Nat) (gd : Option (List Code)) (outer : List Env) (env : Env) (A₀ : Around) (base h₀ : Heap) (L : Addr) (m : Str → Option Value) (s : Shared) (t1 t2 : Tok) (Q E : Value → Shared → Prop),
    Below A₀ base outer h₀ → Fr h₀ L s.heap m → (Mine.hd.heap_1 w.params).In h₀ → News h₀ L s.heap news → Top p loose mean mg mb h₀ → env.frame = some L → env.scope.kind = .function → dp + (j + 1) < recursionLimit → h₀.IsList r vs.toArray →
    (∀ t h' tk', Fr h₀ L h' m → News h₀ L h' news → Q (.int val t) { s with heap := h', toks := tk' }) →
    wpAny (model PySem.Challenge.rw_pe0269_01.row.prog w) (arC dp un gd (env :: outer)) (call (.ref f) [.int (l : Int) t1, .int (rr : Int) t2]) Q E s
theorem useIn {w : World} {f r : Addr} {news : List (Addr × Obj)} {vs : List Value} {val : Int} {j l rr : Nat} {p : Program} {loose : List Str} {mean : ExcName → Option Value} {mg mb : Str → Option Value} {dp un : Nat} {gd : Option (List Code)} {outer : List Env} {env : Env} {A A₀ : Around} {base h₀ : Heap} {L : Addr} {m : Str → Option Value} {s : Shared} {t1 t2 : Tok} {a b : Int} {Q E : Value → Shared → Prop}
    (ea : a = (l : Int)) (eb : b = (rr : Int)) (C : InnerOk w f r news vs val j l rr) (B : Below A₀ base outer h₀) (F : Fr h₀ L s.heap m) (X : (Mine.hd.heap_1 w.params).In h₀) (N : News h₀ L s.heap news) (T : Top p loose mean mg mb h₀) (hA : A = arC dp un gd (env :: outer)) (hf : env.frame = some L) (hke : env.scope.kind = .function) (hd : dp + (j + 1) < recursionLimit) (hl : h₀.IsList r vs.toArray)
    (h : ∀ t h' tk', Fr h₀ L h' m → News h₀ L h' news → Q (.int val t) { s with heap := h', toks := tk' }) :
    wpAny (model PySem.Challenge.rw_pe0269_01.row.prog w) A (call (.ref f) [.int a t1, .int b t2]) Q E s := by
  subst hA ea eb
  exact C p loose mean mg mb dp un gd outer env A₀ base h₀ L m s t1 t2 Q E B F X N T hf hke hd hl h
/-- the nested def's contract cut out of a walk: its ledger is the one at hand -/
theorem cutIn {P : Prop} {g h : Heap} {L : Addr} {news : List (Addr × Obj)} (N : News g L h news) (C : List (Addr × Obj) → Prop) (H : C news) (K : C news → P) : P := K H
theorem d2i_gen (w : World) (r : Addr) (ds : List Int) (n : Int) (tk : Tok) (hn : 5 ≤ n ∧ n ≤ 7) (hlen : ds.length ≤ 4) (hne : 0 < ds.length) (hd4 : ∀ i, 0 ≤ ds.getD i 0 ∧ ds.getD i 0 < 128) : Ct w 42 [.ref r, .int n tk] 6 60 (d2iPre r ds) (d2iPost (d2v n ds 4 0 ds.length)) := by
  unfold Ct
  k_fill
  intro p loose mean mg mb dp un gd outer A₀ base g s R B X T kp sz hp hd hu ret
  obtain ⟨⟨vs, nn, hl, hI⟩, ps, hP, gP, hps⟩ := hp
  have hlist : g.IsList r vs.toArray := ⟨_, hl, rfl, _, rfl⟩
  have hvl := IntsAre.length hI
  have hC := codeHd_d2i X
  k_dflt (refine' enterNC (news := [(37, tabObj ps)]) ?k1 ?k2 ?k3 ?k4 ?k5 ?k6 ?k7 ?k8 ?k9 ?kB ?kD ?c2 ?c3 ?c4 ?kR; (case k1 => assumption); (case k2 => assumption); (case k3 => assumption); (case k4 => assumption); (case k5 => exact List.forall_mem_cons.mpr ⟨⟨hP, gP⟩, List.forall_mem_nil _⟩); (case k6 => k_is); (case k7 => k_is); (case k8 => omega); (case k9 => exact BindsTo.of_eq rfl); (case kB => exact rfl); (case kD => decide +kernel); (case c2 => exact rfl); (case c3 => exact rfl); (case c4 => exact rfl))
  k_whole
  intro L' h₁ tk₁ cells F' hL hk₁ N' Y' lN'
  (try dsimp only)
  k_fold
  (try k_lt lN')
  k_cells Y'
  (try simp only [List.cons_append, List.nil_append] at N')
  k_with_none
  (k_with "exec FunctionDef" => (k_dflt (refine' nestDef_K ?d0 ?k0 ?a0 ?_; (case d0 => exact rfl); (case k0 => exact rfl); (case a0 => exact rfl)); k_dflt (refine' nest_any (pos := d2iPos) (qual := d2iQ) ?F ?N ?T ?C ?cd ?U ?ps ?cl ?_; (case F => k_asm); (case N => k_asm); (case T => k_asm); (case C => exact hC); (case cd => exact rfl); (case U => k_updF); (case ps => exact tabq_in hps hP hk₁ hL (by repeat' (first | exact trivial | refine And.intro (.inl rfl) ?_ | refine And.intro (.inr (by show (_ : Nat) < _; omega)) ?_))); (case cl => exact rfl)); k_whole; intro f' c9 oc9 vs9 t9 ct' dc' h' tk' F' N' d19 d29 l0 l1 l2 rel9; (try dsimp only at N'); (replace l0 := gnNe_of l0; simp only [GnNe, and_true] at l0); (try k_lt l1); (try k_lt2 l2)))
  k_steps
  refine cutIn (by k_asm : PyProof.Rows.News _ _ _ _) (fun nw => ∀ j l rr : Nat, l < rr → rr ≤ l + j → rr ≤ l + 4 → rr ≤ ds.length → InnerOk w f' r nw vs (d2v n ds j l rr) j l rr) ?zH ?zK
  case zK =>
    intro hin
    exact useIn (l := 0) rfl rfl (hin 4 0 ds.length hne (by omega) (by omega) (Nat.le_refl _)) B (by k_asm) X (by k_asm) T rfl rfl rfl (by omega) hlist fun t h' tk' F' N' => back (s := s) ret F' hL (d2i_end F' N' (by k_mem) (by k_mem) d19 d29 hP rel9 rfl)
  case zH =>
    clear rel9 ret hps hP gP hlist B X T kp sz hd hu hl
    intro j
    induction j with
    | zero => intro l rr a1 a2; omega
    | succ j ih =>
      intro l rr a1 a2 a3 a4 p loose mean mg mb dp un gd outer env A₀ base h₀ L m s t1 t2 Q E B F X N T hf hke hd hl h
      k_dflt (refine wpAny_call ?_; refine' code_nest ?k1 ?k2 ?k3 ?k4 ?k5 ?kA ?kF ?kK ?k6 ?k7 ?k8 ?k9 ?kB ?_ ?c2 ?c3 ?c4 ?c5; (case kA => exact rfl); (case kF => exact hf); (case kK => exact hke); (case k1 => k_asm); (case k2 => k_asm); (case k3 => k_asm); (case k4 => k_asm); (case k5 => k_asm); (case k6 => k_mem); (case k7 => exact codeRec_news (by k_asm) (by k_mem) (by assumption) (by assumption)); (case k8 => ((try dsimp only [arC]); omega)); (case k9 => exact BindsTo.of_eq rfl); (case c5 => decide); (case kB => exact locs rfl); (case c2 => exact rfl); (case c3 => exact rfl); (case c4 => exact rfl))
      k_whole
      intro g' L' h' FG' F' N' B' X' T'
      have hlist9 := lst_up FG' hl
      (try dsimp only)
      (try k_lift B')
      (try k_fold)
      k_with_none
      (k_with "binaryOp LShift int int" => refine lsh (mid_k a3 a1) hn (d2v_b hn hd4 (by omega) (by omega) (by omega)) ?_)
      (k_with "subscriptTail Name Name ref int" => (k_dflt (refine' item_pick (d := ds.getD l 0) (Fr.lst ?F ?l) hI ?a ?b ?c ?e ?_; (case F => k_asm); (case l => assumption); (case a => omega); (case b => omega); (case c => omega); (case e => exact rfl)); intro _))
      (k_with "call ref" => (k_here; (first
        | (k_dflt (refine' useIn (mid_rsh l rr) rfl (ih _ _ ?z1 ?z2 ?z3 ?z4) ?B ?F ?X ?N ?T ?hA ?hf ?hke ?hd ?hl ?_; (case B => assumption); (case F => k_asm); (case X => assumption); (case N => k_asm); (case T => assumption); (case hA => exact rfl); (case hf => exact rfl); (case hke => exact rfl); (case hd => omega); (case hl => assumption); (case z1 => omega); (case z2 => omega); (case z3 => omega); (case z4 => omega)))
        | (k_dflt (refine' useIn rfl (mid_rsh l rr) (ih _ _ ?z1 ?z2 ?z3 ?z4) ?B ?F ?X ?N ?T ?hA ?hf ?hke ?hd ?hl ?_; (case B => assumption); (case F => k_asm); (case X => assumption); (case N => k_asm); (case T => assumption); (case hA => exact rfl); (case hf => exact rfl); (case hke => exact rfl); (case hd => omega); (case hl => assumption); (case z1 => omega); (case z2 => omega); (case z3 => omega); (case z4 => omega)))); k_whole; intro t' h' tk' F' N'))
      by_cases e9 : l + 1 = rr
      · have e10 : (l : Int) + 1 = (rr : Int) := by omega
        rw [d2v_one e9] at h
        k_steps
        all_goals (try k_data)
        exact h _ _ _ (by k_asm) (by k_asm)
      · have e10 : ¬ ((l : Int) + 1 = (rr : Int)) := by omega
        rw [d2v_sh e9 a1] at h
        k_steps
        all_goals (try k_data)
        exact h _ _ _ (by k_asm) (by k_asm)
theorem getD_b {ds : List Int} (hb : ∀ d ∈ ds, 0 ≤ d ∧ d < 128) (i : Nat) : 0 ≤ ds.getD i 0 ∧ ds.getD i 0 < 128 := by
  rw [List.getD_eq_getElem?_getD]
  cases h : ds[i]? with
  | none => exact ⟨by decide, by decide⟩
  | some d => exact hb d (List.mem_of_getElem? h)
theorem d2i_1 (w : World) (r : Addr) (d0 : Int) (n : Int) (tk : Tok) (hn : 5 ≤ n ∧ n ≤ 7) (h0 : 0 ≤ d0 ∧ d0 < 128) : Ct w 42 [.ref r, .int n tk] 6 60 (d2iPre r [d0]) (d2iPost (d0)) :=
  d2i_gen w r [d0] n tk hn (Nat.le_of_ble_eq_true rfl) (Nat.zero_lt_succ _) (getD_b fun d h => by rw [List.mem_singleton.mp h]; exact h0)
end
section
theorem flush_I2B : (1 : Nat) = 1 := by
  w_top off
  k_with_none
  first | walk1 | rfl
theorem land_absorb (A b : Nat) : (A ||| b) &&& A = A := by
  apply Nat.eq_of_testBit_eq
  intro i
  rw [Nat.testBit_and, Nat.testBit_or]
  cases A.testBit i <;> simp
theorem xor_split {u l : Int} {s : Nat} (hu : 0 ≤ u) (hl : 0 ≤ l ∧ l < 2 ^ s) : PySem.Builtin.bitXor (u * 2 ^ s + l) (u * 2 ^ s) = l := by
  obtain ⟨un, rfl⟩ := Int.eq_ofNat_of_zero_le hu
  obtain ⟨ln, rfl⟩ := Int.eq_ofNat_of_zero_le hl.1
  have hln : ln < 2 ^ s := by have := hl.2; have e := kbt_cast s; omega
  have e1 : ((un : Int) * 2 ^ s) = ((2 ^ s * un : Nat) : Int) := by rw [← kbt_cast, Int.natCast_mul, Int.mul_comm]
  have e2 : ((un : Int) * 2 ^ s + (ln : Int)) = ((2 ^ s * un + ln : Nat) : Int) := by rw [e1, Int.natCast_add]
  rw [bitXor_and, e2, e1, bitAnd_pp (by omega) (by omega)]
  simp only [Int.toNat_natCast]
  rw [Nat.two_pow_add_eq_or_of_lt hln, land_absorb, ← Nat.two_pow_add_eq_or_of_lt hln]
  omega
theorem shr_split {u l : Int} {s : Nat} (hl : 0 ≤ l ∧ l < 2 ^ s) : (u * 2 ^ s + l).fdiv (2 ^ s) = u := by
  have hp := kbt_pos s
  rw [Int.fdiv_eq_ediv_of_nonneg _ (by omega), Int.add_comm, Int.add_mul_ediv_right _ _ (by omega), Int.ediv_eq_zero_of_lt hl.1 hl.2]
  omega
section
variable {prog : Program} {w : World} {A : Around} {E : Value → Shared → Prop} {s : Shared} {Q : Value → Shared → Prop}
theorem r_shr {u l j n : Int} {t v : Tok} (hj : 0 ≤ j) (hn : 5 ≤ n ∧ n ≤ 7) (hl : 0 ≤ l ∧ l < 2 ^ (j * n).toNat) (h : Q (.int u s.toks) { s with toks := s.toks + 1 }) : wpAny (model prog w) A (binaryOp .RShift (.int (u * 2 ^ (j * n).toNat + l) t) (.int (j * n) v)) Q E s := by
  refine rshift_int (Int.mul_nonneg hj (by omega)) ?_
  rw [shr_split hl]; exact h
theorem r_xor {u l : Int} {k : Nat} {t v : Tok} (hu : 0 ≤ u) (hl : 0 ≤ l ∧ l < 2 ^ k) (h : Q (.int l s.toks) { s with toks := s.toks + 1 }) : wpAny (model prog w) A (binaryOp .BitXor (.int (u * 2 ^ k + l) t) (.int (u * 2 ^ k) v)) Q E s := by
  refine xor_int ?_
  rw [xor_split hu hl]; exact h
theorem r_fdiv {a n k : Int} {t v : Tok} (hn : 5 ≤ n ∧ n ≤ 7) (e : a.fdiv n = k) (h : Q (.int k s.toks) { s with toks := s.toks + 1 }) : wpAny (model prog w) A (binaryOp .FloorDiv (.int a t) (.int n v)) Q E s := by
  refine floordiv_int (by omega) ?_
  rw [e]; exact h
end
theorem pow2_b {n : Int} (hn : 5 ≤ n ∧ n ≤ 7) : (2 : Int) ^ (2 * n).toNat = 2 ^ (1 * n).toNat * 2 ^ (1 * n).toNat := by
  have : n = 5 ∨ n = 6 ∨ n = 7 := by omega
  rcases this with rfl | rfl | rfl <;> decide
theorem two_lt {n a b : Int} (hn : 5 ≤ n ∧ n ≤ 7) (ha : 0 ≤ a ∧ a < 2 ^ (1 * n).toNat) (hb : 0 ≤ b ∧ b < 2 ^ (1 * n).toNat) : 0 ≤ a * 2 ^ (1 * n).toNat + b ∧ a * 2 ^ (1 * n).toNat + b < 2 ^ (2 * n).toNat := by
  have := pow_b hn
  have h1 : 0 ≤ a * 2 ^ (1 * n).toNat := Int.mul_nonneg ha.1 this.1
  have h2 : (a + 1) * 2 ^ (1 * n).toNat ≤ 2 ^ (1 * n).toNat * 2 ^ (1 * n).toNat := Int.mul_le_mul_of_nonneg_right (by omega) this.1
  rw [Int.add_mul] at h2
  rw [pow2_b hn]
  omega
theorem lt128 {n a : Int} (hn : 5 ≤ n ∧ n ≤ 7) (ha : 0 ≤ a ∧ a < 2 ^ (1 * n).toNat) : 0 ≤ a ∧ a < 128 := by
  have := pow_b hn
  omega
theorem cut1 {M : Model} {A : Around} {E : Value → Shared → Prop} {Q : Flow → Shared → Prop} {s : Shared} {st : Stmt} {rest : List Stmt} {env : Env} (EC : Shared → Prop)
    (h1 : wpAny M A (exec st env) (fun f s' => f = .next ∧ EC s') E s) (h2 : ∀ s', EC s' → wpAny M A (execs rest env) Q E s') : wpAny M A (execs (st :: rest) env) Q E s := by
  refine wpAny_execs_cons (wpAny_mono h1 (fun f s' q => ?_) fun _ _ e => e)
  obtain ⟨rfl, r⟩ := q
  exact h2 s' r
theorem tabq_in' {P L : Addr} {pos : Pos} {qual : Str} {g h h₁ : Heap} {ps : Array Value} {news : List (Addr × Obj)} (hps : ps = #[] ∨ ∃ (c' : Addr) (oc : Obj) (vs : Array Value) (t : Tok), ps = #[rawInt pos.line, rawInt pos.col, .ref c'] ∧ h.get? c' = some oc ∧ g.get? c' = none ∧ oc.data = .fields vs ∧ vs[1]? = some (.str qual t))
    (hP : h.get? P = some (tabObj ps)) (k : ∀ b o, b ≠ P → h.get? b = some o → h₁.get? b = some o) (hL : h.objs.size ≤ L) (hn' : OrGt P L news) :
    ps = #[] ∨ ∃ (c' : Addr) (oc : Obj) (vs : Array Value) (t : Tok), ps = #[rawInt pos.line, rawInt pos.col, .ref c'] ∧ h₁.get? c' = some oc ∧ c' ≠ L ∧ g.get? c' = none ∧ oc.data = .fields vs ∧ vs[1]? = some (.str qual t) ∧ (∀ q ∈ news, q.1 ≠ c') ∧ h.get? c' = some oc := by
  rcases hps with rfl | ⟨c', oc, vs, t, rfl, e1, e2, e3, e4⟩
  · exact .inl rfl
  · have lc : c' < L := Nat.lt_of_lt_of_le (Heap.lt_size e1) hL
    refine .inr ⟨c', oc, vs, t, rfl, k _ _ (tabq_ne hP e1 e3 e4).symm e1, Nat.ne_of_lt lc, e2, e3, e4, fun q hq => ?_, e1⟩
    rcases hn'.at q hq with e | e
    · rw [e]; exact tabq_ne hP e1 e3 e4
    · exact Nat.ne_of_gt (Nat.lt_trans lc e)
/-- behind the first line of _int2digits -/
def EcI (g₂ : Heap) (L : Nat) (m : Str → Option Value) (s : Shared) (on oi : Obj) (ps : Array Value) (k : Nat) (s' : Shared) : Prop :=
  ∃ (D : Addr) (t : Tok) (oc : Obj) (h : Heap) (tk : Nat), s' = { s with heap := h, toks := tk } ∧ Fr g₂ L h m ∧ News g₂ L h [(D, PySem.W.listOf (List.replicate k (Value.int 0 t)).toArray 0), (L + 1 + 1 + 1, oi), (L + 1 + 1, oc), (L + 1, on), (30, tabObj ps)] ∧ oc.data = .cell (some (.ref D)) ∧ @LT.lt Nat _ (L + 3) D
theorem ecI_intro {g₂ : Heap} {L : Nat} {m : Str → Option Value} {s : Shared} {on oi oc : Obj} {ps : Array Value} {k : Nat} {D l : Addr} {t : Tok} {ol : Obj} {h : Heap} {tk : Nat} (F : Fr g₂ L h m) (N : News g₂ L h [(D, PySem.W.listOf (List.replicate k (Value.int 0 t)).toArray 0), (l, ol), (L + 1 + 1 + 1, oi), (L + 1 + 1, oc), (L + 1, on), (30, tabObj ps)]) (hd : oc.data = .cell (some (.ref D))) (lt : @LT.lt Nat _ (L + 3) D) : EcI g₂ L m s on oi ps k { s with heap := h, toks := tk } :=
  ⟨D, t, oc, h, tk, rfl, F, List.forall_mem_cons.mpr ⟨N _ (.head _), fun q hq => N q (.tail _ (.tail _ hq))⟩, hd, lt⟩
theorem cutI {M : Model} {A : Around} {E : Value → Shared → Prop} {Q : Flow → Shared → Prop} {s₀ : Shared} {h : Heap} {tk : Nat} {st : Stmt} {rest : List Stmt} {env : Env} {g₂ : Heap} {L : Nat} {m : Str → Option Value} {on oc oi : Obj} {ps : Array Value} (k : Nat)
    (_F : Fr g₂ L h m) (_N : News g₂ L h [(L + 1 + 1 + 1, oi), (L + 1 + 1, oc), (L + 1, on), (30, tabObj ps)])
    (h1 : wpAny M A (exec st env) (fun f s' => f = .next ∧ EcI g₂ L m s₀ on oi ps k s') E { s₀ with heap := h, toks := tk })
    (h2 : ∀ (D : Addr) (t : Tok) (oc : Obj) (h : Heap) (tk : Nat), Fr g₂ L h m → News g₂ L h [(D, PySem.W.listOf (List.replicate k (Value.int 0 t)).toArray 0), (L + 1 + 1 + 1, oi), (L + 1 + 1, oc), (L + 1, on), (30, tabObj ps)] → oc.data = .cell (some (.ref D)) → @LT.lt Nat _ (L + 3) D → wpAny M A (execs rest env) Q E { s₀ with heap := h, toks := tk }) :
    wpAny M A (execs (st :: rest) env) Q E { s₀ with heap := h, toks := tk } :=
  cut1 _ h1 (by rintro s' ⟨D, t, oc, h, tk, rfl, F, N, hc, lt⟩; exact h2 D t oc h tk F N hc lt)
def i2dPost (ds : List Int) (g h h' : Heap) (x : Value) : Prop := (∃ (D : Addr) (vs : List Value) (nn : Nat), x = .ref D ∧ g.get? D = none ∧ h'.get? D = some (PySem.W.listOf (List.toArray vs) nn) ∧ IntsAre vs ds) ∧ TabHit 30 i2dPos i2dQ g h h'
theorem i2d_end {ds : List Int} {arr : Array Value} {D : Addr} {nn : Nat} {g h h' : Heap} {L : Addr} {m : Str → Option Value} {news : List (Addr × Obj)} {c' : Addr} {oc : Obj} {vs : Array Value} {t' : Tok} (_F : Fr g L h' m) (N : News g L h' news) (h0 : (D, PySem.W.listOf arr nn) ∈ news) (h1 : (30, tabObj #[rawInt i2dPos.line, rawInt i2dPos.col, .ref c']) ∈ news) (h2 : (c', oc) ∈ news) (hd : oc.data = .fields vs) (hv : vs[1]? = some (.str i2dQ t')) {ps : Array Value} (hP : h.get? 30 = some (tabObj ps)) (r : ps = #[] ∨ (ps = #[rawInt i2dPos.line, rawInt i2dPos.col, .ref c'] ∧ h.get? c' = some oc)) (hI : IntsAre arr.toList ds) : i2dPost ds g h h' (.ref D) :=
  ⟨⟨D, arr.toList, nn, rfl, (N _ h0).2.2, by rw [Array.toArray_toList]; exact (N _ h0).1, hI⟩, c', oc, vs, t', (N _ h1).1, (N _ h2).1, (N _ h2).2.2, hd, hv, tab_rel (X := fun ps => ps = #[] ∨ (ps = #[rawInt i2dPos.line, rawInt i2dPos.col, .ref c'] ∧ h.get? c' = some oc)) hP r⟩
theorem one_b' {n a : Int} (hn : 5 ≤ n ∧ n ≤ 7) (ha : 0 ≤ a ∧ a < 2 ^ (1 * n).toNat) : 0 ≤ a ∧ a < 1000000 := one_b (lt128 hn ha)
theorem two_b' {n a b : Int} (hn : 5 ≤ n ∧ n ≤ 7) (ha : 0 ≤ a ∧ a < 2 ^ (1 * n).toNat) (hb : 0 ≤ b ∧ b < 2 ^ (1 * n).toNat) : 0 ≤ a * 2 ^ (1 * n).toNat + b ∧ a * 2 ^ (1 * n).toNat + b < 1000000 := two_b hn (lt128 hn ha) (lt128 hn hb)
end
section
theorem flush_I2_0 : (1 : Nat) = 1 := by
  w_top off
  k_with_none
  first | walk1 | rfl
theorem i2d_0 (w : World) (n : Int) (ta tk : Tok) (hn : 5 ≤ n ∧ n ≤ 7) (hk : ((PySem.Builtin.Int.intBits (0) : Nat) + n - 1).fdiv n = 0) : Ct w 35 [.int (0) ta, .int n tk] 6 60 (fun g h => TabQ 30 i2dPos i2dQ g h) (i2dPost []) := by
  unfold Ct
  k_fill
  intro p loose mean mg mb dp un gd outer A₀ base g s R B X T kp sz hp hd hu ret
  obtain ⟨ps, hP, gP, hps⟩ := hp
  have hC := codeHd_i2d X
  have st : ∀ b o, g.get? b = some o → (hideAll s.heap [30]).get? b = some o := fun b o e => hideAll_get _ (kp b o e) fun hm => by rw [List.mem_singleton.mp hm, gP] at e; cases e
  have X2 := X.keeps st
  have T2 := T.keeps st
  have g30 : (hideAll s.heap [30]).get? 30 = none := hideAll_none _ (.head _)
  k_dflt (refine' enterNC (g := hideAll s.heap [30]) (news := [(30, tabObj ps)]) ?k1 ?k2 ?k3 ?k4 ?k5 ?k6 ?k7 ?k8 ?k9 ?kB ?kD ?c2 ?c3 ?c4 ?kR; (case k1 => exact X2); (case k2 => exact T2); (case k3 => exact fun b o e => of_hideAll _ e); (case k4 => exact Nat.le_of_eq (hideAll_size _ _)); (case k5 => exact List.forall_mem_cons.mpr ⟨⟨hP, g30⟩, List.forall_mem_nil _⟩); (case k6 => k_is); (case k7 => k_is); (case k8 => omega); (case k9 => exact BindsTo.of_eq rfl); (case kB => exact rfl); (case kD => decide +kernel); (case c2 => exact rfl); (case c3 => exact rfl); (case c4 => exact rfl))
  k_whole
  intro L' h₁ tk₁ cells F' hL hk₁ N' Y' lN'
  (try dsimp only)
  k_fold
  (try k_lt lN')
  k_cells Y'
  (try simp only [List.cons_append, List.nil_append] at N')
  refine cutI (s₀ := s) 0 F' N' ?_ ?_
  · k_with_none
    (k_with "binaryOp FloorDiv int int" => refine r_fdiv hn hk ?_)
    k_steps
    all_goals (try k_data)
    all_goals first | exact True.intro | (k_dflt (refine' ecI_intro (t := ta) ?zF ?zN ?zd ?zl; (case zF => k_asm); (case zN => k_asm); (case zd => assumption); (case zl => omega)))
  · intro D9 t9' oc8 h' tk' F2 N2 hc8 lD9
    have F9 : Fr g L' h' _ := ⟨F2.ns, fun b o e => F2.keep b o (st b o e), Nat.le_trans sz hL⟩
    have N9 : PyProof.Rows.News g L' h' _ := fun q hq => ⟨(N2 q hq).1, (N2 q hq).2.1, by
      cases e : g.get? q.1 with
      | none => rfl
      | some o => have := (N2 q hq).2.2; rw [st _ _ e] at this; cases this⟩
    have kc : ∀ b o, b ≠ 30 → s.heap.get? b = some o → h'.get? b = some o := fun b o hb e => F2.keep b o (hideAll_get _ e fun hm => hb (List.mem_singleton.mp hm))
    clear F2 N2 F' N' X2 T2 g30 hk₁
    k_with_none
    (k_with "exec FunctionDef" => (k_dflt (refine' nestDef_K ?d0 ?k0 ?a0 ?_; (case d0 => exact rfl); (case k0 => exact rfl); (case a0 => exact rfl)); k_dflt (refine' nest_any (pos := i2dPos) (qual := i2dQ) ?F ?N ?T ?C ?cd ?U ?ps ?cl ?_; (case F => k_asm); (case N => k_asm); (case T => k_asm); (case C => exact hC); (case cd => exact rfl); (case U => k_updF); (case ps => exact tabq_in' hps hP kc hL (by repeat' (first | exact trivial | refine And.intro (.inl rfl) ?_ | refine And.intro (.inr (by show (_ : Nat) < _; omega)) ?_))); (case cl => exact rfl)); k_whole; intro f' c9 oc9 vs9 t9 ct' dc' h' tk' F' N' d19 d29 l0 l1 l2 rel9; (try dsimp only at N'); (replace l0 := gnNe_of l0; simp only [GnNe, and_true] at l0); (try k_lt l1); (try k_lt2 l2)))
    (k_with "binaryOp RShift int int" => (k_here; first | ((with_reducible refine' r_shr ?z ?y ?a ?_); (case z => decide); (case y => assumption); (case a => first | assumption | exact two_lt (by assumption) (by assumption) (by assumption))) | refine lit_rsh (b := 1) (by decide) ?_ | refine lit_rsh (b := 2) (by decide) ?_ | refine lit_rsh (b := 3) (by decide) ?_))
    (k_with "binaryOp Sub int int" => (k_here; first | refine lit_sub (c := 1) (by decide) ?_ | refine lit_sub (c := 2) (by decide) ?_))
    (k_with "binaryOp LShift int int" => (k_here; (with_reducible refine' lsh ?a ?y ?b ?_); (case a => decide); (case y => assumption); (case b => first | exact one_b' (by assumption) (by assumption) | exact two_b' (by assumption) (by assumption) (by assumption))))
    (k_with "binaryOp BitXor int int" => (k_here; (with_reducible refine' r_xor ?a ?b ?_); (case b => first | assumption | exact two_lt (by assumption) (by assumption) (by assumption)); (case a => first | exact (two_lt (by assumption) (by assumption) (by assumption)).1 | exact (one_b' (by assumption) (by assumption)).1)))
    (k_with "call ref" => (k_here; k_dflt (refine wpAny_call ?_; refine' code_nest ?k1 ?k2 ?k3 ?k4 ?k5 ?kA ?kF ?kK ?k6 ?k7 ?k8 ?k9 ?kB ?_ ?c2 ?c3 ?c4 ?c5; (case kA => exact rfl); (case kF => exact rfl); (case kK => exact rfl); (case k1 => k_asm); (case k2 => k_asm); (case k3 => k_asm); (case k4 => k_asm); (case k5 => k_asm); (case k6 => k_mem); (case k7 => exact codeRec_news (by k_asm) (by k_mem) (by assumption) (by assumption)); (case k8 => ((try simp only [depth_deeper]); (try dsimp only [arC]); omega)); (case k9 => exact BindsTo.of_eq rfl); (case c5 => decide); (case kB => exact locs rfl); (case c2 => exact rfl); (case c3 => exact rfl); (case c4 => exact rfl)); k_whole; intro g' L' h' FG' F' N' B' X' T'; (try dsimp only); (try k_lift B'); (try k_fold)))
    k_steps
    all_goals (try k_data)
    all_goals first
      | (exfalso; omega)
      | exact back (s := s) ret (by k_asm) hL (i2d_end (by k_asm) (by k_asm) (by k_mem) (by k_mem) (by k_mem) d19 d29 hP rel9 (.nil))
end
section
theorem flush_I2G : (1 : Nat) = 1 := by
  w_top off
  k_with_none
  first | walk1 | rfl
/-- the row of figures behind the nested def -/
def putS (ds : List Int) : Nat → Nat → Nat → List Int → List Int
  | 0, _, _, ns => ns
  | j + 1, l, r, ns => if l + 1 = r then ns.set l (ds.getD l 0) else putS ds j ((l + r) / 2) r (putS ds j l ((l + r) / 2) ns)
theorem putS_one {ds ns : List Int} {j l r : Nat} (e : l + 1 = r) : putS ds (j + 1) l r ns = ns.set l (ds.getD l 0) := if_pos e
theorem putS_two {ds ns : List Int} {j l r : Nat} (e : ¬ l + 1 = r) : putS ds (j + 1) l r ns = putS ds j ((l + r) / 2) r (putS ds j l ((l + r) / 2) ns) := if_neg e
theorem putS_len {ds : List Int} : ∀ {j l r : Nat} {ns : List Int}, (putS ds j l r ns).length = ns.length := by
  intro j
  induction j with
  | zero => intro l r ns; rfl
  | succ j ih =>
    intro l r ns
    by_cases e : l + 1 = r
    · rw [putS_one e, List.length_set]
    · rw [putS_two e, ih, ih]
/-- behind the first line of _int2digits -/
def EcG (g₂ : Heap) (L : Nat) (m : Str → Option Value) (s : Shared) (on oi : Obj) (ps : Array Value) (k : Nat) (s' : Shared) : Prop :=
  ∃ (D : Addr) (cs : List Value) (oc : Obj) (h : Heap) (tk : Nat), s' = { s with heap := h, toks := tk } ∧ IntsAre cs (List.replicate k 0) ∧ Fr g₂ L h m ∧ News g₂ L h [(D, PySem.W.listOf cs.toArray 0), (L + 1 + 1 + 1, oi), (L + 1 + 1, oc), (L + 1, on), (30, tabObj ps)] ∧ oc.data = .cell (some (.ref D)) ∧ @LT.lt Nat _ (L + 3) D
theorem cutG {M : Model} {A : Around} {E : Value → Shared → Prop} {Q : Flow → Shared → Prop} {s₀ : Shared} {h : Heap} {tk : Nat} {st : Stmt} {rest : List Stmt} {env : Env} {g₂ : Heap} {L : Nat} {m : Str → Option Value} {on oc oi : Obj} {ps : Array Value} (k : Nat)
    (_F : Fr g₂ L h m) (_N : News g₂ L h [(L + 1 + 1 + 1, oi), (L + 1 + 1, oc), (L + 1, on), (30, tabObj ps)])
    (h1 : wpAny M A (exec st env) (fun f s' => f = .next ∧ EcG g₂ L m s₀ on oi ps k s') E { s₀ with heap := h, toks := tk })
    (h2 : ∀ (D : Addr) (cs : List Value) (oc : Obj) (h : Heap) (tk : Nat), IntsAre cs (List.replicate k 0) → Fr g₂ L h m → News g₂ L h [(D, PySem.W.listOf cs.toArray 0), (L + 1 + 1 + 1, oi), (L + 1 + 1, oc), (L + 1, on), (30, tabObj ps)] → oc.data = .cell (some (.ref D)) → @LT.lt Nat _ (L + 3) D → wpAny M A (execs rest env) Q E { s₀ with heap := h, toks := tk }) :
    wpAny M A (execs (st :: rest) env) Q E { s₀ with heap := h, toks := tk } :=
  cut1 _ h1 (by rintro s' ⟨D, cs, oc, h, tk, rfl, hI, F, N, hc, lt⟩; exact h2 D cs oc h tk hI F N hc lt)
theorem rep_ints (t : Tok) (k : Nat) : IntsAre (List.replicate ((k : Int)).toNat [Value.int 0 t]).flatten (List.replicate k 0) := by
  rw [Int.toNat_natCast]
  induction k with
  | zero => exact .nil
  | succ k ih => rw [List.replicate_succ, List.replicate_succ]; exact .cons _ _ ih
theorem ecG_intro {g₂ : Heap} {L : Nat} {m : Str → Option Value} {s : Shared} {on oi oc : Obj} {ps : Array Value} {k : Nat} {D l : Addr} {cs : List Value} {ol : Obj} {h : Heap} {tk : Nat} (hI : IntsAre cs (List.replicate k 0)) (F : Fr g₂ L h m) (N : News g₂ L h [(D, PySem.W.listOf cs.toArray 0), (l, ol), (L + 1 + 1 + 1, oi), (L + 1 + 1, oc), (L + 1, on), (30, tabObj ps)]) (hd : oc.data = .cell (some (.ref D))) (lt : @LT.lt Nat _ (L + 3) D) : EcG g₂ L m s on oi ps k { s with heap := h, toks := tk } :=
  ⟨D, cs, oc, h, tk, rfl, hI, F, List.forall_mem_cons.mpr ⟨N _ (.head _), fun q hq => N q (.tail _ (.tail _ hq))⟩, hd, lt⟩
/-- what a call of the nested def does, over a ledger that holds it and the row of figures -/
def InnerI (w : World) (f : Addr) (nw : List Value → List (Addr × Obj)) (x : Int) (ds : List Int) (j l rr : Nat) : Prop :=
  ∀ (p : Program) (loose : List Str) (mean : ExcName → Option Value) (mg mb : Str → Option Value) (dp un : Nat) (gd : Option (List Code)) (outer : List Env) (env : Env) (A₀ : Around) (base h₀ : Heap) (L : Addr) (m : Str → Option Value) (s : Shared) (t0 t1 t2 : Tok) (cs : List Value) (ns : List Int) (Q E : Value → Shared → Prop),
    IntsAre cs ns → ns.length = ds.length → Below A₀ base outer h₀ → Fr h₀ L s.heap m → (Mine.hd.heap_1 w.params).In h₀ → News h₀ L s.heap (nw cs) → Top p loose mean mg mb h₀ → env.frame = some L → env.scope.kind = .function → dp + (j + 1) < recursionLimit →
    (∀ cs' h' tk', IntsAre cs' (putS ds j l rr ns) → Fr h₀ L h' m → News h₀ L h' (nw cs') → Q .none { s with heap := h', toks := tk' }) →
    wpAny (model PySem.Challenge.rw_pe0269_01.row.prog w) (arC dp un gd (env :: outer)) (call (.ref f) [.int x t0, .int (l : Int) t1, .int (rr : Int) t2]) Q E s
theorem useInI {w : World} {f : Addr} {nw : List Value → List (Addr × Obj)} {x : Int} {ds : List Int} {j l rr : Nat} {p : Program} {loose : List Str} {mean : ExcName → Option Value} {mg mb : Str → Option Value} {dp un : Nat} {gd : Option (List Code)} {outer : List Env} {env : Env} {A A₀ : Around} {base h₀ : Heap} {L : Addr} {m : Str → Option Value} {s : Shared} {t0 t1 t2 : Tok} {cs : List Value} {ns : List Int} {a b : Int} {Q E : Value → Shared → Prop}
    (ea : a = (l : Int)) (eb : b = (rr : Int)) (C : InnerI w f nw x ds j l rr) (hI : IntsAre cs ns) (hln : ns.length = ds.length) (B : Below A₀ base outer h₀) (F : Fr h₀ L s.heap m) (X : (Mine.hd.heap_1 w.params).In h₀) (N : News h₀ L s.heap (nw cs)) (T : Top p loose mean mg mb h₀) (hA : A = arC dp un gd (env :: outer)) (hf : env.frame = some L) (hke : env.scope.kind = .function) (hd : dp + (j + 1) < recursionLimit)
    (h : ∀ cs' h' tk', IntsAre cs' (putS ds j l rr ns) → (putS ds j l rr ns).length = ds.length → Fr h₀ L h' m → News h₀ L h' (nw cs') → Q .none { s with heap := h', toks := tk' }) :
    wpAny (model PySem.Challenge.rw_pe0269_01.row.prog w) A (call (.ref f) [.int x t0, .int a t1, .int b t2]) Q E s := by
  subst hA ea eb
  exact C p loose mean mg mb dp un gd outer env A₀ base h₀ L m s t0 t1 t2 cs ns Q E hI hln B F X N T hf hke hd fun cs' h' tk' hI' F' N' => h cs' h' tk' hI' (by rw [putS_len]; exact hln) F' N'
theorem cutAll {g h : Heap} {L : Addr} {ns : List Int} {nw : List Value → List (Addr × Obj)} {G : List Value → Prop} (C : (List Value → List (Addr × Obj)) → Prop) (H : C nw) (K : C nw → ∀ cs, IntsAre cs ns → News g L h (nw cs) → G cs) : ∀ cs, IntsAre cs ns → News g L h (nw cs) → G cs := K H
theorem d2v_lt {n : Int} {ds : List Int} (hn : 5 ≤ n ∧ n ≤ 7) (hb : ∀ i, 0 ≤ ds.getD i 0 ∧ ds.getD i 0 < 2 ^ (1 * n).toNat) : ∀ {j l r : Nat}, l < r → r ≤ l + j → 0 ≤ d2v n ds j l r ∧ d2v n ds j l r < 2 ^ ((((r - l : Nat) : Int)) * n).toNat := by
  intro j
  induction j with
  | zero => intro l r h1 h2; omega
  | succ j ih =>
    intro l r h1 h2
    by_cases e : l + 1 = r
    · rw [d2v_one e, show r - l = 1 by omega]
      exact hb l
    · rw [d2v_two e]
      have u := ih (l := (l + r) / 2) (r := r) (by omega) (by omega)
      have v := ih (l := l) (r := (l + r) / 2) (by omega) (by omega)
      generalize d2v n ds j ((l + r) / 2) r = U at *
      generalize d2v n ds j l ((l + r) / 2) = V at *
      obtain ⟨a, ha⟩ : ∃ a, a = (l + r) / 2 - l := ⟨_, rfl⟩
      obtain ⟨b, hb'⟩ : ∃ b, b = r - (l + r) / 2 := ⟨_, rfl⟩
      have hab : r - l = a + b := by omega
      rw [← ha] at v ⊢
      rw [← hb'] at u
      rw [hab]
      have e1 : (((a + b : Nat) : Int) * n).toNat = ((b : Int) * n).toNat + ((a : Int) * n).toNat := by
        rw [Int.natCast_add, Int.add_mul, Int.toNat_add (Int.mul_nonneg (by omega) (by omega)) (Int.mul_nonneg (by omega) (by omega))]
        omega
      rw [e1, Int.pow_add]
      generalize (2 : Int) ^ ((b : Int) * n).toNat = PB at *
      have hp : (0 : Int) < 2 ^ ((a : Int) * n).toNat := kbt_pos _
      generalize (2 : Int) ^ ((a : Int) * n).toNat = PA at *
      have h3 : (U + 1) * PA ≤ PB * PA := Int.mul_le_mul_of_nonneg_right (by omega) (by omega)
      rw [Int.add_mul] at h3
      have h4 := Int.mul_nonneg u.1 (by omega : 0 ≤ PA)
      omega
theorem low_lt {n : Int} {ds : List Int} (hn : 5 ≤ n ∧ n ≤ 7) (hb : ∀ i, 0 ≤ ds.getD i 0 ∧ ds.getD i 0 < 2 ^ (1 * n).toNat) {j l r : Nat} (h1 : l + 1 < r) (h2 : r ≤ l + (j + 1)) : 0 ≤ d2v n ds j l ((l + r) / 2) ∧ d2v n ds j l ((l + r) / 2) < 2 ^ ((((l : Int) + (r : Int)).fdiv (2 ^ Int.toNat 1) - (l : Int)) * n).toNat := by
  rw [mid_rsh, mid_sub (by omega)]
  exact d2v_lt hn hb (by omega) (by omega)
theorem lt_128 {n : Int} {ds : List Int} (hn : 5 ≤ n ∧ n ≤ 7) (hb : ∀ i, 0 ≤ ds.getD i 0 ∧ ds.getD i 0 < 2 ^ (1 * n).toNat) (i : Nat) : 0 ≤ ds.getD i 0 ∧ ds.getD i 0 < 128 := lt128 hn (hb i)
theorem putS_all {ds : List Int} (h1 : ds.length ≤ 4) (h0 : 0 < ds.length) : putS ds 4 0 ds.length (List.replicate ds.length 0) = ds :=
  match ds, h1, h0 with
  | [a], _, _ => by simp [putS]
  | [a, b], _, _ => by simp [putS]
  | [a, b, c], _, _ => by simp [putS]
  | [a, b, c, d], _, _ => by simp [putS]
  | _ :: _ :: _ :: _ :: _ :: _, hl, _ => by simp only [List.length_cons] at hl; omega
theorem i2d_gen (w : World) (ds : List Int) (n : Int) (ta tk : Tok) (hn : 5 ≤ n ∧ n ≤ 7) (hlen : ds.length ≤ 4) (hne : 0 < ds.length) (hb : ∀ i, 0 ≤ ds.getD i 0 ∧ ds.getD i 0 < 2 ^ (1 * n).toNat) (hpos : 0 < d2v n ds 4 0 ds.length) (hk : ((PySem.Builtin.Int.intBits (d2v n ds 4 0 ds.length) : Nat) + n - 1).fdiv n = (ds.length : Int)) : Ct w 35 [.int (d2v n ds 4 0 ds.length) ta, .int n tk] 6 60 (fun g h => TabQ 30 i2dPos i2dQ g h) (i2dPost ds) := by
  unfold Ct
  k_fill
  intro p loose mean mg mb dp un gd outer A₀ base g s R B X T kp sz hp hd hu ret
  obtain ⟨ps, hP, gP, hps⟩ := hp
  have hC := codeHd_i2d X
  have st : ∀ b o, g.get? b = some o → (hideAll s.heap [30]).get? b = some o := fun b o e => hideAll_get _ (kp b o e) fun hm => by rw [List.mem_singleton.mp hm, gP] at e; cases e
  have X2 := X.keeps st
  have T2 := T.keeps st
  have g30 : (hideAll s.heap [30]).get? 30 = none := hideAll_none _ (.head _)
  generalize hx : d2v n ds 4 0 ds.length = x0 at *
  k_dflt (refine' enterNC (g := hideAll s.heap [30]) (news := [(30, tabObj ps)]) ?k1 ?k2 ?k3 ?k4 ?k5 ?k6 ?k7 ?k8 ?k9 ?kB ?kD ?c2 ?c3 ?c4 ?kR; (case k1 => exact X2); (case k2 => exact T2); (case k3 => exact fun b o e => of_hideAll _ e); (case k4 => exact Nat.le_of_eq (hideAll_size _ _)); (case k5 => exact List.forall_mem_cons.mpr ⟨⟨hP, g30⟩, List.forall_mem_nil _⟩); (case k6 => k_is); (case k7 => k_is); (case k8 => omega); (case k9 => exact BindsTo.of_eq rfl); (case kB => exact rfl); (case kD => decide +kernel); (case c2 => exact rfl); (case c3 => exact rfl); (case c4 => exact rfl))
  k_whole
  intro L' h₁ tk₁ cells F' hL hk₁ N' Y' lN'
  (try dsimp only)
  k_fold
  (try k_lt lN')
  k_cells Y'
  (try simp only [List.cons_append, List.nil_append] at N')
  refine cutG (s₀ := s) ds.length F' N' ?_ ?_
  · k_with_none
    (k_with "binaryOp FloorDiv int int" => refine r_fdiv hn hk ?_)
    k_steps
    all_goals (try k_data)
    all_goals first | exact True.intro | (k_dflt (refine' ecG_intro (rep_ints _ _) ?zF ?zN ?zd ?zl; (case zF => k_asm); (case zN => k_asm); (case zd => assumption); (case zl => omega)))
  · intro D9 cs9 oc8 h' tk' hI9 F2 N2 hc8 lD9
    have F9 : Fr g L' h' _ := ⟨F2.ns, fun b o e => F2.keep b o (st b o e), Nat.le_trans sz hL⟩
    have N9 : PyProof.Rows.News g L' h' _ := fun q hq => ⟨(N2 q hq).1, (N2 q hq).2.1, by
      cases e : g.get? q.1 with
      | none => rfl
      | some o => have := (N2 q hq).2.2; rw [st _ _ e] at this; cases this⟩
    have kc : ∀ b o, b ≠ 30 → s.heap.get? b = some o → h'.get? b = some o := fun b o hb e => F2.keep b o (hideAll_get _ e fun hm => hb (List.mem_singleton.mp hm))
    clear F2 N2 F' N' X2 T2 g30 hk₁
    have hs9 : cs9.toArray.size = ds.length := by rw [List.size_toArray, hI9.length, List.length_replicate]
    have hs8 : ds.length < 2 ^ 62 := by omega
    k_with_none
    (k_with "exec FunctionDef" => (k_dflt (refine' nestDef_K ?d0 ?k0 ?a0 ?_; (case d0 => exact rfl); (case k0 => exact rfl); (case a0 => exact rfl)); k_dflt (refine' nest_any (pos := i2dPos) (qual := i2dQ) ?F ?N ?T ?C ?cd ?U ?ps ?cl ?_; (case F => k_asm); (case N => k_asm); (case T => k_asm); (case C => exact hC); (case cd => exact rfl); (case U => k_updF); (case ps => exact tabq_in' hps hP kc hL (by repeat' (first | exact trivial | refine And.intro (.inl rfl) ?_ | refine And.intro (.inr (by show (_ : Nat) < _; omega)) ?_))); (case cl => exact rfl)); k_whole; intro f' c9 oc9 vs9 t9 ct' dc' h' tk' F' N' d19 d29 l0 l1 l2 rel9; (try dsimp only at N'); (replace l0 := gnNe_of l0; simp only [GnNe, and_true] at l0); (try k_lt l1); (try k_lt2 l2)))
    k_steps
    all_goals (try k_data)
    rename PyProof.Rows.News _ _ _ _ => N7
    obtain ⟨cs8, hcs⟩ : ∃ cs8, cs8 = cs9 := ⟨_, rfl⟩
    rw [← hcs] at N7 hI9
    clear hcs
    revert N7 hI9 cs8
    refine cutAll (fun nw => ∀ j l rr : Nat, l < rr → rr ≤ l + j → rr ≤ l + 4 → rr ≤ ds.length → ∀ x, x = d2v n ds j l rr → InnerI w f' nw x ds j l rr) ?zH ?zK
    case zK =>
      intro hin cs8 hI8 N8
      (try dsimp only at N8)
      refine useInI (l := 0) rfl rfl (hin 4 0 ds.length hne (by omega) (by omega) (Nat.le_refl _) x0 hx.symm) hI8 (List.length_replicate ..) B (by k_asm) X (by k_asm) T rfl rfl rfl (by omega) ?_
      intro cs' h' tk' hI' hl' F' N'
      rw [putS_all hlen hne] at hI'
      (try dsimp only at N')
      (try dsimp only)
      clear hI8
      k_steps
      all_goals (try k_data)
      all_goals exact back (s := s) ret (by k_asm) hL (i2d_end (by k_asm) (by k_asm) (by k_mem) (by k_mem) (by k_mem) d19 d29 hP rel9 hI')
    case zH =>
      clear rel9 ret hps hP gP B X T kp sz hd hu st kc hk hpos hx hs9
      have hd4 := lt_128 hn hb
      intro j
      induction j with
      | zero => intro l rr a1 a2; omega
      | succ j ih =>
        intro l rr a1 a2 a3 a4 x hx p loose mean mg mb dp un gd outer env A₀ base h₀ L m s t0 t1 t2 cs ns Q E hI hln B F X N T hf hke hd h
        (try dsimp only at N)
        k_dflt (refine wpAny_call ?_; refine' code_nest ?k1 ?k2 ?k3 ?k4 ?k5 ?kA ?kF ?kK ?k6 ?k7 ?k8 ?k9 ?kB ?_ ?c2 ?c3 ?c4 ?c5; (case kA => exact rfl); (case kF => exact hf); (case kK => exact hke); (case k1 => k_asm); (case k2 => k_asm); (case k3 => k_asm); (case k4 => k_asm); (case k5 => k_asm); (case k6 => k_mem); (case k7 => exact codeRec_news (by k_asm) (by k_mem) (by assumption) (by assumption)); (case k8 => ((try dsimp only [arC]); omega)); (case k9 => exact BindsTo.of_eq rfl); (case c5 => decide); (case kB => exact locs rfl); (case c2 => exact rfl); (case c3 => exact rfl); (case c4 => exact rfl))
        k_whole
        intro g' L' h' FG' F' N' B' X' T'
        (try dsimp only)
        (try k_lift B')
        (try k_fold)
        k_with_none
        by_cases e9 : l + 1 = rr
        · have e10 : (l : Int) + 1 = (rr : Int) := by omega
          rw [d2v_one e9] at hx
          subst hx
          k_steps
          all_goals (try k_data)
          exact h _ _ _ (by rw [putS_one e9]; assumption) (by k_asm) (by k_asm)
        · have e10 : ¬ ((l : Int) + 1 = (rr : Int)) := by omega
          rw [d2v_sh e9 a1] at hx
          subst hx
          have lo := low_lt hn hb (l := l) (r := rr) (j := j) (by omega) a2
          have ub := d2v_b hn hd4 (j := j) (l := (l + rr) / 2) (r := rr) (by omega) (by omega) (by omega)
          (k_with "binaryOp RShift int int" => refine r_shr (mid_k a3 a1).1 hn lo ?_)
          (k_with "binaryOp BitXor int int" => refine r_xor ub.1 lo ?_)
          (k_with "binaryOp LShift int int" => refine lsh (mid_k a3 a1) hn ub ?_)
          (k_with "call ref" => (k_here; (first
            | (k_dflt (refine' useInI rfl (mid_rsh l rr) (ih _ _ ?z1 ?z2 ?z3 ?z4 _ rfl) ?zI ?zl ?B ?F ?X ?N ?T ?hA ?hf ?hke ?hd ?_; (case zI => assumption); (case zl => assumption); (case B => assumption); (case F => k_asm); (case X => assumption); (case N => k_asm); (case T => assumption); (case hA => exact rfl); (case hf => exact rfl); (case hke => exact rfl); (case hd => omega); (case z1 => omega); (case z2 => omega); (case z3 => omega); (case z4 => omega)))
            | (k_dflt (refine' useInI (mid_rsh l rr) rfl (ih _ _ ?z1 ?z2 ?z3 ?z4 _ rfl) ?zI ?zl ?B ?F ?X ?N ?T ?hA ?hf ?hke ?hd ?_; (case zI => assumption); (case zl => assumption); (case B => assumption); (case F => k_asm); (case X => assumption); (case N => k_asm); (case T => assumption); (case hA => exact rfl); (case hf => exact rfl); (case hke => exact rfl); (case hd => omega); (case z1 => omega); (case z2 => omega); (case z3 => omega); (case z4 => omega)))); k_whole; intro cs' h' tk' hI' hl' F' N'; (try dsimp only at N')))
          k_steps
          all_goals (try k_data)
          exact h _ _ _ (by rw [putS_two e9]; assumption) (by k_asm) (by k_asm)
theorem getD_p {n : Int} {ds : List Int} (hb : ∀ d ∈ ds, 0 ≤ d ∧ d < 2 ^ (1 * n).toNat) (i : Nat) : 0 ≤ ds.getD i 0 ∧ ds.getD i 0 < 2 ^ (1 * n).toNat := by
  rw [List.getD_eq_getElem?_getD]
  cases h : ds[i]? with
  | none => exact ⟨by decide, kbt_pos _⟩
  | some d => exact hb d (List.mem_of_getElem? h)
theorem i2d_1 (w : World) (d0 : Int) (n : Int) (ta tk : Tok) (hn : 5 ≤ n ∧ n ≤ 7) (h0 : 0 ≤ d0 ∧ d0 < 2 ^ (1 * n).toNat) (hpos : 0 < d0) (hk : ((PySem.Builtin.Int.intBits (d0) : Nat) + n - 1).fdiv n = 1) : Ct w 35 [.int (d0) ta, .int n tk] 6 60 (fun g h => TabQ 30 i2dPos i2dQ g h) (i2dPost [d0]) :=
  i2d_gen w [d0] n ta tk hn (Nat.le_of_ble_eq_true rfl) (Nat.zero_lt_succ _) (getD_p fun d h => by rw [List.mem_singleton.mp h]; exact h0) hpos hk
end
section
theorem flush_Bu : (1 : Nat) = 1 := by
  w_top off
  k_with_none
  first | walk1 | rfl
theorem funFrames_base {h base : Heap} {as : List Addr} : ∀ {l : List Env}, h.FunFrames base l → h.FunFrames (hideAll base as) l
  | [], _ => trivial
  | _ :: _, ⟨hk, ⟨L, o, hf, hn, ho, hd⟩, hr⟩ => by
    refine ⟨hk, ⟨L, o, hf, ?_, ho, hd⟩, funFrames_base hr⟩
    cases e : (hideAll base as).get? L with
    | none => rfl
    | some o' => rw [of_hideAll _ e] at hn; cases hn
/-- frames are dicts: what holds fields may be hidden -/
theorem below_hide {A : Around} {base h : Heap} {l : List Env} {as : List Addr} (B : Below A base l h) (hf : ∀ a ∈ as, ∃ o vs, h.get? a = some o ∧ o.data = .fields vs) : Below A (hideAll base as) l (hideAll h as) := by
  have key : ∀ {l : List Env}, h.FunFrames base l → ∀ env ∈ l, ∃ L o, env.frame = some L ∧ h.get? L = some o ∧ ∀ vs, o.data ≠ .fields vs := by
    intro l
    induction l with
    | nil => intro _ env he; cases he
    | cons x r ih =>
      rintro ⟨_, ⟨L, o, hf, _, ho, hd⟩, hr⟩ env he
      rcases List.mem_cons.mp he with rfl | he
      · exact ⟨L, o, hf, ho, hd⟩
      · exact ih hr env he
  refine ⟨B.stack, fun b o e => hideAll_get _ (B.stays b o (of_hideAll _ e)) fun hm => (by rw [hideAll_none _ hm] at e; cases e), funFrames_base (funFrames_hideAll B.frames ?_)⟩
  intro env he a ha hfr
  obtain ⟨o, vs, e, hd⟩ := hf a ha
  obtain ⟨L, o', hf', e', hd'⟩ := key B.frames env he
  rw [hfr] at hf'
  cases hf'
  rw [e] at e'
  cases e'
  exact hd' vs hd
/-- a table's state in a ledger -/
def TabL (pos : Pos) (qual : Str) (ps : Array Value) (news : List (Addr × Obj)) : Prop :=
  ps = #[] ∨ ∃ (c' : Addr) (oc : Obj) (vs : Array Value) (t : Tok), ps = #[rawInt pos.line, rawInt pos.col, .ref c'] ∧ (c', oc) ∈ news ∧ oc.data = .fields vs ∧ vs[1]? = some (.str qual t)
theorem useT {w : World} {f : Addr} {args : List Value} {dn cu : Nat} {pre : Heap → Heap → Prop} {post : Heap → Heap → Heap → Value → Prop} {p : Program} {loose : List Str} {mean : ExcName → Option Value} {mg mb : Str → Option Value}
    {A A₀ : Around} {base h₀ : Heap} {outer : List Env} {env : Env} {L P : Addr} {pos : Pos} {qual : Str} {ps : Array Value} {m : Str → Option Value} {news : List (Addr × Obj)} {gf : Obj → List (Addr × Obj)} {s : Shared} {Q E : Value → Shared → Prop} {dp un : Nat} {gd : Option (List Code)}
    (C : Ct w f args dn cu pre post) (B : Below A₀ base outer h₀) (F : Fr h₀ L s.heap m) (X : (Mine.hd.heap_1 w.params).In h₀) (N : News h₀ L s.heap news) (T : Top p loose mean mg mb h₀)
    (hA : A = arC dp un gd (env :: outer)) (hf : env.frame = some L) (hke : env.scope.kind = .function) (hd : dp + dn < recursionLimit) (hu : un + cu < cLine) (U : UpdF P (tabObj ps) news gf) (H : TabL pos qual ps news)
    (hp : ∀ g, (∀ b o, g.get? b = some o → s.heap.get? b = some o) → (∀ b o, h₀.get? b = some o → g.get? b = some o) → (∀ q ∈ news, (∀ vs, q.2.data ≠ .fields vs) → g.get? q.1 = some q.2) → TabQ P pos qual g s.heap → pre g s.heap)
    (hq : ∀ g h' v, post g s.heap h' v → TabHit P pos qual g s.heap h')
    (h : ∀ v g h' tk' c' oc vs t, Fr h₀ L h' m → News h₀ L h' ((c', oc) :: gf (tabObj #[rawInt pos.line, rawInt pos.col, .ref c'])) → oc.data = .fields vs → vs[1]? = some (.str qual t) → (ps = #[] ∨ (ps = #[rawInt pos.line, rawInt pos.col, .ref c'] ∧ (c', oc) ∈ news)) →
      post g s.heap h' v → (∀ q ∈ news, (∀ vs, q.2.data ≠ .fields vs) → g.get? q.1 = some q.2) → (∀ b o, h₀.get? b = some o → g.get? b = some o) → (∃ o, g.get? L = some o) → Q v { s with heap := h', toks := tk' }) :
    wpAny (model PySem.Challenge.rw_pe0269_01.row.prog w) A (call (.ref f) args) Q E s := by
  subst hA
  obtain ⟨own, rest, rfl, hgr, n1, n2⟩ := U.split
  have hP := N (P, tabObj ps) (List.mem_append_right _ (.head _))
  have B2 := pushX B F hf hke
  -- the code hidden besides the table
  have hide : ∃ as : List Addr, P ∈ as ∧ (∀ a ∈ as, ∃ o vs, s.heap.get? a = some o ∧ o.data = .fields vs) ∧ (∀ a ∈ as, a ≠ L ∧ h₀.get? a = none) ∧
      (ps = #[] ∧ as = [P] ∨ ∃ (c' : Addr) (oc : Obj) (vs : Array Value) (t : Tok), as = [P, c'] ∧ ps = #[rawInt pos.line, rawInt pos.col, .ref c'] ∧ s.heap.get? c' = some oc ∧ (c', oc) ∈ own ++ (P, tabObj ps) :: rest ∧ oc.data = .fields vs ∧ vs[1]? = some (.str qual t)) := by
    rcases H with rfl | ⟨c', oc, vs, t, rfl, hc, hd1, hd2⟩
    · refine ⟨[P], .head _, ?_, ?_, .inl ⟨rfl, rfl⟩⟩
      · intro a ha; rw [List.mem_singleton.mp ha]; exact ⟨_, _, hP.1, rfl⟩
      · intro a ha; rw [List.mem_singleton.mp ha]; exact hP.2
    · refine ⟨[P, c'], .head _, ?_, ?_, .inr ⟨c', oc, vs, t, rfl, rfl, (N _ hc).1, hc, hd1, hd2⟩⟩
      · intro a ha
        rcases List.mem_cons.mp ha with rfl | ha
        · exact ⟨_, _, hP.1, rfl⟩
        · rw [List.mem_singleton.mp ha]; exact ⟨_, _, (N _ hc).1, hd1⟩
      · intro a ha
        rcases List.mem_cons.mp ha with rfl | ha
        · exact hP.2
        · rw [List.mem_singleton.mp ha]; exact (N _ hc).2
  obtain ⟨as, hPas, hfl, hno, hst⟩ := hide
  have st : ∀ b o, h₀.get? b = some o → (hideAll s.heap as).get? b = some o := fun b o e => hideAll_get _ (F.keep b o e) fun hm => by rw [(hno b hm).2] at e; cases e
  have kp : ∀ b o, (hideAll s.heap as).get? b = some o → s.heap.get? b = some o := fun b o e => of_hideAll _ e
  have gP : (hideAll s.heap as).get? P = none := hideAll_none _ hPas
  have plain : ∀ q ∈ own ++ (P, tabObj ps) :: rest, (∀ vs, q.2.data ≠ .fields vs) → (hideAll s.heap as).get? q.1 = some q.2 := fun q hq hnf => hideAll_get _ (N q hq).1 fun hm => by
    obtain ⟨o, vs, e, hd⟩ := hfl _ hm
    rw [(N q hq).1] at e
    cases e
    exact hnf vs hd
  have tq : TabQ P pos qual (hideAll s.heap as) s.heap := by
    refine ⟨ps, hP.1, gP, ?_⟩
    rcases hst with ⟨rfl, _⟩ | ⟨c', oc, vs, t, rfl, e1, e2, _, e3, e4⟩
    · exact .inl rfl
    · exact .inr ⟨c', oc, vs, t, e1, e2, hideAll_none _ (.tail _ (.head _)), e3, e4⟩
  obtain ⟨oL, es, ep, hL, hLd, hLk, hLf⟩ := F.ns
  have gL : (hideAll s.heap as).get? L = some oL := hideAll_get _ hL fun hm => (hno L hm).1 rfl
  refine wpAny_call (C p loose mean mg mb dp un gd (env :: outer) (A₀.deeper env) (hideAll base as) (hideAll s.heap as) s _ (below_hide B2 hfl) (X.keeps st) (T.keeps st) kp (Nat.le_of_eq (hideAll_size _ _)) (hp _ kp st plain tq) hd hu fun v h' tk' k z qp => ?_)
  obtain ⟨c', oc, vs, t, t1, t2, t3, t4, t5, t6⟩ := hq _ _ _ qp
  have rel := t6 ps hP.1
  refine h v (hideAll s.heap as) h' tk' c' oc vs t ⟨⟨oL, es, ep, k _ _ gL, hLd, hLk, hLf⟩, fun b o e => k b o (st b o e), F.above⟩ ?_ t4 t5 ?_ qp plain st ⟨_, gL⟩
  · have sub : ∀ q ∈ own ++ (P, tabObj ps) :: rest, q.1 ≠ P → h'.get? q.1 = some q.2 := fun q hq hne => by
      by_cases hm : q.1 ∈ as
      · rcases hst with ⟨_, rfl⟩ | ⟨c₀, o₀, vs₀, t₀, rfl, e1, e2, e5, e3, e4⟩
        · exact absurd (List.mem_singleton.mp hm) hne
        · rcases List.mem_cons.mp hm with e | hm
          · exact absurd e hne
          · have ec : q.1 = c₀ := List.mem_singleton.mp hm
            rcases rel with r | ⟨r1, r2⟩
            · rw [e1] at r; cases r
            · have : c₀ = c' := by
                have e6 := e1.symm.trans r1
                simp only [rawInt] at e6
                injection e6 with e7
                simpa using e7
              subst this
              have e8 := (N q hq).1
              rw [ec, r2] at e8
              rw [ec, t2, Option.some.inj e8]
      · exact k _ _ (hideAll_get _ (N q hq).1 hm)
    have n' : ∀ q ∈ own ++ (P, tabObj ps) :: rest, q.1 ≠ L ∧ h₀.get? q.1 = none := fun q hq => (N q hq).2
    refine List.forall_mem_cons.mpr ⟨⟨t2, ?_, ?_⟩, fun q hq => ?_⟩
    · intro e
      replace e : c' = L := e
      rw [e, gL] at t3; cases t3
    · show h₀.get? c' = none
      cases e : h₀.get? c' with
      | none => rfl
      | some o => rw [st _ _ e] at t3; cases t3
    · rw [hgr] at hq
      rcases List.mem_append.mp hq with hq | hq
      · exact ⟨sub q (List.mem_append_left _ hq) (n1 q hq), n' q (List.mem_append_left _ hq)⟩
      · rcases List.mem_cons.mp hq with rfl | hq
        · exact ⟨t1, hP.2⟩
        · exact ⟨sub q (List.mem_append_right _ (.tail _ hq)) (n2 q hq), n' q (List.mem_append_right _ (.tail _ hq))⟩
  · rcases rel with r | ⟨r1, r2⟩
    · exact .inl r
    · refine .inr ⟨r1, ?_⟩
      rcases hst with ⟨e0, _⟩ | ⟨c₀, o₀, vs₀, t₀, _, e1, e2, e5, e3, e4⟩
      · rw [e0] at r1; cases r1
      · have : c₀ = c' := by
          have e6 := e1.symm.trans r1
          simp only [rawInt] at e6
          injection e6 with e7
          simpa using e7
        subst this
        rw [e2] at r2
        cases r2
        exact e5
end
section
theorem flush_Bh : (1 : Nat) = 1 := by
  w_top off
  k_with_none
  first | walk1 | rfl
theorem tab_ne {P x c' : Addr} {pos : Pos} {oc : Obj} {vs : Array Value} {t : Tok} {qual : Str} {h : Heap} (e : h.get? P = some (tabObj #[rawInt pos.line, rawInt pos.col, .ref x])) (e1 : h.get? c' = some oc) (e4 : oc.data = .fields vs) (e5 : vs[1]? = some (.str qual t)) : P ≠ c' := fun q => by
  rw [← q, e] at e1
  have e2 := Option.some.inj e1
  rw [← e2] at e4
  have e3 : #[rawInt pos.line, rawInt pos.col, Value.ref x] = vs := by injection e4
  rw [← e3] at e5
  cases e5
/-- a call whose code table holds its code already: nothing that stands is changed -/
theorem useH {w : World} {f : Addr} {args : List Value} {dn cu : Nat} {pre : Heap → Heap → Prop} {post : Heap → Heap → Heap → Value → Prop} {p : Program} {loose : List Str} {mean : ExcName → Option Value} {mg mb : Str → Option Value}
    {A A₀ : Around} {base h₀ : Heap} {outer : List Env} {env : Env} {L P c₀ : Addr} {o₀ : Obj} {vs₀ : Array Value} {t₀ : Tok} {pos : Pos} {qual : Str} {m : Str → Option Value} {news : List (Addr × Obj)} {s : Shared} {Q E : Value → Shared → Prop} {dp un : Nat} {gd : Option (List Code)}
    (C : Ct w f args dn cu pre post) (B : Below A₀ base outer h₀) (F : Fr h₀ L s.heap m) (X : (Mine.hd.heap_1 w.params).In h₀) (N : News h₀ L s.heap news) (T : Top p loose mean mg mb h₀)
    (hA : A = arC dp un gd (env :: outer)) (hf : env.frame = some L) (hke : env.scope.kind = .function) (hd : dp + dn < recursionLimit) (hu : un + cu < cLine)
    (hm : (P, tabObj #[rawInt pos.line, rawInt pos.col, .ref c₀]) ∈ news) (hc : (c₀, o₀) ∈ news) (hd1 : o₀.data = .fields vs₀) (hd2 : vs₀[1]? = some (.str qual t₀))
    (hp : ∀ g, (∀ b o, g.get? b = some o → s.heap.get? b = some o) → (∀ b o, h₀.get? b = some o → g.get? b = some o) → (∀ q ∈ news, (∀ vs, q.2.data ≠ .fields vs) → g.get? q.1 = some q.2) → TabQ P pos qual g s.heap → pre g s.heap)
    (hq : ∀ g h' v, post g s.heap h' v → TabHit P pos qual g s.heap h')
    (h : ∀ v g h' tk', Fr h₀ L h' m → News h₀ L h' news → post g s.heap h' v → (∀ q ∈ news, (∀ vs, q.2.data ≠ .fields vs) → g.get? q.1 = some q.2) → (∀ b o, h₀.get? b = some o → g.get? b = some o) → (∃ o, g.get? L = some o) →
      (∀ b o, h'.get? b = some o → (∀ vs, o.data ≠ .fields vs) → g.get? b = none → b ≠ L ∧ h₀.get? b = none ∧ ∀ q ∈ news, q.1 ≠ b) → s.heap.objs.size ≤ h'.objs.size → Q v { s with heap := h', toks := tk' }) :
    wpAny (model PySem.Challenge.rw_pe0269_01.row.prog w) A (call (.ref f) args) Q E s := by
  subst hA
  have hP := N _ hm
  have hC := N _ hc
  have B2 := pushX B F hf hke
  have hfl : ∀ a ∈ [P, c₀], ∃ o vs, s.heap.get? a = some o ∧ o.data = .fields vs := by
    intro a ha
    rcases List.mem_cons.mp ha with rfl | ha
    · exact ⟨_, _, hP.1, rfl⟩
    · rw [List.mem_singleton.mp ha]; exact ⟨_, _, hC.1, hd1⟩
  have hno : ∀ a ∈ [P, c₀], a ≠ L ∧ h₀.get? a = none := by
    intro a ha
    rcases List.mem_cons.mp ha with rfl | ha
    · exact hP.2
    · rw [List.mem_singleton.mp ha]; exact hC.2
  have st : ∀ b o, h₀.get? b = some o → (hideAll s.heap [P, c₀]).get? b = some o := fun b o e => hideAll_get _ (F.keep b o e) fun hm => by rw [(hno b hm).2] at e; cases e
  have kp : ∀ b o, (hideAll s.heap [P, c₀]).get? b = some o → s.heap.get? b = some o := fun b o e => of_hideAll _ e
  have plain : ∀ q ∈ news, (∀ vs, q.2.data ≠ .fields vs) → (hideAll s.heap [P, c₀]).get? q.1 = some q.2 := fun q hq hnf => hideAll_get _ (N q hq).1 fun hm => by
    obtain ⟨o, vs, e, hd⟩ := hfl _ hm
    rw [(N q hq).1] at e
    cases e
    exact hnf vs hd
  have tq : TabQ P pos qual (hideAll s.heap [P, c₀]) s.heap :=
    ⟨_, hP.1, hideAll_none _ (.head _), .inr ⟨c₀, o₀, vs₀, t₀, rfl, hC.1, hideAll_none _ (.tail _ (.head _)), hd1, hd2⟩⟩
  obtain ⟨oL, es, ep, hL, hLd, hLk, hLf⟩ := F.ns
  have gL : (hideAll s.heap [P, c₀]).get? L = some oL := hideAll_get _ hL fun hm => (hno L hm).1 rfl
  refine wpAny_call (C p loose mean mg mb dp un gd (env :: outer) (A₀.deeper env) (hideAll base [P, c₀]) (hideAll s.heap [P, c₀]) s _ (below_hide B2 hfl) (X.keeps st) (T.keeps st) kp (Nat.le_of_eq (hideAll_size _ _)) (hp _ kp st plain tq) hd hu fun v h' tk' k z qp => ?_)
  obtain ⟨c', oc, vs, t, t1, t2, t3, t4, t5, t6⟩ := hq _ _ _ qp
  rcases t6 _ hP.1 with r | ⟨r1, r2⟩
  · cases r
  have ec : c₀ = c' := by
    simp only [rawInt] at r1
    injection r1 with e7
    simpa using e7
  subst ec
  have eo : oc = o₀ := by
    have e8 := hC.1
    rw [r2] at e8
    exact Option.some.inj e8
  subst eo
  have N' : News h₀ L h' news := fun q hq => by
    refine ⟨?_, (N q hq).2⟩
    by_cases hm' : q.1 ∈ [P, c₀]
    · rcases List.mem_cons.mp hm' with e | e
      · have e8 := (N q hq).1
        rw [e, hP.1] at e8
        rw [e, t1]; exact e8
      · have e9 := List.mem_singleton.mp e
        have e8 := (N q hq).1
        rw [e9, r2] at e8
        rw [e9, t2]; exact e8
    · exact k _ _ (hideAll_get _ (N q hq).1 hm')
  refine h v _ h' tk' ⟨⟨oL, es, ep, k _ _ gL, hLd, hLk, hLf⟩, fun b o e => k b o (st b o e), F.above⟩ N' qp plain st ⟨_, gL⟩ (fun b o hb hnf hg => ?_) z
  refine ⟨fun e => (by rw [e, gL] at hg; cases hg), ?_, fun q hq e => ?_⟩
  · cases e : h₀.get? b with
    | none => rfl
    | some o => rw [st _ _ e] at hg; cases hg
  · have e1 := (N' q hq).1
    rw [e, hb] at e1
    have e2 := Option.some.inj e1
    have e3 := plain q hq (fun vs hv => hnf vs (by rw [e2]; exact hv))
    rw [e, hg] at e3; cases e3
/-- a call that leaves both tables' codes as they stand -/
theorem hide4 {base h₀ : Heap} {L : Addr} {m : Str → Option Value} {news : List (Addr × Obj)} {s : Shared} {as : List Addr} (F : Fr h₀ L s.heap m) (N : News h₀ L s.heap news) (ha : ∀ a ∈ as, ∃ o vs, (a, o) ∈ news ∧ o.data = .fields vs) :
    (∀ a ∈ as, ∃ o vs, s.heap.get? a = some o ∧ o.data = .fields vs) ∧ (∀ b o, h₀.get? b = some o → (hideAll s.heap as).get? b = some o) ∧ (∀ q ∈ news, (∀ vs, q.2.data ≠ .fields vs) → (hideAll s.heap as).get? q.1 = some q.2) ∧ (∃ oL es ep, (hideAll s.heap as).get? L = some oL ∧ oL.data = .dict es ep ∧ ∀ h', h'.get? L = some oL → Heap.Ns h' L m) := by
  have hfl : ∀ a ∈ as, ∃ o vs, s.heap.get? a = some o ∧ o.data = .fields vs := fun a ha' => let ⟨o, vs, hm, hd⟩ := ha a ha'; ⟨o, vs, (N _ hm).1, hd⟩
  have hno : ∀ a ∈ as, a ≠ L ∧ h₀.get? a = none := fun a ha' => let ⟨o, vs, hm, hd⟩ := ha a ha'; (N _ hm).2
  obtain ⟨oL, es, ep, hL, hLd, hLk, hLf⟩ := F.ns
  refine ⟨hfl, fun b o e => hideAll_get _ (F.keep b o e) fun hm => (by rw [(hno b hm).2] at e; cases e), fun q hq hnf => hideAll_get _ (N q hq).1 fun hm => ?_, oL, es, ep, hideAll_get _ hL fun hm => (hno L hm).1 rfl, hLd, fun h' e => ⟨oL, es, ep, e, hLd, hLk, hLf⟩⟩
  obtain ⟨o, vs, e, hd⟩ := hfl _ hm
  rw [(N q hq).1] at e
  cases e
  exact hnf vs hd
end
section
theorem flush_Dv : (1 : Nat) = 1 := by
  w_top off
  k_with_none
  first | walk1 | rfl
abbrev tup2 (q r : Int) (t1 t2 : Tok) : Obj := { cls := .type "tuple", data := .seq #[.int q t1, .int r t2] }
def tupPost (q r : Int) (g _ h' : Heap) (x : Value) : Prop := ∃ (D : Addr) (t1 t2 : Tok), x = .ref D ∧ g.get? D = none ∧ h'.get? D = some (tup2 q r t1 t2)
theorem tup_end {q r q' r' : Int} {t1 t2 : Tok} {D : Addr} {g h h' : Heap} {L : Addr} {m : Str → Option Value} {news : List (Addr × Obj)} (_F : Fr g L h' m) (N : News g L h' news) (h0 : (D, tup2 q' r' t1 t2) ∈ news) (e1 : q' = q) (e2 : r' = r) : tupPost q r g h h' (.ref D) := by
  subst e1 e2
  exact ⟨D, t1, t2, rfl, (N _ h0).2.2, (N _ h0).1⟩
theorem fdiv0 {a b : Int} (h : 0 ≤ a ∧ a < b) : a.fdiv b = 0 := by rw [Int.fdiv_eq_ediv_of_nonneg _ (by omega), Int.ediv_eq_zero_of_lt h.1 h.2]
theorem fmod0 {a b : Int} (h : 0 ≤ a ∧ a < b) : a.fmod b = a := by rw [Int.fmod_eq_emod_of_nonneg _ (by omega), Int.emod_eq_of_lt h.1 h.2]
theorem bits7 {a : Int} (h : 0 ≤ a ∧ a < 128) : (PySem.Builtin.Int.intBits a : Int) ≤ 7 := by
  have := (intBits_le_iff (m := 7) (x := a)).mpr (by omega)
  omega
theorem t_div2 (w : World) (a b n : Int) (ta tb tn : Tok) (hn : 5 ≤ n ∧ n ≤ 7) (ha : 0 ≤ a ∧ a < b) (hb : b < 128) : Ct w 21 [.int a ta, .int b tb, .int n tn] 2 40 noPre (tupPost 0 a) := by
  unfold Ct
  k_fill
  intro p loose mean mg mb dp un gd outer A₀ base g s R B X T kp sz hp hd hu ret
  k_dflt (refine' enterC ?k1 ?k2 ?k3 ?k4 ?k6 ?k7 ?k8 ?k9 ?kB ?c5 ?c2 ?c3 ?c4 ?kR; (case k1 => assumption); (case k2 => assumption); (case k3 => assumption); (case k4 => assumption); (case k6 => k_is); (case k7 => k_is); (case k8 => omega); (case k9 => exact BindsTo.of_eq rfl); (case kB => exact locs rfl); (case c5 => decide); (case c2 => exact rfl); (case c3 => exact rfl); (case c4 => exact rfl))
  k_whole
  intro L' h₁ F' hL hk₁
  dsimp only
  k_fold
  have N' : PyProof.Rows.News g L' h₁ [] := PyProof.Rows.News.nil
  k_with_none
  have hbits := bits7 (a := a) (by omega)
  k_steps
  all_goals (try k_data)
  all_goals exact back (s := s) ret (by k_asm) hL (tup_end (by k_asm) (by k_asm) (by k_mem) (fdiv0 (by omega)) (fmod0 (by omega)))
/-- both tables hold their code, hidden from the ground -/
def Hits (g h : Heap) : Prop := ∃ (c1 c2 : Addr) (o1 o2 : Obj) (vs1 vs2 : Array Value) (t1 t2 : Tok), g.get? 30 = none ∧ g.get? 37 = none ∧ g.get? c1 = none ∧ g.get? c2 = none ∧
  h.get? 30 = some (tabObj #[rawInt i2dPos.line, rawInt i2dPos.col, .ref c1]) ∧ h.get? 37 = some (tabObj #[rawInt d2iPos.line, rawInt d2iPos.col, .ref c2]) ∧ h.get? c1 = some o1 ∧ h.get? c2 = some o2 ∧ o1.data = .fields vs1 ∧ vs1[1]? = some (.str i2dQ t1) ∧ o2.data = .fields vs2 ∧ vs2[1]? = some (.str d2iQ t2)
def HitsKept (h h' : Heap) : Prop := ∀ (c1 c2 : Addr) (o1 o2 : Obj), h.get? 30 = some (tabObj #[rawInt i2dPos.line, rawInt i2dPos.col, .ref c1]) → h.get? 37 = some (tabObj #[rawInt d2iPos.line, rawInt d2iPos.col, .ref c2]) → h.get? c1 = some o1 → h.get? c2 = some o2 →
  h'.get? 30 = some (tabObj #[rawInt i2dPos.line, rawInt i2dPos.col, .ref c1]) ∧ h'.get? 37 = some (tabObj #[rawInt d2iPos.line, rawInt d2iPos.col, .ref c2]) ∧ h'.get? c1 = some o1 ∧ h'.get? c2 = some o2
def dmPost (q r : Int) (g h h' : Heap) (x : Value) : Prop := tupPost q r g h h' x ∧ HitsKept h h'
abbrev led4 (c1 c2 : Addr) (o1 o2 : Obj) : List (Addr × Obj) := [(30, tabObj #[rawInt i2dPos.line, rawInt i2dPos.col, .ref c1]), (37, tabObj #[rawInt d2iPos.line, rawInt d2iPos.col, .ref c2]), (c1, o1), (c2, o2)]

/-- _int2digits called with its code at hand -/
theorem use_i2d {w : World} {args : List Value} {ds : List Int} {p : Program} {loose : List Str} {mean : ExcName → Option Value} {mg mb : Str → Option Value}
    {A A₀ : Around} {base h₀ : Heap} {outer : List Env} {env : Env} {L c₀ : Addr} {o₀ : Obj} {vs₀ : Array Value} {t₀ : Tok} {m : Str → Option Value} {news : List (Addr × Obj)} {s : Shared} {Q E : Value → Shared → Prop} {dp un : Nat} {gd : Option (List Code)}
    (C : Ct w 35 args 6 60 (fun g h => TabQ 30 i2dPos i2dQ g h) (i2dPost ds)) (B : Below A₀ base outer h₀) (F : Fr h₀ L s.heap m) (X : (Mine.hd.heap_1 w.params).In h₀) (N : News h₀ L s.heap news) (T : Top p loose mean mg mb h₀)
    (hA : A = arC dp un gd (env :: outer)) (hf : env.frame = some L) (hke : env.scope.kind = .function) (hd : dp + 6 < recursionLimit) (hu : un + 60 < cLine)
    (hm : (30, tabObj #[rawInt i2dPos.line, rawInt i2dPos.col, .ref c₀]) ∈ news) (hc : (c₀, o₀) ∈ news) (hd1 : o₀.data = .fields vs₀) (hd2 : vs₀[1]? = some (.str i2dQ t₀))
    (h : ∀ D vs nn h' tk', Fr h₀ L h' m → News h₀ L h' ((D, PySem.W.listOf (List.toArray vs) nn) :: news) → IntsAre vs ds → (∀ q ∈ news, q.1 ≠ D) → Q (.ref D) { s with heap := h', toks := tk' }) :
    wpAny (model PySem.Challenge.rw_pe0269_01.row.prog w) A (call (.ref 35) args) Q E s :=
  useH C B F X N T hA hf hke hd hu hm hc hd1 hd2 (fun _ _ _ _ tq => tq) (fun _ _ _ q => q.2) fun v g h' tk' F' N' q pl st gL off sz => by
    obtain ⟨⟨D, vs, nn, rfl, g0, hD, hI⟩, _⟩ := q
    obtain ⟨n1, n2, n3⟩ := off D _ hD (fun vs' => by simp) g0
    exact h D vs nn h' tk' F' (List.forall_mem_cons.mpr ⟨⟨hD, n1, n2⟩, N'⟩) hI n3
/-- _digits2int called with its code at hand, of a list of the ledger -/
theorem use_d2i {w : World} {r : Addr} {rest : List Value} {ds : List Int} {v₀ : Int} {us : List Value} {nn : Nat} {p : Program} {loose : List Str} {mean : ExcName → Option Value} {mg mb : Str → Option Value}
    {A A₀ : Around} {base h₀ : Heap} {outer : List Env} {env : Env} {L c₀ : Addr} {o₀ : Obj} {vs₀ : Array Value} {t₀ : Tok} {m : Str → Option Value} {news : List (Addr × Obj)} {s : Shared} {Q E : Value → Shared → Prop} {dp un : Nat} {gd : Option (List Code)}
    (C : Ct w 42 (.ref r :: rest) 6 60 (d2iPre r ds) (d2iPost v₀)) (B : Below A₀ base outer h₀) (F : Fr h₀ L s.heap m) (X : (Mine.hd.heap_1 w.params).In h₀) (N : News h₀ L s.heap news) (T : Top p loose mean mg mb h₀)
    (hA : A = arC dp un gd (env :: outer)) (hf : env.frame = some L) (hke : env.scope.kind = .function) (hd : dp + 6 < recursionLimit) (hu : un + 60 < cLine)
    (hm : (37, tabObj #[rawInt d2iPos.line, rawInt d2iPos.col, .ref c₀]) ∈ news) (hc : (c₀, o₀) ∈ news) (hd1 : o₀.data = .fields vs₀) (hd2 : vs₀[1]? = some (.str d2iQ t₀)) (hr : (r, PySem.W.listOf us.toArray nn) ∈ news) (hI : IntsAre us ds)
    (h : ∀ t h' tk', Fr h₀ L h' m → News h₀ L h' news → Q (.int v₀ t) { s with heap := h', toks := tk' }) :
    wpAny (model PySem.Challenge.rw_pe0269_01.row.prog w) A (call (.ref 42) (.ref r :: rest)) Q E s :=
  useH C B F X N T hA hf hke hd hu hm hc hd1 hd2 (fun g _ _ pl tq => ⟨⟨us, nn, pl _ hr (fun vs' => by simp), hI⟩, tq⟩) (fun _ _ _ q => q.2) fun v g h' tk' F' N' q pl st gL off sz => by
    obtain ⟨⟨t, rfl⟩, _⟩ := q
    exact h t h' tk' F' N'
theorem tup_kept {g h' : Heap} {q r : Int} {x : Value} {h : Heap} (T : tupPost q r g h h' x) : ∃ (D : Addr) (t1 t2 : Tok), x = .ref D ∧ g.get? D = none ∧ h'.get? D = some (tup2 q r t1 t2) := T
/-- _div2n1n called: its pair in the ledger -/
theorem use_div2 {w : World} {f : Addr} {args : List Value} {q r : Int} {dn cu : Nat} {p : Program} {loose : List Str} {mean : ExcName → Option Value} {mg mb : Str → Option Value}
    {A A₀ : Around} {base h₀ : Heap} {outer : List Env} {env : Env} {L : Addr} {m : Str → Option Value} {news : List (Addr × Obj)} {s : Shared} {Q E : Value → Shared → Prop} {dp un : Nat} {gd : Option (List Code)}
    (C : Ct w f args dn cu noPre (tupPost q r)) (B : Below A₀ base outer h₀) (F : Fr h₀ L s.heap m) (X : (Mine.hd.heap_1 w.params).In h₀) (N : News h₀ L s.heap news) (T : Top p loose mean mg mb h₀)
    (hA : A = arC dp un gd (env :: outer)) (hf : env.frame = some L) (hke : env.scope.kind = .function) (hd : dp + dn < recursionLimit) (hu : un + cu < cLine)
    (h : ∀ D t1 t2 h' tk', Fr h₀ L h' m → News h₀ L h' ((D, tup2 q r t1 t2) :: news) → (∀ q ∈ news, q.1 ≠ D) → Q (.ref D) { s with heap := h', toks := tk' }) :
    wpAny (model PySem.Challenge.rw_pe0269_01.row.prog w) A (call (.ref f) args) Q E s :=
  useC C B F X N T hA hf hke trivial hd hu fun v h' tk' F' N' kp sz tp => by
    obtain ⟨D, t1, t2, rfl, g0, hD⟩ := tp
    obtain ⟨oL, es, ep, hL, _⟩ := F.ns
    exact h D t1 t2 h' tk' F' (List.forall_mem_cons.mpr ⟨⟨hD, fun e => (by rw [show D = L from e, hL] at g0; cases g0), (by
      cases e : h₀.get? D with
      | none => rfl
      | some o => rw [F.keep _ _ e] at g0; cases g0)⟩, N'⟩) fun q hq e => (by rw [← e, (N q hq).1] at g0; cases g0)

theorem ints_one {vs : List Value} {a : Int} (h : IntsAre vs [a]) : ∃ t, vs = [.int a t] := by
  cases h with | cons _ t h => cases h; exact ⟨t, rfl⟩
theorem ints_nil {vs : List Value} (h : IntsAre vs []) : vs = [] := by cases h; rfl
theorem r_bits {prog : Program} {w : World} {A : Around} {E : Value → Shared → Prop} {s : Shared} {Q : Value → Shared → Prop} {b n : Int} {t : Tok} (e : (PySem.Builtin.Int.intBits b : Int) = n) (h : Q (.int n s.toks) { s with toks := s.toks + 1 }) : wpAny (model prog w) A (call (.builtin "int.bit_length") [.int b t]) Q E s := by
  subst e; exact call_int_bit_length h
theorem dm_end {q r q' r' : Int} {t1 t2 : Tok} {D : Addr} {g h h' : Heap} {L : Addr} {m : Str → Option Value} {news : List (Addr × Obj)} {c1 c2 : Addr} {o1 o2 : Obj} (_F : Fr g L h' m) (N : News g L h' news) (h0 : (D, tup2 q' r' t1 t2) ∈ news) (hs : (30, tabObj #[rawInt i2dPos.line, rawInt i2dPos.col, .ref c1]) ∈ news ∧ (37, tabObj #[rawInt d2iPos.line, rawInt d2iPos.col, .ref c2]) ∈ news ∧ (c1, o1) ∈ news ∧ (c2, o2) ∈ news)
    (e30 : h.get? 30 = some (tabObj #[rawInt i2dPos.line, rawInt i2dPos.col, .ref c1])) (e37 : h.get? 37 = some (tabObj #[rawInt d2iPos.line, rawInt d2iPos.col, .ref c2])) (e1 : h.get? c1 = some o1) (e2 : h.get? c2 = some o2) (eq : q' = q) (er : r' = r) : dmPost q r g h h' (.ref D) := by
  refine ⟨tup_end _F N h0 eq er, fun d1 d2 p1 p2 f30 f37 f1 f2 => ?_⟩
  have k1 : c1 = d1 := by
    rw [e30] at f30
    have := Option.some.inj f30
    simp only [tabObj, rawInt] at this
    injection this with _ _ e; injection e with e; injection e with e; simpa using e
  have k2 : c2 = d2 := by
    rw [e37] at f37
    have := Option.some.inj f37
    simp only [tabObj, rawInt] at this
    injection this with _ _ e; injection e with e; injection e with e; simpa using e
  subst k1 k2
  rw [e1] at f1; rw [e2] at f2
  cases f1; cases f2
  exact ⟨(N _ hs.1).1, (N _ hs.2.1).1, (N _ hs.2.2.1).1, (N _ hs.2.2.2).1⟩
theorem t_dp1 (w : World) (a b n : Int) (ta tb : Tok) (hn : 5 ≤ n ∧ n ≤ 7) (hb : (PySem.Builtin.Int.intBits b : Int) = n) (ha : 0 < a ∧ a < b) (hlt : b ≤ 64 ∧ b ≤ 2 ^ (1 * n).toNat) (hk : ((PySem.Builtin.Int.intBits a : Nat) + n - 1).fdiv n = 1) : Ct w 49 [.int a ta, .int b tb] 8 100 Hits (dmPost 0 a) := by
  unfold Ct
  k_fill
  intro p loose mean mg mb dp un gd outer A₀ base g s R B X T kp sz hp hd hu ret
  have hp2 := hp
  obtain ⟨c1, c2, o1, o2, vs1, vs2, t1, t2, g30, g37, gc1, gc2, e30, e37, ec1, ec2, q1, q2, q3, q4⟩ := hp
  have hpos : 0 < a := ha.1
  k_dflt (refine' enterN (news := led4 c1 c2 o1 o2) ?k1 ?k2 ?k3 ?k4 ?k5 ?k6 ?k7 ?k8 ?k9 ?kB ?c5 ?c2 ?c3 ?c4 ?kR; (case k1 => assumption); (case k2 => assumption); (case k3 => assumption); (case k4 => assumption); (case k5 => exact List.forall_mem_cons.mpr ⟨⟨e30, g30⟩, List.forall_mem_cons.mpr ⟨⟨e37, g37⟩, List.forall_mem_cons.mpr ⟨⟨ec1, gc1⟩, List.forall_mem_cons.mpr ⟨⟨ec2, gc2⟩, List.forall_mem_nil _⟩⟩⟩⟩); (case k6 => k_is); (case k7 => k_is); (case k8 => omega); (case k9 => exact BindsTo.of_eq rfl); (case kB => exact locs rfl); (case c5 => decide); (case c2 => exact rfl); (case c3 => exact rfl); (case c4 => exact rfl))
  k_whole
  intro L' h₁ F' hL hk₁ N' lN'
  dsimp only
  k_fold
  (try k_lt lN')
  k_with_none
  (k_with "call builtin:int.bit_length" => refine r_bits hb ?_)
  (k_with "call ref" => (k_here; first
  | (k_dflt ((first
      | (refine' use_i2d (i2d_1 _ _ _ _ _ ?p1 ?p2 ?p3 ?p4) ?B ?F ?X ?N ?T ?hA ?hf ?hke ?hd ?hu ?hm ?hc ?h1 ?h2 ?_; (case p1 => assumption); (case p2 => omega); (case p3 => assumption); (case p4 => assumption))
      | (refine' use_i2d (i2d_0 _ _ _ _ ?p1 ?p4) ?B ?F ?X ?N ?T ?hA ?hf ?hke ?hd ?hu ?hm ?hc ?h1 ?h2 ?_; (case p1 => assumption); (case p4 => assumption))); (case B => assumption); (case F => k_asm); (case X => assumption); (case N => k_asm); (case T => assumption); (case hA => exact rfl); (case hf => exact rfl); (case hke => exact rfl); (case hd => ((try dsimp only [arC]); omega)); (case hu => (have hcL9 := cLine_is; (try dsimp only [arC]); omega)); (case hm => k_mem); (case hc => k_mem); (case h1 => assumption); (case h2 => assumption)); intro D' vs' nn' h' tk' F' N' hI' hne'; (first | (obtain ⟨t9, e9⟩ := ints_one hI') | (have e9 := ints_nil hI')); subst e9; (try dsimp only at N'); (replace hne' := gnNe_of hne'; simp only [GnNe, and_true] at hne'); clear hI')
  | (k_dflt (refine' use_div2 (t_div2 _ _ _ _ _ _ _ ?p1 ?p2 ?p3) ?B ?F ?X ?N ?T ?hA ?hf ?hke ?hd ?hu ?_; (case p1 => assumption); (case p2 => omega); (case p3 => omega); (case B => assumption); (case F => k_asm); (case X => assumption); (case N => k_asm); (case T => assumption); (case hA => exact rfl); (case hf => exact rfl); (case hke => exact rfl); (case hd => ((try dsimp only [arC]); omega)); (case hu => (have hcL9 := cLine_is; (try dsimp only [arC]); omega))); intro D' t1' t2' h' tk' F' N' hne'; (try dsimp only at N'); (replace hne' := gnNe_of hne'; simp only [GnNe, and_true] at hne'))
  | (k_dflt (refine' use_d2i (d2i_1 _ _ _ _ _ ?p1 ?p2) ?B ?F ?X ?N ?T ?hA ?hf ?hke ?hd ?hu ?hm ?hc ?h1 ?h2 ?hr ?hI ?_; (case B => assumption); (case F => k_asm); (case X => assumption); (case N => k_asm); (case T => assumption); (case hA => exact rfl); (case hf => exact rfl); (case hke => exact rfl); (case hd => ((try dsimp only [arC]); omega)); (case hu => (have hcL9 := cLine_is; (try dsimp only [arC]); omega)); (case hm => k_mem); (case hc => k_mem); (case h1 => assumption); (case h2 => assumption); (case p1 => assumption); (case hr => k_mem); (case hI => exact .cons _ _ .nil); (case p2 => decide)); intro t' h' tk' F' N')
  | (k_dflt (refine' use_d2i (d2i_0 _ _ _ _ ?p1) ?B ?F ?X ?N ?T ?hA ?hf ?hke ?hd ?hu ?hm ?hc ?h1 ?h2 ?hr ?hI ?_; (case B => assumption); (case F => k_asm); (case X => assumption); (case N => k_asm); (case T => assumption); (case hA => exact rfl); (case hf => exact rfl); (case hke => exact rfl); (case hd => ((try dsimp only [arC]); omega)); (case hu => (have hcL9 := cLine_is; (try dsimp only [arC]); omega)); (case hm => k_mem); (case hc => k_mem); (case h1 => assumption); (case h2 => assumption); (case p1 => assumption); (case hr => k_mem); (case hI => exact .nil)); intro t' h' tk' F' N')))
  k_steps
  all_goals (try k_data)
  all_goals exact back (s := s) ret (by k_asm) hL (dm_end (by k_asm) (by k_asm) (by k_mem) ⟨by k_mem, by k_mem, by k_mem, by k_mem⟩ e30 e37 ec1 ec2 (by omega) (by omega))
theorem t_dp0 (w : World) (b n : Int) (ta tb : Tok) (hn : 5 ≤ n ∧ n ≤ 7) (hb : (PySem.Builtin.Int.intBits b : Int) = n) (ha : 0 < b) (hlt : b ≤ 64 ∧ b ≤ 2 ^ (1 * n).toNat) (hk : ((PySem.Builtin.Int.intBits 0 : Nat) + n - 1).fdiv n = 0) : Ct w 49 [.int 0 ta, .int b tb] 8 100 Hits (dmPost 0 0) := by
  unfold Ct
  k_fill
  intro p loose mean mg mb dp un gd outer A₀ base g s R B X T kp sz hp hd hu ret
  have hp2 := hp
  obtain ⟨c1, c2, o1, o2, vs1, vs2, t1, t2, g30, g37, gc1, gc2, e30, e37, ec1, ec2, q1, q2, q3, q4⟩ := hp
  k_dflt (refine' enterN (news := led4 c1 c2 o1 o2) ?k1 ?k2 ?k3 ?k4 ?k5 ?k6 ?k7 ?k8 ?k9 ?kB ?c5 ?c2 ?c3 ?c4 ?kR; (case k1 => assumption); (case k2 => assumption); (case k3 => assumption); (case k4 => assumption); (case k5 => exact List.forall_mem_cons.mpr ⟨⟨e30, g30⟩, List.forall_mem_cons.mpr ⟨⟨e37, g37⟩, List.forall_mem_cons.mpr ⟨⟨ec1, gc1⟩, List.forall_mem_cons.mpr ⟨⟨ec2, gc2⟩, List.forall_mem_nil _⟩⟩⟩⟩); (case k6 => k_is); (case k7 => k_is); (case k8 => omega); (case k9 => exact BindsTo.of_eq rfl); (case kB => exact locs rfl); (case c5 => decide); (case c2 => exact rfl); (case c3 => exact rfl); (case c4 => exact rfl))
  k_whole
  intro L' h₁ F' hL hk₁ N' lN'
  dsimp only
  k_fold
  (try k_lt lN')
  k_with_none
  (k_with "call builtin:int.bit_length" => refine r_bits hb ?_)
  (k_with "call ref" => (k_here; first
  | (k_dflt ((first
      | (refine' use_i2d (i2d_1 _ _ _ _ _ ?p1 ?p2 ?p3 ?p4) ?B ?F ?X ?N ?T ?hA ?hf ?hke ?hd ?hu ?hm ?hc ?h1 ?h2 ?_; (case p1 => assumption); (case p2 => omega); (case p3 => assumption); (case p4 => assumption))
      | (refine' use_i2d (i2d_0 _ _ _ _ ?p1 ?p4) ?B ?F ?X ?N ?T ?hA ?hf ?hke ?hd ?hu ?hm ?hc ?h1 ?h2 ?_; (case p1 => assumption); (case p4 => assumption))); (case B => assumption); (case F => k_asm); (case X => assumption); (case N => k_asm); (case T => assumption); (case hA => exact rfl); (case hf => exact rfl); (case hke => exact rfl); (case hd => ((try dsimp only [arC]); omega)); (case hu => (have hcL9 := cLine_is; (try dsimp only [arC]); omega)); (case hm => k_mem); (case hc => k_mem); (case h1 => assumption); (case h2 => assumption)); intro D' vs' nn' h' tk' F' N' hI' hne'; (first | (obtain ⟨t9, e9⟩ := ints_one hI') | (have e9 := ints_nil hI')); subst e9; (try dsimp only at N'); (replace hne' := gnNe_of hne'; simp only [GnNe, and_true] at hne'); clear hI')
  | (k_dflt (refine' use_div2 (t_div2 _ _ _ _ _ _ _ ?p1 ?p2 ?p3) ?B ?F ?X ?N ?T ?hA ?hf ?hke ?hd ?hu ?_; (case p1 => assumption); (case p2 => omega); (case p3 => omega); (case B => assumption); (case F => k_asm); (case X => assumption); (case N => k_asm); (case T => assumption); (case hA => exact rfl); (case hf => exact rfl); (case hke => exact rfl); (case hd => ((try dsimp only [arC]); omega)); (case hu => (have hcL9 := cLine_is; (try dsimp only [arC]); omega))); intro D' t1' t2' h' tk' F' N' hne'; (try dsimp only at N'); (replace hne' := gnNe_of hne'; simp only [GnNe, and_true] at hne'))
  | (k_dflt (refine' use_d2i (d2i_1 _ _ _ _ _ ?p1 ?p2) ?B ?F ?X ?N ?T ?hA ?hf ?hke ?hd ?hu ?hm ?hc ?h1 ?h2 ?hr ?hI ?_; (case B => assumption); (case F => k_asm); (case X => assumption); (case N => k_asm); (case T => assumption); (case hA => exact rfl); (case hf => exact rfl); (case hke => exact rfl); (case hd => ((try dsimp only [arC]); omega)); (case hu => (have hcL9 := cLine_is; (try dsimp only [arC]); omega)); (case hm => k_mem); (case hc => k_mem); (case h1 => assumption); (case h2 => assumption); (case p1 => assumption); (case hr => k_mem); (case hI => exact .cons _ _ .nil); (case p2 => decide)); intro t' h' tk' F' N')
  | (k_dflt (refine' use_d2i (d2i_0 _ _ _ _ ?p1) ?B ?F ?X ?N ?T ?hA ?hf ?hke ?hd ?hu ?hm ?hc ?h1 ?h2 ?hr ?hI ?_; (case B => assumption); (case F => k_asm); (case X => assumption); (case N => k_asm); (case T => assumption); (case hA => exact rfl); (case hf => exact rfl); (case hke => exact rfl); (case hd => ((try dsimp only [arC]); omega)); (case hu => (have hcL9 := cLine_is; (try dsimp only [arC]); omega)); (case hm => k_mem); (case hc => k_mem); (case h1 => assumption); (case h2 => assumption); (case p1 => assumption); (case hr => k_mem); (case hI => exact .nil)); intro t' h' tk' F' N')))
  k_steps
  all_goals (try k_data)
  all_goals exact back (s := s) ret (by k_asm) hL (dm_end (by k_asm) (by k_asm) (by k_mem) ⟨by k_mem, by k_mem, by k_mem, by k_mem⟩ e30 e37 ec1 ec2 (by omega) (by omega))
theorem hk_one {a n : Int} (hn : 5 ≤ n ∧ n ≤ 7) (ha : 0 < a ∧ a < 2 ^ (1 * n).toNat) : ((PySem.Builtin.Int.intBits a : Nat) + n - 1).fdiv n = 1 := by
  have h0 : ¬ PySem.Builtin.Int.intBits a ≤ 0 := fun h => by
    have := intBits_le_iff.mp h
    omega
  have h1 : PySem.Builtin.Int.intBits a ≤ n.toNat := intBits_le_iff.mpr (by
    have : n = 5 ∨ n = 6 ∨ n = 7 := by omega
    rcases this with rfl | rfl | rfl <;> (have h2 := ha.2; simp at h2 ⊢; omega))
  rw [Int.fdiv_eq_ediv_of_nonneg _ (by omega)]
  have h2 : ((PySem.Builtin.Int.intBits a : Nat) : Int) + n - 1 = n * 1 + (((PySem.Builtin.Int.intBits a : Nat) : Int) - 1) := by omega
  rw [h2, Int.add_comm, Int.add_mul_ediv_left _ _ (by omega), Int.ediv_eq_zero_of_lt (by omega) (by omega)]
  rfl
theorem hk_zero {n : Int} (hn : 5 ≤ n ∧ n ≤ 7) : ((PySem.Builtin.Int.intBits 0 : Nat) + n - 1).fdiv n = 0 := by
  have : n = 5 ∨ n = 6 ∨ n = 7 := by omega
  rcases this with rfl | rfl | rfl <;> decide
theorem t_dp (w : World) (a b n : Int) (ta tb : Tok) (hn : 5 ≤ n ∧ n ≤ 7) (hb : (PySem.Builtin.Int.intBits b : Int) = n) (ha : 0 ≤ a ∧ a < b) (hlt : b ≤ 64 ∧ b ≤ 2 ^ (1 * n).toNat) : Ct w 49 [.int a ta, .int b tb] 8 100 Hits (dmPost 0 a) := by
  by_cases h : a = 0
  · subst h; exact t_dp0 w b n ta tb hn hb ha.2 hlt (hk_zero hn)
  · exact t_dp1 w a b n ta tb hn hb (by omega) hlt (hk_one hn (by omega))

/-- a divmod called with the codes at hand -/
theorem use_dm {w : World} {f : Addr} {args : List Value} {q r : Int} {dn cu : Nat} {p : Program} {loose : List Str} {mean : ExcName → Option Value} {mg mb : Str → Option Value}
    {A A₀ : Around} {base h₀ : Heap} {outer : List Env} {env : Env} {L c1 c2 : Addr} {o1 o2 : Obj} {vs1 vs2 : Array Value} {t1 t2 : Tok} {m : Str → Option Value} {news : List (Addr × Obj)} {s : Shared} {Q E : Value → Shared → Prop} {dp un : Nat} {gd : Option (List Code)}
    (C : Ct w f args dn cu Hits (dmPost q r)) (B : Below A₀ base outer h₀) (F : Fr h₀ L s.heap m) (X : (Mine.hd.heap_1 w.params).In h₀) (N : News h₀ L s.heap news) (T : Top p loose mean mg mb h₀)
    (hA : A = arC dp un gd (env :: outer)) (hf : env.frame = some L) (hke : env.scope.kind = .function) (hd : dp + dn < recursionLimit) (hu : un + cu < cLine)
    (m30 : (30, tabObj #[rawInt i2dPos.line, rawInt i2dPos.col, .ref c1]) ∈ news) (m37 : (37, tabObj #[rawInt d2iPos.line, rawInt d2iPos.col, .ref c2]) ∈ news) (m1 : (c1, o1) ∈ news) (m2 : (c2, o2) ∈ news) (q1 : o1.data = .fields vs1) (q2 : vs1[1]? = some (.str i2dQ t1)) (q3 : o2.data = .fields vs2) (q4 : vs2[1]? = some (.str d2iQ t2))
    (h : ∀ D u1 u2 h' tk', Fr h₀ L h' m → News h₀ L h' ((D, tup2 q r u1 u2) :: news) → (∀ q ∈ news, q.1 ≠ D) → Q (.ref D) { s with heap := h', toks := tk' }) :
    wpAny (model PySem.Challenge.rw_pe0269_01.row.prog w) A (call (.ref f) args) Q E s := by
  subst hA
  have B2 := pushX B F hf hke
  obtain ⟨hfl, st, plain, oL, es, ep, gL, hLd, ns⟩ := hide4 (base := base) (as := [30, 37, c1, c2]) F N (by
    intro a ha
    simp only [List.mem_cons, List.not_mem_nil, or_false] at ha
    rcases ha with rfl | rfl | rfl | rfl
    · exact ⟨_, _, m30, rfl⟩
    · exact ⟨_, _, m37, rfl⟩
    · exact ⟨_, _, m1, q1⟩
    · exact ⟨_, _, m2, q3⟩)
  refine wpAny_call (C p loose mean mg mb dp un gd (env :: outer) (A₀.deeper env) (hideAll base [30, 37, c1, c2]) (hideAll s.heap [30, 37, c1, c2]) s _ (below_hide B2 hfl) (X.keeps st) (T.keeps st) (fun b o e => of_hideAll _ e) (Nat.le_of_eq (hideAll_size _ _))
    ⟨c1, c2, o1, o2, vs1, vs2, t1, t2, hideAll_none _ (.head _), hideAll_none _ (.tail _ (.head _)), hideAll_none _ (.tail _ (.tail _ (.head _))), hideAll_none _ (.tail _ (.tail _ (.tail _ (.head _)))), (N _ m30).1, (N _ m37).1, (N _ m1).1, (N _ m2).1, q1, q2, q3, q4⟩ hd hu fun v h' tk' k z qp => ?_)
  obtain ⟨⟨D, u1, u2, rfl, g0, hD⟩, hk⟩ := qp
  obtain ⟨k30, k37, k1, k2⟩ := hk c1 c2 o1 o2 (N _ m30).1 (N _ m37).1 (N _ m1).1 (N _ m2).1
  have N' : News h₀ L h' news := fun q hq => by
    refine ⟨?_, (N q hq).2⟩
    by_cases hm' : q.1 ∈ [30, 37, c1, c2]
    · have e8 := (N q hq).1
      simp only [List.mem_cons, List.not_mem_nil, or_false] at hm'
      rcases hm' with e | e | e | e
      · rw [e, (N _ m30).1] at e8; rw [e, k30]; exact e8
      · rw [e, (N _ m37).1] at e8; rw [e, k37]; exact e8
      · rw [e, (N _ m1).1] at e8; rw [e, k1]; exact e8
      · rw [e, (N _ m2).1] at e8; rw [e, k2]; exact e8
    · exact k _ _ (hideAll_get _ (N q hq).1 hm')
  refine h D u1 u2 h' tk' ⟨ns _ (k _ _ gL), fun b o e => k b o (st b o e), F.above⟩ (List.forall_mem_cons.mpr ⟨⟨hD, ?_, ?_⟩, N'⟩) fun q hq e => ?_
  · intro e; replace e : D = L := e; rw [e, gL] at g0; cases g0
  · show h₀.get? D = none
    cases e : h₀.get? D with
    | none => rfl
    | some o => rw [st _ _ e] at g0; cases g0
  · have e1 := (N' q hq).1
    rw [e, hD] at e1
    have e2 := Option.some.inj e1
    have e3 := plain q hq (fun vs hv => by rw [← e2] at hv; cases hv)
    rw [e, g0] at e3; cases e3
end
section
theorem flush_Dw : (1 : Nat) = 1 := by
  w_top off
  k_with_none
  first | walk1 | rfl
theorem t_dmP (w : World) (a b n : Int) (ta tb : Tok) (hn : 5 ≤ n ∧ n ≤ 7) (hb : (PySem.Builtin.Int.intBits b : Int) = n) (ha : 0 ≤ a ∧ a < b) (hlt : b ≤ 64 ∧ b ≤ 2 ^ (1 * n).toNat) : Ct w 56 [.int a ta, .int b tb] 10 120 Hits (dmPost 0 a) := by
  unfold Ct
  k_fill
  intro p loose mean mg mb dp un gd outer A₀ base g s R B X T kp sz hp hd hu ret
  obtain ⟨c1, c2, o1, o2, vs1, vs2, t1, t2, g30, g37, gc1, gc2, e30, e37, ec1, ec2, q1, q2, q3, q4⟩ := hp
  k_dflt (refine' enterN (news := led4 c1 c2 o1 o2) ?k1 ?k2 ?k3 ?k4 ?k5 ?k6 ?k7 ?k8 ?k9 ?kB ?c5 ?c2 ?c3 ?c4 ?kR; (case k1 => assumption); (case k2 => assumption); (case k3 => assumption); (case k4 => assumption); (case k5 => exact List.forall_mem_cons.mpr ⟨⟨e30, g30⟩, List.forall_mem_cons.mpr ⟨⟨e37, g37⟩, List.forall_mem_cons.mpr ⟨⟨ec1, gc1⟩, List.forall_mem_cons.mpr ⟨⟨ec2, gc2⟩, List.forall_mem_nil _⟩⟩⟩⟩); (case k6 => k_is); (case k7 => k_is); (case k8 => omega); (case k9 => exact BindsTo.of_eq rfl); (case kB => exact locs rfl); (case c5 => decide); (case c2 => exact rfl); (case c3 => exact rfl); (case c4 => exact rfl))
  k_whole
  intro L' h₁ F' hL hk₁ N' lN'
  dsimp only
  k_fold
  (try k_lt lN')
  k_with_none
  (k_with "call ref" => (k_here; (k_dflt ((first | refine' use_dm (t_dp _ _ _ _ _ _ ?p1 ?p2 ?p3 ?p4) ?B ?F ?X ?N ?T ?hA ?hf ?hke ?hd ?hu ?hm ?hn ?hc ?he ?h1 ?h2 ?h3 ?h4 ?_); (case B => assumption); (case F => k_asm); (case X => assumption); (case N => k_asm); (case T => assumption); (case hA => exact rfl); (case hf => exact rfl); (case hke => exact rfl); (case hd => ((try dsimp only [arC]); omega)); (case hu => (have hcL9 := cLine_is; (try dsimp only [arC]); omega)); (case hm => k_mem); (case hn => k_mem); (case hc => k_mem); (case he => k_mem); (case h1 => assumption); (case h2 => assumption); (case h3 => assumption); (case h4 => assumption); (case p1 => assumption); (case p2 => assumption); (case p3 => omega); (case p4 => assumption))); intro D' u1' u2' h' tk' F' N' hne'; (try dsimp only at N'); (replace hne' := gnNe_of hne'; simp only [GnNe, and_true] at hne')))
  k_steps
  all_goals (try k_data)
  all_goals first | (exfalso; omega) | exact back (s := s) ret (by k_asm) hL (dm_end (by k_asm) (by k_asm) (by k_mem) ⟨by k_mem, by k_mem, by k_mem, by k_mem⟩ e30 e37 ec1 ec2 rfl rfl)
theorem t_dmN (w : World) (a b n : Int) (ta tb : Tok) (hn : 5 ≤ n ∧ n ≤ 7) (hb : (PySem.Builtin.Int.intBits b : Int) = n) (ha : -b ≤ a ∧ a < 0) (hlt : b ≤ 64 ∧ b ≤ 2 ^ (1 * n).toNat) : Ct w 56 [.int a ta, .int b tb] 12 140 Hits (dmPost (-1) (b + a)) := by
  unfold Ct
  k_fill
  intro p loose mean mg mb dp un gd outer A₀ base g s R B X T kp sz hp hd hu ret
  obtain ⟨c1, c2, o1, o2, vs1, vs2, t1, t2, g30, g37, gc1, gc2, e30, e37, ec1, ec2, q1, q2, q3, q4⟩ := hp
  have hab : 0 ≤ -a - 1 ∧ -a - 1 < b := by omega
  have hbn : PySem.Builtin.bitNot a = -a - 1 := rfl
  k_dflt (refine' enterN (news := led4 c1 c2 o1 o2) ?k1 ?k2 ?k3 ?k4 ?k5 ?k6 ?k7 ?k8 ?k9 ?kB ?c5 ?c2 ?c3 ?c4 ?kR; (case k1 => assumption); (case k2 => assumption); (case k3 => assumption); (case k4 => assumption); (case k5 => exact List.forall_mem_cons.mpr ⟨⟨e30, g30⟩, List.forall_mem_cons.mpr ⟨⟨e37, g37⟩, List.forall_mem_cons.mpr ⟨⟨ec1, gc1⟩, List.forall_mem_cons.mpr ⟨⟨ec2, gc2⟩, List.forall_mem_nil _⟩⟩⟩⟩); (case k6 => k_is); (case k7 => k_is); (case k8 => omega); (case k9 => exact BindsTo.of_eq rfl); (case kB => exact locs rfl); (case c5 => decide); (case c2 => exact rfl); (case c3 => exact rfl); (case c4 => exact rfl))
  k_whole
  intro L' h₁ F' hL hk₁ N' lN'
  dsimp only
  k_fold
  (try k_lt lN')
  k_with_none
  (k_with "call ref" => (k_here; (k_dflt ((first | refine' use_dm (t_dp _ _ _ _ _ _ ?p1 ?p2 ?p3 ?p4) ?B ?F ?X ?N ?T ?hA ?hf ?hke ?hd ?hu ?hm ?hn ?hc ?he ?h1 ?h2 ?h3 ?h4 ?_); (case B => assumption); (case F => k_asm); (case X => assumption); (case N => k_asm); (case T => assumption); (case hA => exact rfl); (case hf => exact rfl); (case hke => exact rfl); (case hd => ((try dsimp only [arC]); omega)); (case hu => (have hcL9 := cLine_is; (try dsimp only [arC]); omega)); (case hm => k_mem); (case hn => k_mem); (case hc => k_mem); (case he => k_mem); (case h1 => assumption); (case h2 => assumption); (case h3 => assumption); (case h4 => assumption); (case p1 => assumption); (case p2 => assumption); (case p3 => omega); (case p4 => assumption))); intro D' u1' u2' h' tk' F' N' hne'; (try dsimp only at N'); (replace hne' := gnNe_of hne'; simp only [GnNe, and_true] at hne')))
  (k_with "call ref" => (k_here; (k_dflt ((first | refine' use_dm (t_dmP _ _ _ _ _ _ ?p1 ?p2 ?p3 ?p4) ?B ?F ?X ?N ?T ?hA ?hf ?hke ?hd ?hu ?hm ?hn ?hc ?he ?h1 ?h2 ?h3 ?h4 ?_); (case B => assumption); (case F => k_asm); (case X => assumption); (case N => k_asm); (case T => assumption); (case hA => exact rfl); (case hf => exact rfl); (case hke => exact rfl); (case hd => ((try dsimp only [arC]); omega)); (case hu => (have hcL9 := cLine_is; (try dsimp only [arC]); omega)); (case hm => k_mem); (case hn => k_mem); (case hc => k_mem); (case he => k_mem); (case h1 => assumption); (case h2 => assumption); (case h3 => assumption); (case h4 => assumption); (case p1 => assumption); (case p2 => assumption); (case p3 => assumption); (case p4 => assumption))); intro D' u1' u2' h' tk' F' N' hne'; (try dsimp only at N'); (replace hne' := gnNe_of hne'; simp only [GnNe, and_true] at hne')))
  k_steps
  all_goals (try k_data)
  all_goals first | (exfalso; omega) | exact back (s := s) ret (by k_asm) hL (dm_end (by k_asm) (by k_asm) (by k_mem) ⟨by k_mem, by k_mem, by k_mem, by k_mem⟩ e30 e37 ec1 ec2 (by decide) (by simp only [PySem.Builtin.bitNot, PySem.Spec.bitNot]; omega))
end
section
theorem flush_Dn : (1 : Nat) = 1 := by
  w_top off
  k_with_none
  first | walk1 | rfl
/-- the number of a row of figures, as the program joins them -/
def d2iS (n : Int) : List Int → Int
  | [d0] => d0
  | [d0, d1] => d1 * 2 ^ (1 * n).toNat + d0
  | [d0, d1, d2] => (d2 * 2 ^ (1 * n).toNat + d1) * 2 ^ (1 * n).toNat + d0
  | [d0, d1, d2, d3] => (d3 * 2 ^ (1 * n).toNat + d2) * 2 ^ (2 * n).toNat + (d1 * 2 ^ (1 * n).toNat + d0)
  | _ => 0
theorem d2i_any (w : World) (r : Addr) (ds : List Int) (n : Int) (tk : Tok) (hn : 5 ≤ n ∧ n ≤ 7) (hl : ds.length ≤ 4) (hb : ∀ d ∈ ds, 0 ≤ d ∧ d < 128) : Ct w 42 [.ref r, .int n tk] 6 60 (d2iPre r ds) (d2iPost (d2iS n ds)) := by
  match ds, hl, hb with
  | [], _, _ => exact d2i_0 w r n tk hn
  | [d0], hl, hb => exact d2i_gen w r [d0] n tk hn hl (Nat.zero_lt_succ _) (getD_b hb)
  | [d0, d1], hl, hb => exact (show d2v n [d0, d1] 4 0 2 = d2iS n [d0, d1] from by simp [d2v, d2iS]) ▸ d2i_gen w r [d0, d1] n tk hn hl (Nat.zero_lt_succ _) (getD_b hb)
  | [d0, d1, d2], hl, hb => exact (show d2v n [d0, d1, d2] 4 0 3 = d2iS n [d0, d1, d2] from by simp [d2v, d2iS]) ▸ d2i_gen w r [d0, d1, d2] n tk hn hl (Nat.zero_lt_succ _) (getD_b hb)
  | [d0, d1, d2, d3], hl, hb => exact (show d2v n [d0, d1, d2, d3] 4 0 4 = d2iS n [d0, d1, d2, d3] from by simp [d2v, d2iS]) ▸ d2i_gen w r [d0, d1, d2, d3] n tk hn hl (Nat.zero_lt_succ _) (getD_b hb)
  | _ :: _ :: _ :: _ :: _ :: _, hl, _ => simp only [List.length_cons] at hl; omega
theorem pow_pos1 {n : Int} : (0 : Int) < 2 ^ (1 * n).toNat := kbt_pos _
theorem bits_of {x : Int} {m : Nat} (h0 : (2 : Int) ^ m ≤ x) (h1 : x < 2 ^ (m + k)) : (m : Int) + 1 ≤ PySem.Builtin.Int.intBits x ∧ (PySem.Builtin.Int.intBits x : Int) ≤ m + k := by
  have p0 := kbt_pos m
  have a := mt (intBits_le_iff (m := m) (x := x)).mp (by have e := kbt_cast m; omega)
  have b := (intBits_le_iff (m := m + k) (x := x)).mpr (by have e := kbt_cast (m + k); omega)
  omega
/-- how many figures -/
theorem hk_of {n x : Int} {j : Nat} (hn : 5 ≤ n ∧ n ≤ 7) (h0 : (2 : Int) ^ (j * n.toNat) ≤ x) (h1 : x < 2 ^ (j * n.toNat + n.toNat)) : ((PySem.Builtin.Int.intBits x : Nat) + n - 1).fdiv n = (j : Int) + 1 := by
  obtain ⟨a, b⟩ := bits_of h0 h1
  have hm : ((j * n.toNat : Nat) : Int) = j * n := by rw [Int.natCast_mul]; congr 1; omega
  rw [hm] at a b
  have e : (n.toNat : Int) = n := by omega
  rw [e] at b
  rw [Int.fdiv_eq_ediv_of_nonneg _ (by omega)]
  have h2 : ((PySem.Builtin.Int.intBits x : Nat) : Int) + n - 1 = (((PySem.Builtin.Int.intBits x : Nat) : Int) - 1 - j * n) + n * ((j : Int) + 1) := by rw [Int.mul_add, Int.mul_comm n j]; omega
  rw [h2, Int.add_mul_ediv_left _ _ (by omega), Int.ediv_eq_zero_of_lt (by omega) (by omega)]
  omega
theorem pw {n : Int} (hn : 5 ≤ n ∧ n ≤ 7) (j : Nat) : (2 : Int) ^ (j * n.toNat) = (2 ^ (1 * n).toNat) ^ j := by
  rw [Int.one_mul, ← Int.pow_mul, Nat.mul_comm]
theorem i2d_any (w : World) (ds : List Int) (n : Int) (ta tk : Tok) (hn : 5 ≤ n ∧ n ≤ 7) (hl : ds.length ≤ 4) (h0 : 0 < ds.length) (hb : ∀ d ∈ ds, 0 < d ∧ d < 2 ^ (1 * n).toNat) : Ct w 35 [.int (d2iS n ds) ta, .int n tk] 6 60 (fun g h => TabQ 30 i2dPos i2dQ g h) (i2dPost ds) := by
  have P : (2 : Int) ^ (1 * n).toNat = 32 ∨ (2 : Int) ^ (1 * n).toNat = 64 ∨ (2 : Int) ^ (1 * n).toNat = 128 := by
    have : n = 5 ∨ n = 6 ∨ n = 7 := by omega
    rcases this with rfl | rfl | rfl <;> simp
  have P2 := pow2_b hn
  have e1 := pw hn 1
  have e2 := pw hn 2
  have e3 := pw hn 3
  have e4 := pw hn 4
  have a1 : 1 * n.toNat + n.toNat = 2 * n.toNat := by omega
  have a2 : 2 * n.toNat + n.toNat = 3 * n.toNat := by omega
  have a3 : 3 * n.toNat + n.toNat = 4 * n.toNat := by omega
  match ds, hl, h0, hb with
  | [d0], _, _, hb =>
    have b0 := hb d0 (by simp)
    exact i2d_1 w d0 n ta tk hn (by omega) b0.1 (hk_one hn b0)
  | [d0, d1], hl, _, hb =>
    have b0 := hb d0 (by simp); have b1 := hb d1 (by simp)
    have ev : d2v n [d0, d1] 4 0 2 = d2iS n [d0, d1] := by simp [d2v, d2iS]
    refine ev ▸ i2d_gen w [d0, d1] n ta tk hn hl (Nat.zero_lt_succ _) (getD_p fun d h => ⟨Int.le_of_lt (hb d h).1, (hb d h).2⟩) (ev ▸ ?_) (ev ▸ hk_of (j := 1) hn ?_ ?_)
    all_goals first | rw [e1] | (rw [a1, e2]) | skip
    all_goals (unfold d2iS; (try simp only [Int.pow_succ, Int.pow_zero]) ; rcases P with p | p | p <;> rw [p] at b0 b1 ⊢ <;> omega)
  | [d0, d1, d2], hl, _, hb =>
    have b0 := hb d0 (by simp); have b1 := hb d1 (by simp); have b2 := hb d2 (by simp)
    have ev : d2v n [d0, d1, d2] 4 0 3 = d2iS n [d0, d1, d2] := by simp [d2v, d2iS]
    refine ev ▸ i2d_gen w [d0, d1, d2] n ta tk hn hl (Nat.zero_lt_succ _) (getD_p fun d h => ⟨Int.le_of_lt (hb d h).1, (hb d h).2⟩) (ev ▸ ?_) (ev ▸ hk_of (j := 2) hn ?_ ?_)
    all_goals first | rw [e2] | (rw [a2, e3]) | skip
    all_goals (unfold d2iS; (try simp only [Int.pow_succ, Int.pow_zero]) ; rcases P with p | p | p <;> rw [p] at b0 b1 b2 ⊢ <;> omega)
  | [d0, d1, d2, d3], hl, _, hb =>
    have b0 := hb d0 (by simp); have b1 := hb d1 (by simp); have b2 := hb d2 (by simp); have b3 := hb d3 (by simp)
    have ev : d2v n [d0, d1, d2, d3] 4 0 4 = d2iS n [d0, d1, d2, d3] := by simp [d2v, d2iS]
    refine ev ▸ i2d_gen w [d0, d1, d2, d3] n ta tk hn hl (Nat.zero_lt_succ _) (getD_p fun d h => ⟨Int.le_of_lt (hb d h).1, (hb d h).2⟩) (ev ▸ ?_) (ev ▸ hk_of (j := 3) hn ?_ ?_)
    all_goals first | rw [e3] | (rw [a3, e4]) | skip
    all_goals (unfold d2iS; rw [P2]; (try simp only [Int.pow_succ, Int.pow_zero]) ; rcases P with p | p | p <;> rw [p] at b0 b1 b2 b3 ⊢ <;> omega)
  | _ :: _ :: _ :: _ :: _ :: _, hl, _, _ => simp only [List.length_cons] at hl; omega
theorem d2i_lin (n : Int) (A B : List Int) (H : Int) (hA : A.length ≤ 4) (hB : B.length = A.length) : d2iS n A + d2iS n (List.replicate A.length H) - d2iS n B = d2iS n (A.zipWith (fun a b => a + H - b) B) := by
  match A, B, hA, hB with
  | [], [], _, _ => rfl
  | [a], [b], _, _ => rfl
  | [a0, a1], [b0, b1], _, _ => simp only [d2iS, List.replicate, List.length_cons, List.length_nil, List.zipWith, Int.add_mul, Int.sub_mul]; omega
  | [a0, a1, a2], [b0, b1, b2], _, _ => simp only [d2iS, List.replicate, List.length_cons, List.length_nil, List.zipWith, Int.add_mul, Int.sub_mul]; omega
  | [a0, a1, a2, a3], [b0, b1, b2, b3], _, _ => simp only [d2iS, List.replicate, List.length_cons, List.length_nil, List.zipWith, Int.add_mul, Int.sub_mul]; omega
  | _ :: _ :: _ :: _ :: _ :: _, _, hl, _ => simp only [List.length_cons] at hl; omega
end
section
theorem flush_Lb : (1 : Nat) = 1 := by
  w_top off
  k_with_none
  first | walk1 | rfl
def lawStmt : Stmt := match PySem.Challenge.pw_pe0269_01.main.body.getLast? with | some st => st | none => .Pass ⟨0, 0, 0, 0⟩
def lawBody : List Stmt := match lawStmt with | .FunctionDef _ _ body _ _ _ _ _ _ _ => body | _ => []
def lawScope : Scope := match lawStmt with | .FunctionDef _ _ _ _ _ _ sc _ _ _ => sc | _ => { kind := .function, names := [], isGenerator := false, isCoroutine := false }
def turnBody : List Stmt := match lawBody with | [_, _, _, _, .For _ _ b _ _, _] => b | _ => []
def tst (i : Nat) : Stmt := turnBody.getD i (.Pass ⟨0, 0, 0, 0⟩)
abbrev lawEnv (L : Addr) : Env := envOfC (Str.ofString "law") lawScope L 167 (.ref 166)
theorem Fr.pin {g h : Heap} {L : Addr} {m : Str → Option Value} {x : Str} {v : Value} (F : Fr g L h m) (e : m x = some v) : Fr g L h (fun z => if z = x then some v else m z) :=
  fr_canon F fun y => by
    by_cases q : y = x
    · rw [if_pos q, q, e]
    · rw [if_neg q]
/-- a Whitespace made -/
theorem useInit {w : World} {raw : Str} {tk : Tok} {p : Program} {loose : List Str} {mean : ExcName → Option Value} {mg mb : Str → Option Value}
    {A A₀ : Around} {base h₀ : Heap} {outer : List Env} {env : Env} {L : Addr} {m : Str → Option Value} {news : List (Addr × Obj)} {s : Shared} {Q E : Value → Shared → Prop} {dp un : Nat} {gd : Option (List Code)}
    (B : Below A₀ base outer h₀) (F : Fr h₀ L s.heap m) (X : (Mine.hd.heap_1 w.params).In h₀) (N : News h₀ L s.heap news) (T : Top p loose mean mg mb h₀)
    (hA : A = arC dp un gd (env :: outer)) (hf : env.frame = some L) (hke : env.scope.kind = .function) (hd : dp + 2 < recursionLimit) (hu : un + 20 < cLine) (hraw : raw.length < 900)
    (h : ∀ x fresh h' tk', Fr h₀ L h' m → News h₀ L h' (fresh ++ news) → WsR fresh x (wsOf raw) → Q (.ref x) { s with heap := h', toks := tk' }) :
    wpAny (model PySem.Challenge.rw_pe0269_01.row.prog w) A (call (.ref 118) [.str raw tk]) Q E s := by
  subst hA
  refine PySem.W.call_cls (K := Mine.hd.heap_1 w.params) (fI := 73) F X N (by with_unfolding_all rfl) (by with_unfolding_all rfl) (by with_unfolding_all rfl) fun x dx h₁ F₁ N₁ l1 l2 => ?_
  have N₂ : News h₀ L h₁ [(x, instObj 118 dx), (dx, dictOf [] 0)] := List.forall_mem_cons.mpr ⟨N₁ _ (.head _), List.forall_mem_cons.mpr ⟨N₁ _ (.tail _ (.head _)), List.forall_mem_nil _⟩⟩
  obtain ⟨FG, BG, st, _⟩ := groundX (A := arC dp un gd (env :: outer)) (s := { s with heap := h₁ }) (R := fun _ _ => True) B F₁ N₂ rfl hf hke
  change Fr h₀ L (hideAll h₁ [x, dx]) m at FG
  change Below _ base (env :: outer) (hideAll h₁ [x, dx]) at BG
  change ∀ b o, h₀.get? b = some o → (hideAll h₁ [x, dx]).get? b = some o at st
  have g1 : (hideAll h₁ [x, dx]).get? x = none := hideAll_none _ (.head _)
  have g2 : (hideAll h₁ [x, dx]).get? dx = none := hideAll_none _ (.tail _ (.head _))
  have sizes : (hideAll h₁ [x, dx]).objs.size ≤ h₁.objs.size := Nat.le_of_eq (hideAll_size _ _)
  have hcL := cLine_is
  show codeAny _ (arC (dp + 1) (un + 1) _ (env :: outer)) _ _ _
  refine t_init w x dx raw tk hraw p loose mean mg mb (dp + 1) (un + 1) _ (env :: outer) _ base (hideAll h₁ [x, dx]) { s with heap := h₁ } _ BG (X.keeps st) (T.keeps st) (fun b o e => of_hideAll _ e) sizes ⟨(N₂ _ (.head _)).1, (N₂ _ (.tail _ (.head _))).1, g1, g2, l2⟩ (by omega) (by omega) fun v h' tk' k z q => ?_
  · obtain ⟨rfl, fresh, R, hfr⟩ := q
    refine ⟨rfl, h x fresh h' tk' ⟨FG.ns.at' fun o e => k _ _ e, fun b o e => k b o (st b o e), F.above⟩ (fun q hq => ?_) R⟩
    rcases List.mem_append.mp hq with hq | hq
    · refine ⟨(hfr q hq).1, fun e => ?_, ?_⟩
      · obtain ⟨o, _, _, eL, _⟩ := FG.ns
        have := (hfr q hq).2
        rw [e, eL] at this; cases this
      · cases e : h₀.get? q.1 with
        | none => rfl
        | some o => have := (hfr q hq).2; rw [st _ _ e] at this; cases this
    · have n := N₁ q (.tail _ (.tail _ hq))
      have lt := l1 q hq
      refine ⟨k _ _ (hideAll_get _ n.1 fun hm => ?_), n.2⟩
      rcases List.mem_cons.mp hm with e | hm
      · rw [e] at lt; exact Nat.lt_irrefl _ (Nat.lt_trans lt l2)
      · rw [List.mem_singleton.mp hm] at lt; exact Nat.lt_irrefl _ lt
end
section
theorem flush_Lm : (1 : Nat) = 1 := by
  w_top off
  k_with_none
  first | walk1 | rfl
/-- a comprehension's turn is over -/
def CompPost (h₀ : Heap) (L I C D : Addr) (m : Str → Option Value) (s : Shared) (oI oC oD : Obj) (P : List (Addr × Obj) → Prop) (s' : Shared) : Prop :=
  ∃ h' tk' nw', s' = { s with heap := h', toks := tk' } ∧ Fr h₀ L h' m ∧ News h₀ L h' ((I, oI) :: (C, oC) :: (D, oD) :: nw') ∧ LCg.Off3 I C D nw' ∧ P nw'
section
variable {prog : Program} {w : World} {A : Around} {E : Value → Shared → Prop} {s : Shared} {h₀ : Heap} {L : Addr} {m : Str → Option Value} {env : Env}
theorem comp_inv {elt : Expr} {x : Str} {scope : Scope} {cl : List (Str × Addr)} {S : List (Addr × Obj) → Prop} {P : Nat → Value → Prop} {Fin : List Value → List (Addr × Obj) → Prop} {n : Nat} {news : List (Addr × Obj)}
    (Inv : Nat → List Value → List (Addr × Obj) → Prop) (h0 : Inv 0 [] news)
    (turn : ∀ i v I oI C oC D m₂ ys nw h tk (E' : Value → Shared → Prop), i < n → P i v → Inv i ys nw → LCg.NsObj oC m₂ → m₂ x = some v → Fr h₀ L h m → News h₀ L h ((I, oI) :: (C, oC) :: (D, LCg.lst ys) :: nw) → LCg.Off3 I C D nw → ((@Ne Nat I C) ∧ (@Ne Nat I D) ∧ (@Ne Nat C D)) →
      wpAny (model prog w) A (eval elt (compEnvC scope cl C env)) (fun y s' => ∃ h' tk' nw', s' = { s with heap := h', toks := tk' } ∧ Fr h₀ L h' m ∧ News h₀ L h' ((I, oI) :: (C, oC) :: (D, LCg.lst ys) :: nw') ∧ LCg.Off3 I C D nw' ∧ S nw' ∧ Inv (i + 1) (ys ++ [y]) nw') E' { s with heap := h, toks := tk })
    (fin : ∀ ys nw, Inv n ys nw → Fin ys nw) : LCg.CompRest prog w A h₀ L m env elt x scope cl s S P Fin n 0 [] news := by
  have key : ∀ (j i : Nat) (ys : List Value) (nw : List (Addr × Obj)), i + j = n → Inv i ys nw → LCg.CompRest prog w A h₀ L m env elt x scope cl s S P Fin j i ys nw := by
    intro j
    induction j with
    | zero => intro i ys nw hi hy; have e : i = n := by omega
              subst e; exact LCg.CompRest.zero (fin ys nw hy)
    | succ j ih =>
      intro i ys nw hi hy
      refine LCg.CompRest.succ ?_
      intro v I oI C oC D m₂ h tk E' hv hC hx F N off ne
      refine wpAny_mono (turn i v I oI C oC D m₂ ys nw h tk E' (by omega) hv hy hC hx F N off ne) (fun y s₂ hq => ?_) fun _ _ e => e
      obtain ⟨h', tk', nw', e, F', N', off', hS, hn⟩ := hq
      exact ⟨h', tk', nw', e, F', N', off', hS, ih (i + 1) _ _ (by omega) hn⟩
  exact key n 0 [] news (by omega) h0
/-- a list comprehension over a range, by an invariant -/
theorem comp_range {elt : Expr} {x : Str} {scope : Scope} {cl : List (Str × Addr)} {Fin : Shared → List Value → List (Addr × Obj) → Prop} {r : Addr} {a b : Int} {t u v : Tok} {n : Nat} {news : List (Addr × Obj)}
    (Inv : Nat → List Value → List (Addr × Obj) → Prop) (hh : A.handled = none) (F : Fr h₀ L s.heap m) (N : News h₀ L s.heap news) (hr : IsRange s.heap r a b 1 t u v) (hb : b = a + (n : Int)) (ha : 0 ≤ a ∧ a ≤ 100) (hn : n ≤ 100) (h0 : Inv 0 [] news)
    (turn : ∀ i v I oI C oC D m₂ ys nw h tk (E' : Value → Shared → Prop), i < n → (∃ t, v = .int (a + (i : Int)) t) → Inv i ys nw → LCg.NsObj oC m₂ → m₂ x = some v → Fr h₀ L h m → News h₀ L h ((I, oI) :: (C, oC) :: (D, LCg.lst ys) :: nw) → LCg.Off3 I C D nw → ((@Ne Nat I C) ∧ (@Ne Nat I D) ∧ (@Ne Nat C D)) →
      wpAny (model prog w) A (eval elt (compEnvC scope cl C env)) (fun y s' => CompPost h₀ L I C D m s oI oC (LCg.lst ys) (fun nw' => Inv (i + 1) (ys ++ [y]) nw') s') E' { s with heap := h, toks := tk })
    (fin : ∀ g ys nw, Inv n ys nw → Fin { s with heap := g } ys nw) : LCg.CompSrc prog w A h₀ L m env elt x scope cl Fin (.ref r) s := by
  refine LCg.CompSrc.range (n := n) hh F N hr (small_one (by omega) (by omega) (by omega) (by omega)) (by rw [rangeSize_one]; split <;> omega) (by rw [sizeLine_eq]; omega) fun g => ?_
  refine comp_inv Inv h0 ?_ (fin g)
  intro i v I oI C oC D m₂ ys nw h tk E' hi hv hy hC hx F N off ne
  exact wpAny_mono (turn i v I oI C oC D m₂ ys nw h tk E' hi hv hy hC hx F N off ne) (fun y s' ⟨h', tk', nw', e, F', N', off', hI⟩ => ⟨h', tk', nw', e, F', N', off', trivial, hI⟩) fun _ _ e => e
/-- a list comprehension over a list of the ledger, by an invariant -/
theorem comp_list {elt : Expr} {x : Str} {scope : Scope} {cl : List (Str × Addr)} {Fin : Shared → List Value → List (Addr × Obj) → Prop} {ax : Addr} {its : Array Value} {k : Nat} {news : List (Addr × Obj)}
    (Inv : Nat → List Value → List (Addr × Obj) → Prop) (hh : A.handled = none) (F : Fr h₀ L s.heap m) (N : News h₀ L s.heap news) (hm : (ax, ({ cls := .type "list", data := .seq its k } : Obj)) ∈ news) (hn : its.size ≤ 1000) (h0 : Inv 0 [] news) (hS : ∀ i ys nw, Inv i ys nw → (ax, ({ cls := .type "list", data := .seq its k } : Obj)) ∈ nw)
    (turn : ∀ i v I oI C oC D m₂ ys nw h tk (E' : Value → Shared → Prop), i < its.size → its[i]? = some v → Inv i ys nw → LCg.NsObj oC m₂ → m₂ x = some v → Fr h₀ L h m → News h₀ L h ((I, oI) :: (C, oC) :: (D, LCg.lst ys) :: nw) → LCg.Off3 I C D nw → ((@Ne Nat I C) ∧ (@Ne Nat I D) ∧ (@Ne Nat C D)) →
      wpAny (model prog w) A (eval elt (compEnvC scope cl C env)) (fun y s' => CompPost h₀ L I C D m s oI oC (LCg.lst ys) (fun nw' => Inv (i + 1) (ys ++ [y]) nw') s') E' { s with heap := h, toks := tk })
    (fin : ∀ g ys nw, Inv its.size ys nw → Fin { s with heap := g } ys nw) : LCg.CompSrc prog w A h₀ L m env elt x scope cl Fin (.ref ax) s := by
  refine LCg.CompSrc.ledger hh F N hm (by rw [sizeLine_eq]; omega) fun g => ?_
  refine comp_inv Inv h0 ?_ (fin g)
  intro i v I oI C oC D m₂ ys nw h tk E' hi hv hy hC hx F N off ne
  exact wpAny_mono (turn i v I oI C oC D m₂ ys nw h tk E' hi hv hy hC hx F N off ne) (fun y s' ⟨h', tk', nw', e, F', N', off', hI⟩ => ⟨h', tk', nw', e, F', N', off', .inr ⟨_, hS _ _ _ hI, rfl, _, rfl⟩, hI⟩) fun _ _ e => e
end
theorem compInv_end {h₀ h' : Heap} {L I C D : Addr} {m : Str → Option Value} {s : Shared} {oI oC oD : Obj} {tk' : Nat} {nw : List (Addr × Obj)} {P : List (Addr × Obj) → Prop} (F : Fr h₀ L h' m) (N : News h₀ L h' ((I, oI) :: (C, oC) :: (D, oD) :: nw)) (off : LCg.Off3 I C D nw) (p : P nw) :
    CompPost h₀ L I C D m s oI oC oD P { s with heap := h', toks := tk' } := ⟨h', tk', nw, rfl, F, N, off, p⟩
theorem ints_snoc {ys : List Value} {f : Int → Int} {i : Nat} {t : Tok} {a : Int} (h : IntsAre ys ((rangeKs a i).map f)) : IntsAre (ys ++ [.int (f (a + i)) t]) ((rangeKs a (i + 1)).map f) := by
  rw [rangeKs_succ, List.map_append]
  exact IntsAre.append h (.cons _ t .nil)
theorem unpin {g h : Heap} {L : Addr} {m : Str → Option Value} {nm x : Str} {v : Option Value} {u : Value} (F : Fr g L h (fun z => if z = nm then v else if z = x then some u else m z)) (e : m x = some u) : Fr g L h (fun z => if z = nm then v else m z) :=
  fr_canon F fun y => by
    by_cases a : y = nm
    · rw [if_pos a, if_pos a]
    · rw [if_neg a, if_neg a]
      by_cases b : y = x
      · rw [if_pos b, b, e]
      · rw [if_neg b]
def Stop9 (P : Prop) : Prop := P
theorem stop9 {P : Prop} (h : Stop9 P) : P := h
end
section
theorem flush_Lt : (1 : Nat) = 1 := by
  w_top off
  k_with_none
  first | walk1 | rfl
theorem TabL.tail {pos : Pos} {qual : Str} {ps : Array Value} {nw : List (Addr × Obj)} {q : Addr × Obj} (H : TabL pos qual ps nw) : TabL pos qual ps (q :: nw) := by
  rcases H with e | ⟨c', oc, vs, t, e, hc, h1, h2⟩
  · exact .inl e
  · exact .inr ⟨c', oc, vs, t, e, .tail _ hc, h1, h2⟩
/-- _digits2int called, its table in either state -/
theorem use_d2iT {w : World} {r : Addr} {rest : List Value} {ds : List Int} {v₀ : Int} {us : List Value} {nn : Nat} {p : Program} {loose : List Str} {mean : ExcName → Option Value} {mg mb : Str → Option Value}
    {A A₀ : Around} {base h₀ : Heap} {outer : List Env} {env : Env} {L : Addr} {ps : Array Value} {m : Str → Option Value} {nw : List (Addr × Obj)} {s : Shared} {Q E : Value → Shared → Prop} {dp un : Nat} {gd : Option (List Code)}
    (C : Ct w 42 (.ref r :: rest) 6 60 (d2iPre r ds) (d2iPost v₀)) (B : Below A₀ base outer h₀) (F : Fr h₀ L s.heap m) (X : (Mine.hd.heap_1 w.params).In h₀) (N : News h₀ L s.heap ((37, tabObj ps) :: nw)) (T : Top p loose mean mg mb h₀)
    (hA : A = arC dp un gd (env :: outer)) (hf : env.frame = some L) (hke : env.scope.kind = .function) (hd : dp + 6 < recursionLimit) (hu : un + 60 < cLine) (hoff : ∀ q ∈ nw, q.1 ≠ 37) (H : TabL d2iPos d2iQ ps nw) (hr : (r, PySem.W.listOf us.toArray nn) ∈ nw) (hI : IntsAre us ds)
    (h : ∀ t h' tk' c' oc vs u, Fr h₀ L h' m → News h₀ L h' ((c', oc) :: (37, tabObj #[rawInt d2iPos.line, rawInt d2iPos.col, .ref c']) :: nw) → oc.data = .fields vs → vs[1]? = some (.str d2iQ u) → Q (.int v₀ t) { s with heap := h', toks := tk' }) :
    wpAny (model PySem.Challenge.rw_pe0269_01.row.prog w) A (call (.ref 42) (.ref r :: rest)) Q E s :=
  useT C B F X N T hA hf hke hd hu (.head hoff) H.tail (fun g _ _ pl tq => ⟨⟨us, nn, pl _ (.tail _ hr) (fun vs' => by simp), hI⟩, tq⟩) (fun _ _ _ q => q.2) fun v g h' tk' c' oc vs u F' N' e1 e2 rel q pl st gL => by
    obtain ⟨⟨t, rfl⟩, _⟩ := q
    exact h t h' tk' c' oc vs u F' N' e1 e2
/-- _int2digits called, its table in either state -/
theorem use_i2dT {w : World} {args : List Value} {ds : List Int} {p : Program} {loose : List Str} {mean : ExcName → Option Value} {mg mb : Str → Option Value}
    {A A₀ : Around} {base h₀ : Heap} {outer : List Env} {env : Env} {L : Addr} {ps : Array Value} {m : Str → Option Value} {nw : List (Addr × Obj)} {s : Shared} {Q E : Value → Shared → Prop} {dp un : Nat} {gd : Option (List Code)}
    (C : Ct w 35 args 6 60 (fun g h => TabQ 30 i2dPos i2dQ g h) (i2dPost ds)) (B : Below A₀ base outer h₀) (F : Fr h₀ L s.heap m) (X : (Mine.hd.heap_1 w.params).In h₀) (N : News h₀ L s.heap ((30, tabObj ps) :: nw)) (T : Top p loose mean mg mb h₀)
    (hA : A = arC dp un gd (env :: outer)) (hf : env.frame = some L) (hke : env.scope.kind = .function) (hd : dp + 6 < recursionLimit) (hu : un + 60 < cLine) (hoff : ∀ q ∈ nw, q.1 ≠ 30) (H : TabL i2dPos i2dQ ps nw)
    (h : ∀ D us nn h' tk' c' oc vs u, Fr h₀ L h' m → News h₀ L h' ((D, PySem.W.listOf us.toArray nn) :: (c', oc) :: (30, tabObj #[rawInt i2dPos.line, rawInt i2dPos.col, .ref c']) :: nw) → IntsAre us ds → oc.data = .fields vs → vs[1]? = some (.str i2dQ u) → Q (.ref D) { s with heap := h', toks := tk' }) :
    wpAny (model PySem.Challenge.rw_pe0269_01.row.prog w) A (call (.ref 35) args) Q E s :=
  useT C B F X N T hA hf hke hd hu (.head hoff) H.tail (fun g _ _ pl tq => tq) (fun _ _ _ q => q.2) fun v g h' tk' c' oc vs u F' N' e1 e2 rel q pl st gL => by
    obtain ⟨⟨D, us, nn, rfl, g0, hD, hI⟩, _⟩ := q
    obtain ⟨oL, hL⟩ := gL
    refine h D us nn h' tk' c' oc vs u F' (List.forall_mem_cons.mpr ⟨⟨hD, fun e => (by rw [show D = L from e, hL] at g0; cases g0), ?_⟩, N'⟩) hI e1 e2
    cases e : h₀.get? D with
    | none => rfl
    | some o => rw [st _ _ e] at g0; cases g0
end
section
theorem flush_Lc : (1 : Nat) = 1 := by
  w_top off
  k_with_none
  first | walk1 | rfl
theorem seg_here (w : World) (p : Program) (loose : List Str) (mean : ExcName → Option Value) (mg mb : Str → Option Value) (dp un : Nat) (gd : Option (List Code)) (outer : List Env) (A₀ : Around) (base g : Heap) (L : Addr) (s : Shared) (m : Str → Option Value) (nw : List (Addr × Obj)) (o1 o2 : Obj) (one : Str) (t1 : Tok) (Q : Flow → Shared → Prop) (E : Value → Shared → Prop)
    (B : Below A₀ base outer g) (X : (Mine.hd.heap_1 w.params).In g) (T : Top p loose mean mg mb g) (hd : dp + 40 < recursionLimit) (hu : un + 400 < cLine)
    (F : Fr g L s.heap m) (N : News g L s.heap nw) (c1 : (L + 1, o1) ∈ nw) (e1 : o1.data = .cell (some (.str one t1))) (hone : one.length ≤ 20)
    (h : ∀ x fresh h' tk', Fr g L h' (fun z => if z = Str.ofString "here" then some (.ref x) else m z) → News g L h' (fresh ++ nw) → WsR fresh x (wsOf (one ++ Str.ofString "x")) → Q .next { s with heap := h', toks := tk' }) :
    wpAny (model PySem.Challenge.rw_pe0269_01.row.prog w) ((arC dp un gd outer).deeper (lawEnv L)) (exec (tst 0) (lawEnv L)) Q E s := by
  revert X
  k_fill
  intro X
  have e2 : lawScope = lawScope := rfl
  conv at e2 => rhs; whnf
  (try dsimp only at e2)
  have e3 : tst 0 = tst 0 := rfl
  conv at e3 => rhs; whnf
  (try dsimp only at e3)
  unfold lawEnv
  rw [e2, e3]
  clear e2 e3
  have hraw : (one ++ Str.ofString "x").length < 900 := by
    rw [Str.length_append, show (Str.ofString "x").length = 1 from by decide +kernel]; omega
  k_with_none
  (k_with "call ref" => (k_here; k_dflt (refine' useInit ?B ?F ?X ?N ?T ?hA ?hf ?hke ?hd ?hu ?hraw ?_; (case B => assumption); (case F => k_asm); (case X => assumption); (case N => k_asm); (case T => assumption); (case hA => exact rfl); (case hf => exact rfl); (case hke => exact rfl); (case hd => ((try dsimp only [arC]); omega)); (case hu => (have hcL9 := cLine_is; (try dsimp only [arC]); omega)); (case hraw => assumption)); intro x' fr' h' tk' F' N' R'))
  k_steps
  all_goals (try k_data)
  all_goals exact h _ _ _ _ (by k_asm) (by k_asm) (by assumption)
theorem seg_there (w : World) (p : Program) (loose : List Str) (mean : ExcName → Option Value) (mg mb : Str → Option Value) (dp un : Nat) (gd : Option (List Code)) (outer : List Env) (A₀ : Around) (base g : Heap) (L : Addr) (s : Shared) (m : Str → Option Value) (nw : List (Addr × Obj)) (o1 o2 : Obj) (two : Str) (t1 : Tok) (Q : Flow → Shared → Prop) (E : Value → Shared → Prop)
    (B : Below A₀ base outer g) (X : (Mine.hd.heap_1 w.params).In g) (T : Top p loose mean mg mb g) (hd : dp + 40 < recursionLimit) (hu : un + 400 < cLine)
    (F : Fr g L s.heap m) (N : News g L s.heap nw) (c1 : (L + 1 + 1, o2) ∈ nw) (e1 : o2.data = .cell (some (.str two t1))) (htwo : two.length ≤ 20)
    (h : ∀ x fresh h' tk', Fr g L h' (fun z => if z = Str.ofString "there" then some (.ref x) else m z) → News g L h' (fresh ++ nw) → WsR fresh x (wsOf (two ++ Str.ofString "x \t")) → Q .next { s with heap := h', toks := tk' }) :
    wpAny (model PySem.Challenge.rw_pe0269_01.row.prog w) ((arC dp un gd outer).deeper (lawEnv L)) (exec (tst 1) (lawEnv L)) Q E s := by
  revert X
  k_fill
  intro X
  have e2 : lawScope = lawScope := rfl
  conv at e2 => rhs; whnf
  (try dsimp only at e2)
  have e3 : tst 1 = tst 1 := rfl
  conv at e3 => rhs; whnf
  (try dsimp only at e3)
  unfold lawEnv
  rw [e2, e3]
  clear e2 e3
  have hraw : (two ++ Str.ofString "x \t").length < 900 := by
    rw [Str.length_append, show (Str.ofString "x \t").length = 3 from by decide +kernel]; omega
  k_with_none
  (k_with "call ref" => (k_here; k_dflt (refine' useInit ?B ?F ?X ?N ?T ?hA ?hf ?hke ?hd ?hu ?hraw ?_; (case B => assumption); (case F => k_asm); (case X => assumption); (case N => k_asm); (case T => assumption); (case hA => exact rfl); (case hf => exact rfl); (case hke => exact rfl); (case hd => ((try dsimp only [arC]); omega)); (case hu => (have hcL9 := cLine_is; (try dsimp only [arC]); omega)); (case hraw => assumption)); intro x' fr' h' tk' F' N' R'))
  k_steps
  all_goals (try k_data)
  all_goals exact h _ _ _ _ (by k_asm) (by k_asm) (by assumption)
end
section
local macro_rules | `(tactic| k_mem) => `(tactic| first | exact List.Mem.head _ | (refine' List.Mem.tail _ ?_; k_mem) | assumption)
section
theorem flush_Ld : (1 : Nat) = 1 := by
  w_top off
  k_with_none
  first | walk1 | rfl
theorem len_run {prog : Program} {w : World} {A : Around} {E : Value → Shared → Prop} {s : Shared} {Q : Value → Shared → Prop} {texts : List Str} {a big : Str} {t : Tok} (hb : ∀ a, a ∈ texts → a.length ≤ big.length) (hm : a ∈ texts) (hl : big.length ≤ 41) (h : Q (.int a.length (s.toks + 1)) { s with toks := s.toks + 1 + 1 }) : wpAny (model prog w) A (call (.builtin "len") [.str a t]) Q E s := by
  have := hb a hm
  exact len_str (by omega) h
theorem str_vals {l : List (Str × Tok)} {texts : List Str} (hq : l.map (fun x => x.1) = texts) {i : Nat} {v : Value} (h : (strValues l).toArray[i]? = some v) : ∃ a t, texts[i]? = some a ∧ v = .str a t := by
  subst hq
  simp only [strValues, List.getElem?_toArray, List.getElem?_map, Option.map_eq_some_iff] at h
  obtain ⟨p, hp, rfl⟩ := h
  exact ⟨p.1, p.2, by simp [hp], rfl⟩
theorem comp_lens {prog : Program} {w : World} {A : Around} {s : Shared} {h₀ : Heap} {L : Addr} {m : Str → Option Value} {env : Env} {elt : Expr} {x : Str} {scope : Scope} {cl : List (Str × Addr)} {Fin : Shared → List Value → List (Addr × Obj) → Prop} {ax : Addr} {nw : List (Addr × Obj)} {l : List (Str × Tok)} {texts : List Str} {k : Nat}
    (hh : A.handled = none) (F : Fr h₀ L s.heap m) (N : News h₀ L s.heap ((ax, ({ cls := .type "list", data := .seq (strValues l).toArray k } : Obj)) :: nw)) (hq : l.map (fun x => x.1) = texts) (hn : texts.length ≤ 10)
    (turn : ∀ a t I oI C oC D m₂ ys h tk (E' : Value → Shared → Prop), a ∈ texts → LCg.NsObj oC m₂ → m₂ x = some (.str a t) → Fr h₀ L h m → News h₀ L h ((I, oI) :: (C, oC) :: (D, LCg.lst ys) :: (ax, ({ cls := .type "list", data := .seq (strValues l).toArray k } : Obj)) :: nw) → LCg.Off3 I C D ((ax, ({ cls := .type "list", data := .seq (strValues l).toArray k } : Obj)) :: nw) → ((@Ne Nat I C) ∧ (@Ne Nat I D) ∧ (@Ne Nat C D)) →
      wpAny (model prog w) A (eval elt (compEnvC scope cl C env)) (fun y s' => CompPost h₀ L I C D m s oI oC (LCg.lst ys) (fun nw' => nw' = (ax, ({ cls := .type "list", data := .seq (strValues l).toArray k } : Obj)) :: nw ∧ ∃ t', y = .int a.length t') s') E' { s with heap := h, toks := tk })
    (fin : ∀ g ys, IntsAre ys (texts.map fun a => (a.length : Int)) → Fin { s with heap := g } ys ((ax, ({ cls := .type "list", data := .seq (strValues l).toArray k } : Obj)) :: nw)) : LCg.CompSrc prog w A h₀ L m env elt x scope cl Fin (.ref ax) s := by
  have hsz : (strValues l).toArray.size = texts.length := by rw [← hq]; simp [strValues]
  refine comp_list (its := (strValues l).toArray) (k := k) (fun i ys nw' => nw' = (ax, ({ cls := .type "list", data := .seq (strValues l).toArray k } : Obj)) :: nw ∧ IntsAre ys ((texts.take i).map fun a => (a.length : Int))) hh F N (.head _) (by omega) ⟨rfl, .nil⟩ (fun i ys nw' h => by rw [h.1]; exact .head _) ?_ ?_
  · rintro i v I oI C oC D m₂ ys nw' h tk E' hi hv ⟨rfl, hys⟩ hC hx F' N' off ne
    obtain ⟨a, t, ha, rfl⟩ := str_vals hq hv
    refine wpAny_mono (turn a t I oI C oC D m₂ ys h tk E' (List.mem_of_getElem? ha) hC hx F' N' off ne) (fun y s' ⟨h', tk', nw'', e, F'', N'', off', e1, t', e2⟩ => ⟨h', tk', nw'', e, F'', N'', off', e1, ?_⟩) fun _ _ e => e
    subst e2
    rw [List.take_add_one, ha]
    simpa using IntsAre.append hys (.cons (a.length : Int) t' .nil)
  · rintro gg ys nw' ⟨rfl, hys⟩
    refine fin gg ys ?_
    rw [hsz, List.take_length] at hys
    exact hys
local macro_rules | `(tactic| walk_at "CompSrc") => `(tactic| refine stop9 ?_)
theorem seg_most (w : World) (p : Program) (loose : List Str) (mean : ExcName → Option Value) (mg mb : Str → Option Value) (dp un : Nat) (gd : Option (List Code)) (outer : List Env) (A₀ : Around) (base g : Heap) (L : Addr) (s : Shared) (m : Str → Option Value) (nw : List (Addr × Obj)) (o1 o2 : Obj) (one two : Str) (t1 t2 : Tok) (k : Int) (Q : Flow → Shared → Prop) (E : Value → Shared → Prop)
    (B : Below A₀ base outer g) (X : (Mine.hd.heap_1 w.params).In g) (T : Top p loose mean mg mb g) (hd : dp + 40 < recursionLimit) (hu : un + 400 < cLine)
    (F : Fr g L s.heap m) (N : News g L s.heap nw) (c1 : (L + 1, o1) ∈ nw) (e1 : o1.data = .cell (some (.str one t1))) (c2 : (L + 1 + 1, o2) ∈ nw) (e2 : o2.data = .cell (some (.str two t2))) (hone : one.length ≤ 20) (htwo : two.length ≤ 20) (texts : List Str) (hsp : Txt.split (one ++ Str.ofString "\t" ++ two) (Str.ofString "\t") = texts) (hn9 : texts.length ≤ 10) (hb9 : ∀ a ∈ texts, a.length ≤ 41) (hne9 : texts ≠ []) (hk9 : ∀ M, M ∈ texts.map (fun a => (a.length : Int)) → (∀ a, a ∈ texts.map (fun a => (a.length : Int)) → a ≤ M) → k = M + 1)
    (h : ∀ t h' tk', Fr g L h' (fun z => if z = Str.ofString "most" then some (.int k t) else m z) → News g L h' nw → Q .next { s with heap := h', toks := tk' }) :
    wpAny (model PySem.Challenge.rw_pe0269_01.row.prog w) ((arC dp un gd outer).deeper (lawEnv L)) (exec (tst 2) (lawEnv L)) Q E s := by
  revert X
  k_fill
  intro X
  have q2 : lawScope = lawScope := rfl
  conv at q2 => rhs; whnf
  (try dsimp only at q2)
  have q3 : tst 2 = tst 2 := rfl
  conv at q3 => rhs; whnf
  (try dsimp only at q3)
  unfold lawEnv
  rw [q2, q3]
  clear q2 q3
  have hl1 : (one ++ Str.ofString "\t").length ≤ 21 := by
    rw [Str.length_append, show (Str.ofString "\t").length = 1 from by decide +kernel]; omega
  have hl2 : (one ++ Str.ofString "\t" ++ two).length ≤ 41 := by
    rw [Str.length_append]; omega
  k_with_none
  (k_with "eval ListComp" => (k_here; k_dflt (refine LCg.ListComp_U (cl := []) (F₀ := by k_asm) (by with_unfolding_all rfl) (by decide) (by rfl) (by decide) (by rfl) ?_)))
  k_steps
  all_goals (try k_data)
  unfold Stop9
  (with_reducible rename (List.map _ _ = Txt.split _ _) => hq9)
  rw [hsp] at hq9
  refine' comp_lens rfl ?zF ?zN hq9 hn9 ?_ ?_
  (case zF => k_asm)
  (case zN => k_asm)
  · intro a t I oI C oC D m₂ ys h1 tk1 E' ha hC hx F' N' off ne
    have hla := hb9 a ha
    k_steps
    all_goals (try k_data)
    all_goals exact compInv_end (by k_asm) (by k_asm) (by assumption) ⟨rfl, _, rfl⟩
  · intro g1 ys hys D h2 tk2 F2 N2 off2
    have hne8 : 0 < (texts.map fun a => (a.length : Int)).length := by rw [List.length_map]; exact List.length_pos_iff.mpr hne9
    (k_with "call builtin:max" => (k_dflt (refine' max_list_N rfl ?F ?N ?hl hys hne8 ?_; (case F => k_asm); (case N => k_asm); (case hl => exact News.isList (by k_asm) (by k_mem))); intro h' M9 t' tk' F' N' hM hMle))
    k_steps
    all_goals (try k_data)
    (have e9 := hk9 _ (by assumption) (by assumption))
    subst e9
    exact h _ _ _ (by k_asm) fun q hq => (by assumption : PyProof.Rows.News _ _ _ _) q (.tail _ (.tail _ hq))
end
section
theorem flush_Le : (1 : Nat) = 1 := by
  w_top off
  k_with_none
  first | walk1 | rfl
local macro_rules | `(tactic| walk_at "eval Name") => `(tactic| ((with_reducible show wpAny _ _ (eval (Expr.Name (Str.ofString "one") _) (compEnvC _ _ _ _)) _ _ _); k_dflt (refine' kcf_cell ?N ?c ?m ?d ?_ ?a ?b ?e; (case c => rfl); (case N => k_asm); (case m => k_mem); (case d => assumption); (case a => rfl); (case b => rfl); (case e => decide))))
local macro_rules | `(tactic| walk_at "CompSrc") => `(tactic| refine stop9 ?_)
local macro_rules | `(tactic| walk_at "eval Name") => `(tactic| ((with_reducible show wpAny _ _ (eval (Expr.Name (Str.ofString "two") _) (compEnvC _ _ _ _)) _ _ _); k_dflt (refine' kcf_cell ?N ?c ?m ?d ?_ ?a ?b ?e; (case c => rfl); (case N => k_asm); (case m => k_mem); (case d => assumption); (case a => rfl); (case b => rfl); (case e => decide))))
theorem seg_left (w : World) (p : Program) (loose : List Str) (mean : ExcName → Option Value) (mg mb : Str → Option Value) (dp un : Nat) (gd : Option (List Code)) (outer : List Env) (A₀ : Around) (base g : Heap) (L : Addr) (s : Shared) (m : Str → Option Value) (nw : List (Addr × Obj)) (o1 : Obj) (one : Str) (t1 tm : Tok) (k : Nat) (Q : Flow → Shared → Prop) (E : Value → Shared → Prop)
    (B : Below A₀ base outer g) (X : (Mine.hd.heap_1 w.params).In g) (T : Top p loose mean mg mb g) (hd : dp + 40 < recursionLimit) (hu : un + 400 < cLine) (hk : k ≤ 8)
    (F : Fr g L s.heap m) (N : News g L s.heap nw) (hm : m (Str.ofString "most") = some (.int k tm)) (c1 : (L + 1, o1) ∈ nw) (e1 : o1.data = .cell (some (.str one t1)))
    (h : ∀ D ys h' tk', Fr g L h' (fun z => if z = Str.ofString "left" then some (.ref D) else m z) → News g L h' ((D, LCg.lst ys) :: nw) → IntsAre ys ((rangeKs 1 k).map (colS one)) → Q .next { s with heap := h', toks := tk' }) :
    wpAny (model PySem.Challenge.rw_pe0269_01.row.prog w) ((arC dp un gd outer).deeper (lawEnv L)) (exec (tst 3) (lawEnv L)) Q E s := by
  revert X
  k_fill
  intro X
  have q2 : lawScope = lawScope := rfl
  conv at q2 => rhs; whnf
  (try dsimp only at q2)
  have q3 : tst 3 = tst 3 := rfl
  conv at q3 => rhs; whnf
  (try dsimp only at q3)
  unfold lawEnv
  rw [q2, q3]
  clear q2 q3
  have F9 := Mine.Fr.pin F hm
  clear F
  k_with_none
  k_dflt (refine LCg.Assign_ListComp_U (cl := [(Str.ofString "one", L + 1)]) (F₀ := by k_asm) (by rfl) (by with_unfolding_all rfl) (by with_unfolding_all rfl) (by decide) (by rfl) (by decide) (by rfl) (by rfl) (by rfl) ?_)
  (k_with "call ref" => (k_here; k_dflt (refine' useC (t_column _ _ _ _ _ ?ts) ?B ?F ?X ?N ?T ?hA ?hf ?hke ?hp ?hd ?hu ?_; (case B => assumption); (case F => k_asm); (case X => assumption); (case N => k_asm); (case T => assumption); (case hA => exact rfl); (case hf => exact rfl); (case hke => exact rfl); (case hp => exact trivial); (case hd => ((try dsimp only [arC]); omega)); (case hu => (have hcL9 := cLine_is; (try dsimp only [arC]); omega)); (case ts => omega)); intro v' h' tk' F' N' kp' sz' q'; obtain ⟨t', q'⟩ := q'; subst q'; clear kp' sz'))
  k_steps
  all_goals (try k_data)
  unfold Stop9
  ((with_reducible rename IsRange _ _ _ _ _ _ _ _ => rgX); k_dflt (refine' comp_range (n := k) (fun i ys nw' => nw' = nw ∧ IntsAre ys ((rangeKs 1 i).map (colS one))) rfl ?zF ?zN rgX ?z1 ?z2 ?z3 ⟨rfl, .nil⟩ ?_ ?_; (case zF => k_asm); (case zN => k_asm); (case z1 => omega); (case z2 => omega); (case z3 => omega)))
  · skip
    rintro i v I oI C oC D m₂ ys nw' h1 tk1 E' hi ⟨t, rfl⟩ ⟨rfl, hys⟩ hC hx F' N' off ne
    k_steps
    all_goals (try k_data)
    all_goals exact compInv_end (by k_asm) (by k_asm) (by assumption) ⟨rfl, ints_snoc hys⟩
  · rintro h1 ys nw' ⟨rfl, hys⟩
    intro D h2 tk2 F2 N2 off2
    exact h D ys h2 tk2 (unpin F2 hm) N2 hys
theorem seg_right (w : World) (p : Program) (loose : List Str) (mean : ExcName → Option Value) (mg mb : Str → Option Value) (dp un : Nat) (gd : Option (List Code)) (outer : List Env) (A₀ : Around) (base g : Heap) (L : Addr) (s : Shared) (m : Str → Option Value) (nw : List (Addr × Obj)) (o2 : Obj) (two : Str) (t1 tm : Tok) (k : Nat) (Q : Flow → Shared → Prop) (E : Value → Shared → Prop)
    (B : Below A₀ base outer g) (X : (Mine.hd.heap_1 w.params).In g) (T : Top p loose mean mg mb g) (hd : dp + 40 < recursionLimit) (hu : un + 400 < cLine) (hk : k ≤ 8)
    (F : Fr g L s.heap m) (N : News g L s.heap nw) (hm : m (Str.ofString "most") = some (.int k tm)) (c2 : (L + 1 + 1, o2) ∈ nw) (e2 : o2.data = .cell (some (.str two t1)))
    (h : ∀ D ys h' tk', Fr g L h' (fun z => if z = Str.ofString "right" then some (.ref D) else m z) → News g L h' ((D, LCg.lst ys) :: nw) → IntsAre ys ((rangeKs 1 k).map (colS two)) → Q .next { s with heap := h', toks := tk' }) :
    wpAny (model PySem.Challenge.rw_pe0269_01.row.prog w) ((arC dp un gd outer).deeper (lawEnv L)) (exec (tst 4) (lawEnv L)) Q E s := by
  revert X
  k_fill
  intro X
  have q2 : lawScope = lawScope := rfl
  conv at q2 => rhs; whnf
  (try dsimp only at q2)
  have q3 : tst 4 = tst 4 := rfl
  conv at q3 => rhs; whnf
  (try dsimp only at q3)
  unfold lawEnv
  rw [q2, q3]
  clear q2 q3
  have F9 := Mine.Fr.pin F hm
  clear F
  k_with_none
  k_dflt (refine LCg.Assign_ListComp_U (cl := [(Str.ofString "two", L + 1 + 1)]) (F₀ := by k_asm) (by rfl) (by with_unfolding_all rfl) (by with_unfolding_all rfl) (by decide) (by rfl) (by decide) (by rfl) (by rfl) (by rfl) ?_)
  (k_with "call ref" => (k_here; k_dflt (refine' useC (t_column _ _ _ _ _ ?ts) ?B ?F ?X ?N ?T ?hA ?hf ?hke ?hp ?hd ?hu ?_; (case B => assumption); (case F => k_asm); (case X => assumption); (case N => k_asm); (case T => assumption); (case hA => exact rfl); (case hf => exact rfl); (case hke => exact rfl); (case hp => exact trivial); (case hd => ((try dsimp only [arC]); omega)); (case hu => (have hcL9 := cLine_is; (try dsimp only [arC]); omega)); (case ts => omega)); intro v' h' tk' F' N' kp' sz' q'; obtain ⟨t', q'⟩ := q'; subst q'; clear kp' sz'))
  k_steps
  all_goals (try k_data)
  unfold Stop9
  ((with_reducible rename IsRange _ _ _ _ _ _ _ _ => rgX); k_dflt (refine' comp_range (n := k) (fun i ys nw' => nw' = nw ∧ IntsAre ys ((rangeKs 1 i).map (colS two))) rfl ?zF ?zN rgX ?z1 ?z2 ?z3 ⟨rfl, .nil⟩ ?_ ?_; (case zF => k_asm); (case zN => k_asm); (case z1 => omega); (case z2 => omega); (case z3 => omega)))
  · skip
    rintro i v I oI C oC D m₂ ys nw' h1 tk1 E' hi ⟨t, rfl⟩ ⟨rfl, hys⟩ hC hx F' N' off ne
    k_steps
    all_goals (try k_data)
    all_goals exact compInv_end (by k_asm) (by k_asm) (by assumption) ⟨rfl, ints_snoc hys⟩
  · rintro h1 ys nw' ⟨rfl, hys⟩
    intro D h2 tk2 F2 N2 off2
    exact h D ys h2 tk2 (unpin F2 hm) N2 hys
end
local macro_rules | `(tactic| k_all) => `(tactic| with_reducible assumption)
section
theorem flush_Lf : (1 : Nat) = 1 := by
  w_top off
  k_with_none
  first | walk1 | rfl
theorem swap4 {g h : Heap} {L : Addr} {a b c d : Addr × Obj} {nw : List (Addr × Obj)} (N : News g L h (a :: b :: c :: d :: nw)) : News g L h (d :: c :: nw) := fun q hq => N q (by
  rcases List.mem_cons.mp hq with rfl | hq
  · exact .tail _ (.tail _ (.tail _ (.head _)))
  · rcases List.mem_cons.mp hq with rfl | hq
    · exact .tail _ (.tail _ (.head _))
    · exact .tail _ (.tail _ (.tail _ (.tail _ hq))))
theorem seg_number (w : World) (p : Program) (loose : List Str) (mean : ExcName → Option Value) (mg mb : Str → Option Value) (dp un : Nat) (gd : Option (List Code)) (outer : List Env) (A₀ : Around) (base g : Heap) (L : Addr) (s : Shared) (m : Str → Option Value) (nw : List (Addr × Obj)) (ps : Array Value) (Q : Flow → Shared → Prop) (E : Value → Shared → Prop)
    (n H : Int) (tn tH tm : Tok) (k : Nat) (A9 B9 : List Int) (lA lB : Addr) (vA vB : List Value)
    (B : Below A₀ base outer g) (X : (Mine.hd.heap_1 w.params).In g) (T : Top p loose mean mg mb g) (hd : dp + 40 < recursionLimit) (hu : un + 400 < cLine) (hn : 5 ≤ n ∧ n ≤ 7) (hH : 0 ≤ H ∧ H < 128) (hk : k ≤ 4) (hkA : A9.length = k) (hkB : B9.length = k)
    (F : Fr g L s.heap m) (N : News g L s.heap ((37, tabObj ps) :: nw)) (hoff : ∀ q ∈ nw, q.1 ≠ 37) (htab : TabL d2iPos d2iQ ps nw)
    (m1 : m (Str.ofString "most") = some (.int k tm)) (m2 : m (Str.ofString "width") = some (.int n tn)) (m3 : m (Str.ofString "half") = some (.int H tH)) (m4 : m (Str.ofString "left") = some (.ref lA)) (m5 : m (Str.ofString "right") = some (.ref lB))
    (qA : (lA, LCg.lst vA) ∈ nw) (qB : (lB, LCg.lst vB) ∈ nw) (iA : IntsAre vA A9) (iB : IntsAre vB B9) (hA : ∀ d ∈ A9, 0 ≤ d ∧ d < 128) (hB : ∀ d ∈ B9, 0 ≤ d ∧ d < 128)
    (h : ∀ t c' oc vs u h' tk', Fr g L h' (fun z => if z = Str.ofString "number" then some (.int (d2iS n A9 + d2iS n (List.replicate k H) - d2iS n B9) t) else m z) → News g L h' ((37, tabObj #[rawInt d2iPos.line, rawInt d2iPos.col, .ref c']) :: (c', oc) :: nw) → oc.data = .fields vs → vs[1]? = some (.str d2iQ u) → c' ≠ 37 → Q .next { s with heap := h', toks := tk' }) :
    wpAny (model PySem.Challenge.rw_pe0269_01.row.prog w) ((arC dp un gd outer).deeper (lawEnv L)) (exec (tst 5) (lawEnv L)) Q E s := by
  revert X
  k_fill
  intro X
  have q2 : lawScope = lawScope := rfl
  conv at q2 => rhs; whnf
  (try dsimp only at q2)
  have q3 : tst 5 = tst 5 := rfl
  conv at q3 => rhs; whnf
  (try dsimp only at q3)
  unfold lawEnv
  rw [q2, q3]
  clear q2 q3
  have F9 := Mine.Fr.pin (Mine.Fr.pin (Mine.Fr.pin (Mine.Fr.pin (Mine.Fr.pin F m1) (show (fun z => if z = Str.ofString "most" then some (Value.int k tm) else m z) (Str.ofString "width") = _ from m2)) (show (fun z => if z = Str.ofString "width" then some (Value.int n tn) else if z = Str.ofString "most" then some (Value.int k tm) else m z) (Str.ofString "half") = _ from m3)) (x := Str.ofString "left") (v := .ref lA) m4) (x := Str.ofString "right") (v := .ref lB) m5
  clear F
  have hflat : (List.replicate ((k : Nat) : Int).toNat [H]).flatten = List.replicate k H := by simp
  have hX : ∀ d ∈ (List.replicate ((k : Nat) : Int).toNat [H]).flatten, 0 ≤ d ∧ d < 128 := by
    rw [hflat]; intro d hd9; rw [List.eq_of_mem_replicate hd9]; exact hH
  k_with_none
  (k_with "call ref" => (k_here; first
  | (k_dflt (refine' use_d2iT (d2i_any _ _ _ _ _ ?p1 ?p2 ?p3) ?B ?F ?X ?N ?T ?hA ?hf ?hke ?hd ?hu ?ho ?ht ?hr ?hI ?_; (case N => assumption); (case F => k_asm); (case B => assumption); (case X => assumption); (case T => assumption); (case hr => assumption); (case hI => assumption); (case hA => exact rfl); (case hf => exact rfl); (case hke => exact rfl); (case hd => ((try dsimp only [arC]); omega)); (case hu => (have hcL9 := cLine_is; (try dsimp only [arC]); omega)); (case ho => assumption); (case ht => assumption); (case p1 => assumption); (case p2 => omega); (case p3 => assumption)); intro t' h' tk' c' oc' vs' u' F' N' e1' e2')
  | (k_dflt (refine' use_d2i (d2i_any _ _ _ _ _ ?p1 ?p2 ?p3) ?B ?F ?X ?N ?T ?hA ?hf ?hke ?hd ?hu ?hm ?hc ?h1 ?h2 ?hr ?hI ?_; (case B => assumption); (case F => k_asm); (case X => assumption); (case N => k_asm); (case hr => k_mem); (case hI => assumption); (case T => assumption); (case hA => exact rfl); (case hf => exact rfl); (case hke => exact rfl); (case hd => ((try dsimp only [arC]); omega)); (case hu => (have hcL9 := cLine_is; (try dsimp only [arC]); omega)); (case hm => k_mem); (case hc => k_mem); (case h1 => assumption); (case h2 => assumption); (case p1 => assumption); (case p2 => omega); (case p3 => assumption)); intro t' h' tk' F' N')))
  k_steps
  all_goals (try k_data)
  (rename Fr _ _ _ _ => FE; rename News _ _ _ _ => NE)
  rw [hflat] at FE
  exact h _ _ _ _ _ _ _ (unpin (unpin (unpin (unpin (unpin FE m5) m4) m3) m2) m1) (swap4 NE) (by assumption) (by assumption) (tab_ne (swap4 NE _ (.head _)).1 (swap4 NE _ (.tail _ (.head _))).1 (by assumption) (by assumption)).symm
end
section
theorem flush_Lg : (1 : Nat) = 1 := by
  w_top off
  k_with_none
  first | walk1 | rfl
theorem seg_figures (w : World) (p : Program) (loose : List Str) (mean : ExcName → Option Value) (mg mb : Str → Option Value) (dp un : Nat) (gd : Option (List Code)) (outer : List Env) (A₀ : Around) (base g : Heap) (L : Addr) (s : Shared) (m : Str → Option Value) (nw : List (Addr × Obj)) (Q : Flow → Shared → Prop) (E : Value → Shared → Prop)
    (ps : Array Value) (n : Int) (tn t9 : Tok) (ds : List Int)
    (B : Below A₀ base outer g) (X : (Mine.hd.heap_1 w.params).In g) (T : Top p loose mean mg mb g) (hd : dp + 40 < recursionLimit) (hu : un + 400 < cLine)
    (hn : 5 ≤ n ∧ n ≤ 7) (hl : ds.length ≤ 4) (h0 : 0 < ds.length) (hb : ∀ d ∈ ds, 0 < d ∧ d < 2 ^ (1 * n).toNat)
    (F : Fr g L s.heap m) (N : News g L s.heap ((30, tabObj ps) :: nw)) (hoff : ∀ q ∈ nw, q.1 ≠ 30) (htab : TabL i2dPos i2dQ ps nw)
    (m1 : m (Str.ofString "number") = some (.int (d2iS n ds) t9)) (m2 : m (Str.ofString "width") = some (.int n tn))
    (h : ∀ D us nn h' tk' c' oc vs u, Fr g L h' (fun z => if z = Str.ofString "figures" then some (.ref D) else m z) → News g L h' ((D, PySem.W.listOf us.toArray nn) :: (c', oc) :: (30, tabObj #[rawInt i2dPos.line, rawInt i2dPos.col, .ref c']) :: nw) → IntsAre us ds → oc.data = .fields vs → vs[1]? = some (.str i2dQ u) → Q .next { s with heap := h', toks := tk' }) :
    wpAny (model PySem.Challenge.rw_pe0269_01.row.prog w) ((arC dp un gd outer).deeper (lawEnv L)) (exec (tst 6) (lawEnv L)) Q E s := by
  revert X
  k_fill
  intro X
  have q2 : lawScope = lawScope := rfl
  conv at q2 => rhs; whnf
  (try dsimp only at q2)
  have q3 : tst 6 = tst 6 := rfl
  conv at q3 => rhs; whnf
  (try dsimp only at q3)
  unfold lawEnv
  rw [q2, q3]
  clear q2 q3
  have F9 := Mine.Fr.pin (Mine.Fr.pin F m1) (x := Str.ofString "width") (v := .int n tn) m2
  clear F
  k_with_none
  (k_with "call ref" => (k_here; (k_dflt (refine' use_i2dT (i2d_any _ _ _ _ _ ?p1 ?p2 ?p3 ?p4) ?B ?F ?X ?N ?T ?hA ?hf ?hke ?hd ?hu ?ho ?ht ?_; (case N => assumption); (case F => k_asm); (case B => assumption); (case X => assumption); (case T => assumption); (case hA => exact rfl); (case hf => exact rfl); (case hke => exact rfl); (case hd => ((try dsimp only [arC]); omega)); (case hu => (have hcL9 := cLine_is; (try dsimp only [arC]); omega)); (case ho => assumption); (case ht => assumption); (case p1 => assumption); (case p4 => assumption); (case p2 => omega); (case p3 => omega)); intro D' us' nn' h' tk' c' oc' vs' u' F' N' hI' e1' e2')))
  k_steps
  all_goals (try k_data)
  (rename Fr _ _ _ _ => FE; rename News _ _ _ _ => NE)
  exact h _ _ _ _ _ _ _ _ _ (unpin (unpin FE m2) m1) NE (by assumption) (by assumption) (by assumption)
end
section
theorem flush_Lh : (1 : Nat) = 1 := by
  w_top off
  k_with_none
  first | walk1 | rfl
theorem unpin0 {g h : Heap} {L : Addr} {m : Str → Option Value} {x : Str} {u : Value} (F : Fr g L h (fun z => if z = x then some u else m z)) (e : m x = some u) : Fr g L h m :=
  fr_canon F fun y => by
    by_cases b : y = x
    · rw [if_pos b, b, e]
    · rw [if_neg b]
theorem seg_if (w : World) (p : Program) (loose : List Str) (mean : ExcName → Option Value) (mg mb : Str → Option Value) (dp un : Nat) (gd : Option (List Code)) (outer : List Env) (A₀ : Around) (base g : Heap) (L : Addr) (s : Shared) (m : Str → Option Value) (nw : List (Addr × Obj)) (Q : Flow → Shared → Prop) (E : Value → Shared → Prop)
    (k : Nat) (tm : Tok) (D : Addr) (us : List Value) (nn : Nat)
    (B : Below A₀ base outer g) (X : (Mine.hd.heap_1 w.params).In g) (T : Top p loose mean mg mb g) (hd : dp + 40 < recursionLimit) (hu : un + 400 < cLine)
    (hl : us.toArray.size = k) (hk : k ≤ 8)
    (F : Fr g L s.heap m) (N : News g L s.heap nw) (m1 : m (Str.ofString "most") = some (.int k tm)) (m2 : m (Str.ofString "figures") = some (.ref D)) (qD : (D, PySem.W.listOf us.toArray nn) ∈ nw)
    (h : ∀ h' tk', Fr g L h' m → News g L h' nw → Q .next { s with heap := h', toks := tk' }) :
    wpAny (model PySem.Challenge.rw_pe0269_01.row.prog w) ((arC dp un gd outer).deeper (lawEnv L)) (exec (tst 7) (lawEnv L)) Q E s := by
  revert X
  k_fill
  intro X
  have q2 : lawScope = lawScope := rfl
  conv at q2 => rhs; whnf
  (try dsimp only at q2)
  have q3 : tst 7 = tst 7 := rfl
  conv at q3 => rhs; whnf
  (try dsimp only at q3)
  unfold lawEnv
  rw [q2, q3]
  clear q2 q3
  have F9 := Mine.Fr.pin (Mine.Fr.pin F m1) (x := Str.ofString "figures") (v := .ref D) m2
  clear F
  k_with_none
  k_steps
  all_goals (try k_data)
  all_goals first
    | exact absurd rfl (by assumption)
    | exact h _ _ (unpin0 (unpin0 F9 m2) m1) N
end
section
theorem flush_Z4 : (1 : Nat) = 1 := by
  w_top off
  k_with_none
  first | walk1 | rfl
open PySem.F
section
variable {prog : Program} {w : World} {A : Around} {E : Value → Shared → Prop} {s : Shared}
theorem nextOf_range_item {it : Addr} {x left step : Int} {Q : Value → Shared → Prop} (hit : IsRangeIter s.heap it x left step) (hleft : 0 < left)
    (hQ : ∀ h', IsRangeIter h' it (x + step) (left - 1) step → Heap.SameBut it s.heap h' → Q (.int x s.toks) { s with heap := h', toks := s.toks + 1 }) :
    wpAny (model prog w) A (Builtin.SmallTypes.nextOf (.ref it)) Q E s := by
  have hT : s.TypeIs (.ref it) "range_iterator" := ⟨_, hit, rfl⟩
  unfold Builtin.SmallTypes.nextOf
  refine wpAny_bind (wpAny_callSpecial?_slot (name := Str.ofString "__next__") hT F.slot_range_iterator_next
    (call_meets F.slot_range_iterator_next hT F.entry_range_iterator_next (F.args_range_iterator_next_1 _) (AutoRange.range_iterator___next___range_iterator_1 it x left step (by omega)) ⟨hit, ?_⟩))
  exact wpAny_pure (hQ _ (Heap.get?_update_self _ (Heap.get?_update_self _ hit rfl) rfl) ((Heap.SameBut.update ..).trans (Heap.SameBut.update ..)))
theorem nextOf_range_end {it : Addr} {x left step : Int} {Q : Value → Shared → Prop} (hh : A.handled = none) (hit : IsRangeIter s.heap it x left step) (hleft : left ≤ 0)
    (hE : ∀ h' e, Heap.ExtBut it s.heap h' → (∃ o, h'.get? e = some o ∧ o.cls = .type "StopIteration") → E (.ref e) { s with heap := h' }) : wpAny (model prog w) A (Builtin.SmallTypes.nextOf (.ref it)) Q E s := by
  have hT : s.TypeIs (.ref it) "range_iterator" := ⟨_, hit, rfl⟩
  unfold Builtin.SmallTypes.nextOf
  refine wpAny_bind (wpAny_callSpecial?_slot (name := Str.ofString "__next__") hT F.slot_range_iterator_next
    (wpAny_call_entry F.slot_range_iterator_next hT F.entry_range_iterator_next ?_ (F.args_range_iterator_next_1 _)))
  show wpAny _ _ (field (.ref it) 0 >>= _) _ _ s
  refine wpAny_bind (wpAny_field hit rfl (x := rawInt x) rfl ?_)
  show wpAny _ _ (field (.ref it) 1 >>= _) _ _ s
  refine wpAny_bind (wpAny_field hit rfl (x := rawInt left) rfl ?_)
  show wpAny _ _ (field (.ref it) 2 >>= _) _ _ s
  refine wpAny_bind (wpAny_field hit rfl (x := rawInt step) rfl ?_)
  show wpAny _ _ (if left ≤ 0 then _ else _) _ _ s
  rw [if_pos hleft]
  refine wpAny_bind (wpAny_rule ?_)
  refine wpAny_bind ?_
  show wpAny _ _ (newExc (.type "StopIteration") [] >>= _) _ _ _
  refine wpAny_bind ?_
  simp only [newExc, newTuple]
  refine wpAny_bind (wpAny_newObj_type ?_ (by size_fits))
  refine wpAny_bind (m := firstArgMember _ _) (wpAny_of_eq (a := Value.none) (by first | rfl | (simp only [firstArgMember]; rfl)) ?_)
  refine wpAny_newObj_type ?_ (by size_fits)
  simp only [raiseNew]
  refine wpAny_bind (wpAny_handled ?_)
  first | rw [show A.in1.handled = none from hh] | rw [hh]
  refine wpAny_bind (wpAny_pure (wpAny_throw ?_))
  exact hE _ _ (((Heap.ExtBut.refl it s.heap).push _).push _) ⟨_, Heap.get?_push_size _ rfl, rfl⟩
abbrev IsQuad (h : Heap) (T : Addr) (a b c d : Value) : Prop := h.get? T = some { cls := .type "tuple", data := .seq #[a, b, c, d] }
theorem updQuad {T : Addr} {a b c d x : Value} {k : Nat} {Q : Unit → Shared → Prop} (hT : IsQuad s.heap T a b c d)
    (h : ∀ h', h'.get? T = some { cls := .type "tuple", data := .seq ((#[a, b, c, d] : Array Value).setIfInBounds k x) } → Heap.SameBut T s.heap h' → Q () { s with heap := h' }) :
    wpAny (model prog w) A (updateSeq T (·.setIfInBounds k x)) Q E s := by
  refine wpAny_updateSeq hT rfl (h _ ?_ (Heap.SameBut.update ..))
  rw [Heap.get?_update_self _ hT rfl]
  simp [Obj.mapSeq]
/-- what stands of a zip of a range and three lists, its turn i ahead -/
def Z4St (I l1 l2 l3 : Addr) (a : Int) (n : Nat) (xs ys zs : Array Value) (f0 : Value) (i : Nat) (h : Heap) : Prop :=
  IsZip h (I + 6) (I + 4) (I + 5) f0 ∧ IsQuad h (I + 4) (.ref I) (.ref (I + 1)) (.ref (I + 2)) (.ref (I + 3)) ∧ (∃ a b c d, IsQuad h (I + 5) a b c d) ∧ IsRangeIter h I (a + (i : Nat) * 1) ((n : Int) - (i : Nat)) 1 ∧
  h.IsListIter (I + 1) l1 i ∧ h.IsListIter (I + 2) l2 i ∧ h.IsListIter (I + 3) l3 i ∧ h.IsList l1 xs ∧ h.IsList l2 ys ∧ h.IsList l3 zs
theorem Z4St.at {I l1 l2 l3 : Addr} {a : Int} {n i : Nat} {xs ys zs : Array Value} {f0 : Value} {h h' : Heap} (S : Z4St I l1 l2 l3 a n xs ys zs f0 i h) (k : ∀ b ∈ [I, I + 1, I + 2, I + 3, I + 4, I + 5, I + 6, l1, l2, l3], ∀ o, h.get? b = some o → h'.get? b = some o) : Z4St I l1 l2 l3 a n xs ys zs f0 i h' := by
  obtain ⟨s1, s2, ⟨a, b, c, d, s3⟩, s4, s5, s6, s7, s8, s9, s10⟩ := S
  exact ⟨k _ (by simp) _ s1, k _ (by simp) _ s2, ⟨a, b, c, d, k _ (by simp) _ s3⟩, k _ (by simp) _ s4, s5.at fun o e => k _ (by simp) o e, s6.at fun o e => k _ (by simp) o e, s7.at fun o e => k _ (by simp) o e, s8.at fun o e => k _ (by simp) o e, s9.at fun o e => k _ (by simp) o e, s10.at fun o e => k _ (by simp) o e⟩
theorem z4_item {I l1 l2 l3 : Addr} {a : Int} {n i : Nat} {xs ys zs : Array Value} {Q : Value → Shared → Prop} (hlt : @LT.lt Nat _ l1 I ∧ @LT.lt Nat _ l2 I ∧ @LT.lt Nat _ l3 I)
    (S : Z4St I l1 l2 l3 a n xs ys zs .none i s.heap) (hi : i < n) {x y z : Value} (hx : xs[i]? = some x) (hy : ys[i]? = some y) (hz : zs[i]? = some z)
    (hQ : ∀ h' t tk, Z4St I l1 l2 l3 a n xs ys zs (rawInt s.heap.objs.size) (i + 1) h' → IsQuad h' s.heap.objs.size (.int (a + i) t) x y z →
      (∀ c o, c ≠ I + 6 → c ≠ I + 5 → c ≠ I → c ≠ I + 1 → c ≠ I + 2 → c ≠ I + 3 → s.heap.get? c = some o → h'.get? c = some o) → Q (.ref s.heap.objs.size) { s with heap := h', toks := tk }) :
    wpAny (model prog w) A (Builtin.«zip.__next__» ⟨[.ref (I + 6)], []⟩) (fun fin s' => ∃ v, fin = .done (.ret v) ∧ Q v s') E s := by
  obtain ⟨hz0, hTI, ⟨a0, b0, c0, d0, hTO⟩, hr, h1, h2, h3, hl1, hl2, hl3⟩ := S
  obtain ⟨lt1, lt2, lt3⟩ := hlt
  show wpAny _ _ (field (.ref (I + 6)) 2 >>= _) _ _ _
  refine wpAny_bind (wpAny_field hz0 rfl (x := .bool false) rfl ?_)
  show wpAny _ _ (field (.ref (I + 6)) 3 >>= _) _ _ _
  refine wpAny_bind (wpAny_field hz0 rfl (x := .ref (I + 4)) rfl ?_)
  refine wpAny_bind (wpAny_seqItems hTI rfl ?_)
  show wpAny _ _ (Builtin.SmallTypes.ownedTupleIsFree (.ref (I + 6)) >>= _) _ _ _
  refine wpAny_bind ?_
  unfold Builtin.SmallTypes.ownedTupleIsFree
  refine wpAny_bind (wpAny_field hz0 rfl (x := .none) rfl (wpAny_pure ?_))
  simp only [if_true]
  refine wpAny_bind (wpAny_rule ?_)
  refine wpAny_bind (wpAny_field hz0 rfl (x := .ref (I + 5)) rfl ?_)
  refine wpAny_bind (wpAny_setField_rec hz0 (by simp) fun g₁ hz₁ e₁ => ?_)
  replace hz₁ : IsZip g₁ (I + 6) (I + 4) (I + 5) .ellipsis := hz₁
  refine wpAny_bind ?_
  simp only [List.zipIdx_cons, List.zipIdx_nil, List.forIn_cons, List.forIn_nil]
  refine wpAny_bind (wpAny_bind (wpAny_onRaise ?_))
  show wpAny _ _ (Builtin.SmallTypes.nextOf (.ref I) >>= _) _ _ _
  refine wpAny_bind (nextOf_range_item ((e₁.2 _ (neN (by omega))).trans hr) (by omega) fun g₂ hr₂ e₂ => wpAny_pure ?_)
  have hTO₂ : IsQuad g₂ (I + 5) a0 b0 c0 d0 := (e₂.2 _ (neN (by omega))).trans ((e₁.2 _ (neN (by omega))).trans hTO)
  refine wpAny_bind (wpAny_seqItems hTO₂ rfl ?_)
  refine wpAny_bind (updQuad hTO₂ fun g₃ hTO₃ e₃ => ?_)
  replace hTO₃ : IsQuad g₃ (I + 5) (.int (a + (i : Nat) * 1) s.toks) b0 c0 d0 := hTO₃
  refine wpAny_bind (wpAny_letGo (wpAny_pure ?_))
  have k3 : ∀ c, c ≠ I + 6 → c ≠ I + 5 → c ≠ I → g₃.get? c = s.heap.get? c := fun c n1 n2 n3 => (e₃.2 c n2).trans ((e₂.2 c n3).trans (e₁.2 c n1))
  refine wpAny_bind (wpAny_bind (wpAny_onRaise ?_))
  show wpAny _ _ (Builtin.SmallTypes.nextOf (.ref (I + 1)) >>= _) _ _ _
  refine wpAny_bind (wpAny_nextOf_list_item (h1.at fun o e => (k3 _ (neN (by omega)) (neN (by omega)) (neN (by omega))).trans e) (hl1.at fun o e => (k3 l1 (neN (by omega)) (neN (by omega)) (neN (by omega))).trans e) hx fun g₄ h1₄ e₄ => wpAny_pure ?_)
  have hTO₄ := (e₄.2 (I + 5) (neN (by omega))).trans hTO₃
  refine wpAny_bind (wpAny_seqItems hTO₄ rfl ?_)
  refine wpAny_bind (updQuad hTO₄ fun g₅ hTO₅ e₅ => ?_)
  replace hTO₅ : IsQuad g₅ (I + 5) (.int (a + (i : Nat) * 1) s.toks) x c0 d0 := hTO₅
  refine wpAny_bind (wpAny_letGo (wpAny_pure ?_))
  have k5 : ∀ c, c ≠ I + 6 → c ≠ I + 5 → c ≠ I → c ≠ I + 1 → g₅.get? c = s.heap.get? c := fun c n1 n2 n3 n4 => (e₅.2 c n2).trans ((e₄.2 c n4).trans (k3 c n1 n2 n3))
  refine wpAny_bind (wpAny_bind (wpAny_onRaise ?_))
  show wpAny _ _ (Builtin.SmallTypes.nextOf (.ref (I + 2)) >>= _) _ _ _
  refine wpAny_bind (wpAny_nextOf_list_item (h2.at fun o e => (k5 _ (neN (by omega)) (neN (by omega)) (neN (by omega)) (neN (by omega))).trans e) (hl2.at fun o e => (k5 l2 (neN (by omega)) (neN (by omega)) (neN (by omega)) (neN (by omega))).trans e) hy fun g₆ h2₆ e₆ => wpAny_pure ?_)
  have hTO₆ := (e₆.2 (I + 5) (neN (by omega))).trans hTO₅
  refine wpAny_bind (wpAny_seqItems hTO₆ rfl ?_)
  refine wpAny_bind (updQuad hTO₆ fun g₇ hTO₇ e₇ => ?_)
  replace hTO₇ : IsQuad g₇ (I + 5) (.int (a + (i : Nat) * 1) s.toks) x y d0 := hTO₇
  refine wpAny_bind (wpAny_letGo (wpAny_pure ?_))
  have k7 : ∀ c, c ≠ I + 6 → c ≠ I + 5 → c ≠ I → c ≠ I + 1 → c ≠ I + 2 → g₇.get? c = s.heap.get? c := fun c n1 n2 n3 n4 n5 => (e₇.2 c n2).trans ((e₆.2 c n5).trans (k5 c n1 n2 n3 n4))
  refine wpAny_bind (wpAny_bind (wpAny_onRaise ?_))
  show wpAny _ _ (Builtin.SmallTypes.nextOf (.ref (I + 3)) >>= _) _ _ _
  refine wpAny_bind (wpAny_nextOf_list_item (h3.at fun o e => (k7 _ (neN (by omega)) (neN (by omega)) (neN (by omega)) (neN (by omega)) (neN (by omega))).trans e) (hl3.at fun o e => (k7 l3 (neN (by omega)) (neN (by omega)) (neN (by omega)) (neN (by omega)) (neN (by omega))).trans e) hz fun g₈ h3₈ e₈ => wpAny_pure ?_)
  have hTO₈ := (e₈.2 (I + 5) (neN (by omega))).trans hTO₇
  refine wpAny_bind (wpAny_seqItems hTO₈ rfl ?_)
  refine wpAny_bind (updQuad hTO₈ fun g₉ hTO₉ e₉ => ?_)
  replace hTO₉ : IsQuad g₉ (I + 5) (.int (a + (i : Nat) * 1) s.toks) x y z := hTO₉
  refine wpAny_bind (wpAny_letGo (wpAny_pure (wpAny_pure ?_)))
  have k9 : ∀ c, c ≠ I + 6 → c ≠ I + 5 → c ≠ I → c ≠ I + 1 → c ≠ I + 2 → c ≠ I + 3 → g₉.get? c = s.heap.get? c := fun c n1 n2 n3 n4 n5 n6 => (e₉.2 c n2).trans ((e₈.2 c n6).trans (k7 c n1 n2 n3 n4 n5))
  have hsz : g₉.objs.size = s.heap.objs.size := by rw [e₉.1, e₈.1, e₇.1, e₆.1, e₅.1, e₄.1, e₃.1, e₂.1, e₁.1]
  have hz₉ : IsZip g₉ (I + 6) (I + 4) (I + 5) .ellipsis := by
    have q1 := e₂.2 (I + 6) (neN (by omega)); have q2 := e₃.2 (I + 6) (neN (by omega)); have q3 := e₄.2 (I + 6) (neN (by omega)); have q4 := e₅.2 (I + 6) (neN (by omega)); have q5 := e₆.2 (I + 6) (neN (by omega)); have q6 := e₇.2 (I + 6) (neN (by omega)); have q7 := e₈.2 (I + 6) (neN (by omega)); have q8 := e₉.2 (I + 6) (neN (by omega))
    show g₉.get? _ = _
    rw [q8, q7, q6, q5, q4, q3, q2, q1]; exact hz₁
  refine wpAny_bind (wpAny_seqItems hTO₉ rfl ?_)
  refine wpAny_bind (wpAny_newTuple ?_)
  show wpAny _ _ (Builtin.SmallTypes.ownedTupleHandOut (.ref (I + 6)) (.ref g₉.objs.size) >>= _) _ _ _
  refine wpAny_bind ?_
  unfold Builtin.SmallTypes.ownedTupleHandOut
  have hzlt : I + 6 < g₉.objs.size := Heap.lt_size hz₉
  have hzA : IsZip (g₉.push { cls := .type "tuple", data := .seq #[.int (a + (i : Nat) * 1) s.toks, x, y, z] }) (I + 6) (I + 4) (I + 5) .ellipsis := Heap.get?_push_of_some _ hz₉
  refine wpAny_bind (wpAny_setField_rec hzA (by simp) fun gB hzB eB => ?_)
  replace hzB : IsZip gB (I + 6) (I + 4) (I + 5) (rawInt g₉.objs.size) := hzB
  refine wpAny_setField_rec hzB (by simp) fun gC hzC eC => ?_
  replace hzC : IsZip gC (I + 6) (I + 4) (I + 5) (rawInt g₉.objs.size) := hzC
  have up : ∀ c o, c ≠ I + 6 → g₉.get? c = some o → gC.get? c = some o := fun c o c1 e => (eC.2 c c1).trans ((eB.2 c c1).trans (Heap.get?_push_of_some _ e))
  have hT : IsQuad gC g₉.objs.size (.int (a + (i : Nat) * 1) s.toks) x y z := (eC.2 _ (Nat.ne_of_gt hzlt)).trans ((eB.2 _ (Nat.ne_of_gt hzlt)).trans (Heap.get?_push_size _ rfl))
  have hr9 : IsRangeIter g₉ I (a + ((i + 1 : Nat) : Int) * 1) ((n : Int) - ((i + 1 : Nat) : Int)) 1 := by
    have q2 := e₃.2 I (neN (by omega)); have q3 := e₄.2 I (neN (by omega)); have q4 := e₅.2 I (neN (by omega)); have q5 := e₆.2 I (neN (by omega)); have q6 := e₇.2 I (neN (by omega)); have q7 := e₈.2 I (neN (by omega)); have q8 := e₉.2 I (neN (by omega))
    have e1 : a + ((i + 1 : Nat) : Int) * 1 = a + (i : Int) * 1 + 1 := by push_cast; omega
    have e2 : (n : Int) - ((i + 1 : Nat) : Int) = (n : Int) - (i : Int) - 1 := by push_cast; omega
    rw [e1, e2]
    show g₉.get? _ = _
    rw [q8, q7, q6, q5, q4, q3, q2]; exact hr₂
  have h19 : g₉.IsListIter (I + 1) l1 (i + 1) := h1₄.at fun o e => (e₉.2 _ (neN (by omega))).trans ((e₈.2 _ (neN (by omega))).trans ((e₇.2 _ (neN (by omega))).trans ((e₆.2 _ (neN (by omega))).trans ((e₅.2 _ (neN (by omega))).trans e))))
  have h29 : g₉.IsListIter (I + 2) l2 (i + 1) := h2₆.at fun o e => (e₉.2 _ (neN (by omega))).trans ((e₈.2 _ (neN (by omega))).trans ((e₇.2 _ (neN (by omega))).trans e))
  have h39 : g₉.IsListIter (I + 3) l3 (i + 1) := h3₈.at fun o e => (e₉.2 _ (neN (by omega))).trans e
  have kk : ∀ c o, c ≠ I + 6 → c ≠ I + 5 → c ≠ I → c ≠ I + 1 → c ≠ I + 2 → c ≠ I + 3 → s.heap.get? c = some o → gC.get? c = some o := fun c o n1 n2 n3 n4 n5 n6 e => up c o n1 ((k9 c n1 n2 n3 n4 n5 n6).trans e)
  refine wpAny_pure ⟨_, rfl, ?_⟩
  show Q (.ref g₉.objs.size) _
  rw [hsz] at hzC hT ⊢
  rw [Int.mul_one] at hT
  refine hQ gC _ _ ⟨hzC, kk _ _ (neN (by omega)) (neN (by omega)) (neN (by omega)) (neN (by omega)) (neN (by omega)) (neN (by omega)) hTI, ⟨_, _, _, _, up _ _ (neN (by omega)) hTO₉⟩, up _ _ (neN (by omega)) hr9,
    h19.at fun o e => up _ o (neN (by omega)) e, h29.at fun o e => up _ o (neN (by omega)) e, h39.at fun o e => up _ o (neN (by omega)) e,
    hl1.at fun o e => kk _ o (neN (by omega)) (neN (by omega)) (neN (by omega)) (neN (by omega)) (neN (by omega)) (neN (by omega)) e, hl2.at fun o e => kk _ o (neN (by omega)) (neN (by omega)) (neN (by omega)) (neN (by omega)) (neN (by omega)) (neN (by omega)) e, hl3.at fun o e => kk _ o (neN (by omega)) (neN (by omega)) (neN (by omega)) (neN (by omega)) (neN (by omega)) (neN (by omega)) e⟩ hT kk
theorem z4_end {I l1 l2 l3 : Addr} {a : Int} {n : Nat} {xs ys zs : Array Value} {Q : Fin → Shared → Prop} (hh : A.handled = none)
    (S : Z4St I l1 l2 l3 a n xs ys zs .none n s.heap)
    (hE : ∀ h' e, (∀ c o, c ≠ I + 6 → c ≠ I → s.heap.get? c = some o → h'.get? c = some o) → (∃ o, h'.get? e = some o ∧ o.cls = .type "StopIteration") → E (.ref e) { s with heap := h' }) :
    wpAny (model prog w) A (Builtin.«zip.__next__» ⟨[.ref (I + 6)], []⟩) Q E s := by
  obtain ⟨hz0, hTI, ⟨a0, b0, c0, d0, hTO⟩, hr, h1, h2, h3, hl1, hl2, hl3⟩ := S
  show wpAny _ _ (field (.ref (I + 6)) 2 >>= _) _ _ _
  refine wpAny_bind (wpAny_field hz0 rfl (x := .bool false) rfl ?_)
  show wpAny _ _ (field (.ref (I + 6)) 3 >>= _) _ _ _
  refine wpAny_bind (wpAny_field hz0 rfl (x := .ref (I + 4)) rfl ?_)
  refine wpAny_bind (wpAny_seqItems hTI rfl ?_)
  show wpAny _ _ (Builtin.SmallTypes.ownedTupleIsFree (.ref (I + 6)) >>= _) _ _ _
  refine wpAny_bind ?_
  unfold Builtin.SmallTypes.ownedTupleIsFree
  refine wpAny_bind (wpAny_field hz0 rfl (x := .none) rfl (wpAny_pure ?_))
  simp only [if_true]
  refine wpAny_bind (wpAny_rule ?_)
  refine wpAny_bind (wpAny_field hz0 rfl (x := .ref (I + 5)) rfl ?_)
  refine wpAny_bind (wpAny_setField_rec hz0 (by simp) fun g₁ hz₁ e₁ => ?_)
  replace hz₁ : IsZip g₁ (I + 6) (I + 4) (I + 5) .ellipsis := hz₁
  refine wpAny_bind ?_
  simp only [List.zipIdx_cons, List.zipIdx_nil, List.forIn_cons, List.forIn_nil]
  refine wpAny_bind (wpAny_bind (wpAny_onRaise ?_))
  show wpAny _ _ (Builtin.SmallTypes.nextOf (.ref I) >>= _) _ _ _
  refine wpAny_bind (nextOf_range_end hh ((e₁.2 _ (neN (by omega))).trans hr) (by omega) fun g₂ e hs₂ he => ?_)
  obtain ⟨oe, hoe, hce⟩ := he
  have hz₂ : IsZip g₂ (I + 6) (I + 4) (I + 5) .ellipsis := hs₂ _ _ (neN (by omega)) hz₁
  have hez : e ≠ I + 6 := fun x => by subst x; rw [hz₂] at hoe; cases hoe; simp at hce
  exact wpAny_setField_rec hz₂ (by simp) fun g₃ _ hs₃ => hE g₃ e (fun c o c1 c2 x => hs₃.extBut _ _ c1 (hs₂ _ _ c2 (e₁.extBut _ _ c1 x))) ⟨oe, hs₃.extBut _ _ hez hoe, hce⟩
theorem z4_next {I l1 l2 l3 : Addr} {a : Int} {n i : Nat} {xs ys zs : Array Value} {Q : Option Value → Shared → Prop} (hlt : @LT.lt Nat _ l1 I ∧ @LT.lt Nat _ l2 I ∧ @LT.lt Nat _ l3 I)
    (S : Z4St I l1 l2 l3 a n xs ys zs .none i s.heap) (hi : i < n) {x y z : Value} (hx : xs[i]? = some x) (hy : ys[i]? = some y) (hz : zs[i]? = some z)
    (hQ : ∀ h' t tk, Z4St I l1 l2 l3 a n xs ys zs (rawInt s.heap.objs.size) (i + 1) h' → IsQuad h' s.heap.objs.size (.int (a + i) t) x y z →
      (∀ c o, c ≠ I + 6 → c ≠ I + 5 → c ≠ I → c ≠ I + 1 → c ≠ I + 2 → c ≠ I + 3 → s.heap.get? c = some o → h'.get? c = some o) → Q (some (.ref s.heap.objs.size)) { s with heap := h', toks := tk }) :
    wpAny (model prog w) A (pyNext (.ref (I + 6))) Q E s := by
  have hT : s.TypeIs (.ref (I + 6)) "zip" := ⟨_, S.1, rfl⟩
  unfold pyNext
  exact wpAny_bind (wpAny_attempt (wpAny_callSpecial?_slot (name := Str.ofString "__next__") hT F.slot_zip_next
    (wpAny_call_entry F.slot_zip_next hT F.entry_zip_next
      (z4_item hlt S hi hx hy hz fun h' t tk a1 a2 a3 => wpAny_pure (hQ h' t tk a1 a2 a3)) (F.args_zip_next_1 _))))
theorem z4_stop {I l1 l2 l3 : Addr} {a : Int} {n : Nat} {xs ys zs : Array Value} {Q : Option Value → Shared → Prop} (hh : A.handled = none)
    (S : Z4St I l1 l2 l3 a n xs ys zs .none n s.heap)
    (hQ : ∀ h', (∀ c o, c ≠ I + 6 → c ≠ I → s.heap.get? c = some o → h'.get? c = some o) → Q none { s with heap := h' }) : wpAny (model prog w) A (pyNext (.ref (I + 6))) Q E s := by
  have hT : s.TypeIs (.ref (I + 6)) "zip" := ⟨_, S.1, rfl⟩
  unfold pyNext
  refine wpAny_bind (wpAny_attempt (wpAny_callSpecial?_slot (name := Str.ofString "__next__") hT F.slot_zip_next
    (wpAny_call_entry F.slot_zip_next hT F.entry_zip_next (z4_end hh S fun h' e hk he => ?_) (F.args_zip_next_1 _))))
  obtain ⟨o, ho, hc⟩ := he
  refine wpAny_bind (wpAny_isInstance (T := "StopIteration") (b := true) ⟨o, ho, hc⟩ isSubtype_stop ?_)
  exact wpAny_pure (hQ _ hk)
theorem z4_turns {elts : List Expr} {kk : Nat} {pos : Pos} {I l1 l2 l3 : Addr} {a : Int} {n : Nat} {xs ys zs : Array Value} (hh : A.handled = none) (hlt : @LT.lt Nat _ l1 I ∧ @LT.lt Nat _ l2 I ∧ @LT.lt Nat _ l3 I) (n1 : n ≤ xs.size) (n2 : n ≤ ys.size) (n3 : n ≤ zs.size) :
    KTurns prog w A (.Tuple elts kk pos) (I + 6) [I, I + 1, I + 2, I + 3, I + 4, I + 5, I + 6, l1, l2, l3] [I, I + 1, I + 2, I + 3, I + 5, I + 6] n
      (fun i v h => ∃ T t x y z, v = .ref T ∧ xs[i]? = some x ∧ ys[i]? = some y ∧ zs[i]? = some z ∧ IsQuad h T (.int (a + i) t) x y z)
      (fun i v h => ∃ T t x y z, v = .ref T ∧ xs[i]? = some x ∧ ys[i]? = some y ∧ zs[i]? = some z ∧ IsQuad h T (.int (a + i) t) x y z ∧ Z4St I l1 l2 l3 a n xs ys zs (rawInt T) (i + 1) h ∧ T ≠ I + 6)
      (fun i h => Z4St I l1 l2 l3 a n xs ys zs .none i h) where
  sub := fun b hb => by simp at hb ⊢; rcases hb with rfl | rfl | rfl | rfl | rfl | rfl <;> simp
  frame := fun i h h' S k => S.at k
  item := fun i s Q E hi S hQ => by
    have hx : xs[i]? = some xs[i] := Array.getElem?_eq_getElem (by omega)
    have hy : ys[i]? = some ys[i] := Array.getElem?_eq_getElem (by omega)
    have hz : zs[i]? = some zs[i] := Array.getElem?_eq_getElem (by omega)
    refine z4_next hlt S hi hx hy hz fun h' t tk a1 a2 a3 => hQ _ _ _ ⟨_, t, _, _, _, rfl, hx, hy, hz, a2, a1, Nat.ne_of_gt (Heap.lt_size S.1)⟩ fun b o hb e => a3 b o ?_ ?_ ?_ ?_ ?_ ?_ e
    all_goals (intro q; exact hb (by simp [q]))
  go := fun i v s Q E hm hQ => by
    obtain ⟨T, t, x, y, z, rfl, hx, hy, hz, hT, S, hne⟩ := hm
    refine wpAny_letOwnedTupleGo_zip S.1 fun h' hz' hs' => hQ h' ⟨T, t, x, y, z, rfl, hx, hy, hz, (hs'.2 T hne).trans hT⟩ ?_ fun b o hb e => hs'.extBut _ _ (fun q => hb (by simp [q])) e
    obtain ⟨lt1, lt2, lt3⟩ := hlt
    obtain ⟨s1, s2, ⟨a, b, c, d, s3⟩, s4, s5, s6, s7, s8, s9, s10⟩ := S
    have k : ∀ c o, c ≠ I + 6 → s.heap.get? c = some o → h'.get? c = some o := fun c o hc e => (hs'.2 c hc).trans e
    exact ⟨hz', k _ _ (neN (by omega)) s2, ⟨a, b, c, d, k _ _ (neN (by omega)) s3⟩, k _ _ (neN (by omega)) s4, s5.at fun o e => k _ o (neN (by omega)) e, s6.at fun o e => k _ o (neN (by omega)) e, s7.at fun o e => k _ o (neN (by omega)) e, s8.at fun o e => k _ o (neN (by omega)) e, s9.at fun o e => k _ o (neN (by omega)) e, s10.at fun o e => k _ o (neN (by omega)) e⟩
  done := fun s Q E S hQ => z4_stop hh S fun h' hk => hQ h' s.toks fun b o hb e => hk b o (fun q => hb (by simp [q])) (fun q => hb (by simp [q])) e
end
end
section
theorem flush_Z5 : (1 : Nat) = 1 := by
  w_top off
  k_with_none
  first | walk1 | rfl
theorem typeCall_zip_4 (a b c d : Value) : checkTypeCall "zip" ⟨[a, b, c, d], []⟩ = pure () := by kernel_rfl
theorem newCall_zip_4 (a b c d : Value) : checkBuiltinCall "zip.__new__" ⟨[.type "zip", a, b, c, d], []⟩ = pure () := by kernel_rfl
theorem args_object_init_5 (a b c d e : Value) : argsOk "object.__init__" ⟨[a, b, c, d, e], []⟩ := by
  unfold argsOk; rw [signature?_of (id := "object.__init__") (n := ['_', '_', 't', 'i', 'n', 'i', '_', '_']) (o := ['t', 'c', 'e', 'j', 'b', 'o']) (by kernel_rfl) F.owner_object]; kernel_rfl
abbrev zH1 (h : Heap) (a b c : Int) : Heap := h.push { cls := .type "range_iterator", data := .fields #[rawInt a, rawInt (Builtin.Range.rangeSize a b c), rawInt c] }
abbrev zH2 (h : Heap) (a b c : Int) (l1 : Addr) : Heap := (zH1 h a b c).push { cls := .type "list_iterator", data := .fields #[.ref l1, .int 0 0] }
abbrev zH3 (h : Heap) (a b c : Int) (l1 l2 : Addr) : Heap := (zH2 h a b c l1).push { cls := .type "list_iterator", data := .fields #[.ref l2, .int 0 0] }
abbrev zH4 (h : Heap) (a b c : Int) (l1 l2 l3 : Addr) : Heap := (zH3 h a b c l1 l2).push { cls := .type "list_iterator", data := .fields #[.ref l3, .int 0 0] }
abbrev zH5 (h : Heap) (a b c : Int) (l1 l2 l3 : Addr) : Heap := (zH4 h a b c l1 l2 l3).push { cls := .type "tuple", data := .seq #[.ref h.objs.size, .ref (zH1 h a b c).objs.size, .ref (zH2 h a b c l1).objs.size, .ref (zH3 h a b c l1 l2).objs.size] }
abbrev zH6 (h : Heap) (a b c : Int) (l1 l2 l3 : Addr) : Heap := (zH5 h a b c l1 l2 l3).push { cls := .type "tuple", data := .seq #[.none, .none, .none, .none] }
abbrev zH7 (h : Heap) (a b c : Int) (l1 l2 l3 : Addr) : Heap := (zH6 h a b c l1 l2 l3).push { cls := .type "zip", data := .fields #[.none, .bool false, .bool false, .ref (zH4 h a b c l1 l2 l3).objs.size, .ref (zH5 h a b c l1 l2 l3).objs.size] }
theorem meets_zip4 (r l1 l2 l3 : Addr) (a b c : Int) (t u v : Tok) (xs ys zs : Array Value) (hsm : Builtin.Range.small a b c = true) :
    Meets (Builtin.«zip.__new__» ⟨[.type "zip", .ref r, .ref l1, .ref l2, .ref l3], []⟩) (fun _ R s => IsRange s.heap r a b c t u v ∧ s.heap.IsList l1 xs ∧ s.heap.IsList l2 ys ∧ s.heap.IsList l3 zs ∧
      R (.ok (.ret (.ref (zH6 s.heap a b c l1 l2 l3).objs.size))) { s with heap := zH7 s.heap a b c l1 l2 l3 }) :=
  .of_wp fun prog w A R s h => by
    obtain ⟨hp, g, d, tk, os⟩ := s; obtain ⟨hr, hl1, hl2, hl3, h⟩ := h
    have hsub := sub_zip
    have hR : IsRange (Shared.heap ⟨hp, g, d, tk, os⟩) r a b c t u v := hr
    have hL1 : Heap.IsList (Shared.heap ⟨zH1 hp a b c, g, d, tk, os⟩) l1 xs := Heap.IsList.push hl1 _
    have hL2 : Heap.IsList (Shared.heap ⟨zH2 hp a b c l1, g, d, tk, os⟩) l2 ys := Heap.IsList.push (Heap.IsList.push hl2 _) _
    have hL3 : Heap.IsList (Shared.heap ⟨zH3 hp a b c l1 l2, g, d, tk, os⟩) l3 zs := Heap.IsList.push (Heap.IsList.push (Heap.IsList.push hl3 _) _) _
    wp_walk using wpAny_pyIter_range hR hsm, wpAny_pyIter_list hL1, wpAny_pyIter_list hL2, wpAny_pyIter_list hL3
    exact ⟨_, rfl, h⟩
section
variable {prog : Program} {w : World} {A : Around} {E : Value → Shared → Prop} {s : Shared}
theorem call_zip_4 {r l1 l2 l3 : Addr} {a b : Int} {n : Nat} {t u v : Tok} {xs ys zs : Array Value} {Q : Value → Shared → Prop} (hr : IsRange s.heap r a b 1 t u v) (hn : b = a + (n : Int)) (ha : 0 ≤ a ∧ a ≤ 100) (hnn : n ≤ 100) (hl1 : s.heap.IsList l1 xs) (hl2 : s.heap.IsList l2 ys) (hl3 : s.heap.IsList l3 zs)
    (h : ∀ h', Z4St s.heap.objs.size l1 l2 l3 a n xs ys zs .none 0 h' → (∀ c o, s.heap.get? c = some o → h'.get? c = some o) → Q (.ref (s.heap.objs.size + 6)) { s with heap := h' }) :
    wpAny (model prog w) A (call (.type "zip") [.ref r, .ref l1, .ref l2, .ref l3]) Q E s := by
  refine callType_new F.called_zip (by decide) (typeCall_zip_4 _ _ _ _) (newCall_zip_4 _ _ _ _) (fun obj => args_object_init_5 obj _ _ _ _) F.entry_zip_new
    (meets_zip4 r l1 l2 l3 a b 1 t u v xs ys zs (small_one (by omega) (by omega) (by omega) (by omega))) ⟨hr, hl1, hl2, hl3, ?_⟩
  have z1 : (zH1 s.heap a b 1).objs.size = s.heap.objs.size + 1 := Heap.size_push ..
  have z2 : (zH2 s.heap a b 1 l1).objs.size = s.heap.objs.size + 2 := by rw [Heap.size_push, z1]
  have z3 : (zH3 s.heap a b 1 l1 l2).objs.size = s.heap.objs.size + 3 := by rw [Heap.size_push, z2]
  have z4 : (zH4 s.heap a b 1 l1 l2 l3).objs.size = s.heap.objs.size + 4 := by rw [Heap.size_push, z3]
  have z5 : (zH5 s.heap a b 1 l1 l2 l3).objs.size = s.heap.objs.size + 5 := by rw [Heap.size_push, z4]
  have z6 : (zH6 s.heap a b 1 l1 l2 l3).objs.size = s.heap.objs.size + 6 := by rw [Heap.size_push, z5]
  have k6 : ∀ c o, (zH6 s.heap a b 1 l1 l2 l3).get? c = some o → (zH7 s.heap a b 1 l1 l2 l3).get? c = some o := fun c o e => Heap.get?_push_of_some _ e
  have k5 : ∀ c o, (zH5 s.heap a b 1 l1 l2 l3).get? c = some o → (zH7 s.heap a b 1 l1 l2 l3).get? c = some o := fun c o e => k6 _ _ (Heap.get?_push_of_some _ e)
  have k4 : ∀ c o, (zH4 s.heap a b 1 l1 l2 l3).get? c = some o → (zH7 s.heap a b 1 l1 l2 l3).get? c = some o := fun c o e => k5 _ _ (Heap.get?_push_of_some _ e)
  have k3 : ∀ c o, (zH3 s.heap a b 1 l1 l2).get? c = some o → (zH7 s.heap a b 1 l1 l2 l3).get? c = some o := fun c o e => k4 _ _ (Heap.get?_push_of_some _ e)
  have k2 : ∀ c o, (zH2 s.heap a b 1 l1).get? c = some o → (zH7 s.heap a b 1 l1 l2 l3).get? c = some o := fun c o e => k3 _ _ (Heap.get?_push_of_some _ e)
  have k1 : ∀ c o, (zH1 s.heap a b 1).get? c = some o → (zH7 s.heap a b 1 l1 l2 l3).get? c = some o := fun c o e => k2 _ _ (Heap.get?_push_of_some _ e)
  have k0 : ∀ c o, s.heap.get? c = some o → (zH7 s.heap a b 1 l1 l2 l3).get? c = some o := fun c o e => k1 _ _ (Heap.get?_push_of_some _ e)
  have g7 : (zH7 s.heap a b 1 l1 l2 l3).get? (zH6 s.heap a b 1 l1 l2 l3).objs.size = some _ := Heap.get?_push_size _ rfl
  have g6 := k6 (zH5 s.heap a b 1 l1 l2 l3).objs.size _ (Heap.get?_push_size _ rfl)
  have g5 := k5 (zH4 s.heap a b 1 l1 l2 l3).objs.size _ (Heap.get?_push_size _ rfl)
  have g4 := k4 (zH3 s.heap a b 1 l1 l2).objs.size _ (Heap.get?_push_size _ rfl)
  have g3 := k3 (zH2 s.heap a b 1 l1).objs.size _ (Heap.get?_push_size _ rfl)
  have g2 := k2 (zH1 s.heap a b 1).objs.size _ (Heap.get?_push_size _ rfl)
  have g1 := k1 s.heap.objs.size _ (Heap.get?_push_size _ rfl)
  have er : Builtin.Range.rangeSize a b 1 = (n : Int) - ((0 : Nat) : Int) := by rw [rangeSize_one]; split <;> omega
  have ea : a = a + ((0 : Nat) : Int) * 1 := by simp
  show _ ∧ _
  rw [z4, z5, z6] at g7
  rw [z1, z2, z3, z4] at g5
  rw [z5] at g6
  rw [z3] at g4
  rw [z2] at g3
  rw [z1] at g2
  rw [er] at g1
  rw [z6]
  refine ⟨⟨_, g7, rfl⟩, h _ ⟨g7, g5, ⟨_, _, _, _, g6⟩, ?_, ⟨_, g2, rfl, rfl⟩, ⟨_, g3, rfl, rfl⟩, ⟨_, g4, rfl, rfl⟩, hl1.at fun o e => k0 _ _ e, hl2.at fun o e => k0 _ _ e, hl3.at fun o e => k0 _ _ e⟩ k0⟩
  show Heap.get? _ _ = _
  rw [← ea]
  exact g1
/-- the loop over a zip of a range and three lists of the ledger -/
theorem z4_for {env : Env} {h₀ : Heap} {elts : List Expr} {kk : Nat} {pos : Pos} {body : List Stmt} {Q : Flow → Shared → Prop} {r l1 l2 l3 : Addr} {a b : Int} {n : Nat} {t u v : Tok} {o1 o2 o3 : Obj} {xs ys zs : List Value} {k1 k2 k3 : Nat} {m : Str → Option Value} {news : List (Addr × Obj)}
    (hh : A.handled = none) (F : Fr h₀ env.locals s.heap m) (N : News h₀ env.locals s.heap news) (hr : IsRange s.heap r a b 1 t u v) (hn : b = a + (n : Int)) (ha : 0 ≤ a ∧ a ≤ 100) (hnn : n ≤ 100)
    (m1 : (l1, o1) ∈ news) (m2 : (l2, o2) ∈ news) (m3 : (l3, o3) ∈ news) (c1 : o1.cls = .type "list") (c2 : o2.cls = .type "list") (c3 : o3.cls = .type "list") (d1 : o1.data = .seq xs.toArray k1) (d2 : o2.data = .seq ys.toArray k2) (d3 : o3.data = .seq zs.toArray k3) (n1 : n ≤ xs.length) (n2 : n ≤ ys.length) (n3 : n ≤ zs.length)
    (J : Nat → (Str → Option Value) → List (Addr × Obj) → Prop) (h0 : J 0 m news)
    (step : ∀ i T t x y z m₁ nw own wr h₁ tk₁, i < n → xs[i]? = some x → ys[i]? = some y → zs[i]? = some z → J i m₁ nw → (∀ q ∈ nw, q.1 ∉ wr) → (∀ b ∈ wr, ∃ o, (b, o) ∈ own) → (∀ d o, (d, o) ∈ news → d ≠ l1 → d ≠ l2 → d ≠ l3 → ∀ q ∈ own, q.1 ≠ d) →
      Fr h₀ env.locals h₁ m₁ → News h₀ env.locals h₁ (own ++ nw) → IsTup h₁ T #[.int (a + i) t, x, y, z] →
      wpAny (model prog w) A (assign (.Tuple elts kk pos) env (.ref T)) (fun _ s₃ => wpAny (model prog w) A (execs body env)
        (LoopStepV h₀ env.locals wr own (J (i + 1)) { s with heap := h₁, toks := tk₁ } (fun v s' => Q (.ret v) s') fun s' => Q .next s') E s₃) E { s with heap := h₁, toks := tk₁ })
    (hQ : ∀ h' tk m' nw, Fr h₀ env.locals h' m' → News h₀ env.locals h' nw → J n m' nw → Q .next { s with heap := h', toks := tk }) :
    wpAny (model prog w) A (call (.type "zip") [.ref r, .ref l1, .ref l2, .ref l3]) (fun xv s₁ => wpAny (model prog w) A (pyIter xv) (fun it s₂ => TurnsAt prog w A h₀ env (.Tuple elts kk pos) body Q E it s₂) E s₁) E s := by
  have hl1 : s.heap.IsList l1 xs.toArray := ⟨o1, (N _ m1).1, c1, k1, d1⟩
  have hl2 : s.heap.IsList l2 ys.toArray := ⟨o2, (N _ m2).1, c2, k2, d2⟩
  have hl3 : s.heap.IsList l3 zs.toArray := ⟨o3, (N _ m3).1, c3, k3, d3⟩
  have lt : ∀ {d : Addr} {o : Obj}, (d, o) ∈ news → @LT.lt Nat _ d s.heap.objs.size := fun hm => Heap.lt_size (N _ hm).1
  have lt1 := lt m1; have lt2 := lt m2; have lt3 := lt m3
  have hLs : @LT.lt Nat _ env.locals s.heap.objs.size := F.ns.lt
  refine call_zip_4 hr hn ha hnn hl1 hl2 hl3 fun h' S hk => ?_
  refine wpAny_pyIter_zip S.1 ?_
  have W := z4_turns (prog := prog) (w := w) (A := A) (elts := elts) (kk := kk) (pos := pos) (I := s.heap.objs.size) (l1 := l1) (l2 := l2) (l3 := l3) (a := a) (n := n) (xs := xs.toArray) (ys := ys.toArray) (zs := zs.toArray) hh ⟨lt1, lt2, lt3⟩ (by simpa using n1) (by simpa using n2) (by simpa using n3)
  have far : ∀ b : Addr, b ∈ [s.heap.objs.size, s.heap.objs.size + 1, s.heap.objs.size + 2, s.heap.objs.size + 3, s.heap.objs.size + 5, s.heap.objs.size + 6] → @LE.le Nat _ s.heap.objs.size b := by
    intro b hb
    simp only [List.mem_cons, List.not_mem_nil, or_false] at hb
    rcases hb with rfl | rfl | rfl | rfl | rfl | rfl <;> (show @LE.le Nat _ _ _; omega)
  have fpn : ∀ b : Addr, @LT.lt Nat _ b s.heap.objs.size → b ≠ l1 → b ≠ l2 → b ≠ l3 → b ∉ [s.heap.objs.size, s.heap.objs.size + 1, s.heap.objs.size + 2, s.heap.objs.size + 3, s.heap.objs.size + 4, s.heap.objs.size + 5, s.heap.objs.size + 6, l1, l2, l3] := by
    intro b hb q1 q2 q3 hm
    simp only [List.mem_cons, List.not_mem_nil, or_false] at hm
    rcases hm with e | e | e | e | e | e | e | e | e | e
    all_goals first | exact q1 e | exact q2 e | exact q3 e | (exact absurd e (neN (by omega)))
  refine ⟨_, _, _, n, _, _, _, m, news, J, rfl, W, fpn _ hLs (N _ m1).2.1.symm (N _ m2).2.1.symm (N _ m3).2.1.symm, fun b hb => ?_, fun q hq hm => ?_, S, F.keeps hk, N.grown hk, h0, ?_, fun h' tk m' nw F' N' _ hJ => hQ h' tk m' nw F' N' hJ⟩
  · exact ktu_new F (far b hb)
  · exact absurd (far _ hm) (Nat.not_le.mpr (lt hq))
  · rintro i v m₁ nw h₁ tk₁ own hi ⟨T, t, x, y, z, rfl, hx, hy, hz, hT⟩ hJ hoff hown hget hall hst F₁ N₁
    refine step i T t x y z m₁ nw own _ h₁ tk₁ hi (by simpa using hx) (by simpa using hy) (by simpa using hz) hJ hoff (fun b hb => ?_) (fun d o hd q1 q2 q3 q hq e => fpn d (lt hd) q1 q2 q3 (e ▸ hown q hq)) F₁ N₁ ⟨_, hT, rfl, _, rfl⟩
    have hb' := W.sub b hb
    have hnone : h₀.get? b = none := ktu_new F (far b hb)
    obtain ⟨s1, s2, ⟨a', b', c', d', s3⟩, s4, ⟨p5, s5, _⟩, ⟨p6, s6, _⟩, ⟨p7, s7, _⟩, s8, s9, s10⟩ := hst
    simp only [List.mem_cons, List.not_mem_nil, or_false] at hb
    rcases hb with rfl | rfl | rfl | rfl | rfl | rfl
    · exact ⟨_, hall _ hb' hnone _ s4⟩
    · exact ⟨_, hall _ hb' hnone _ s5⟩
    · exact ⟨_, hall _ hb' hnone _ s6⟩
    · exact ⟨_, hall _ hb' hnone _ s7⟩
    · exact ⟨_, hall _ hb' hnone _ s3⟩
    · exact ⟨_, hall _ hb' hnone _ s1⟩
end
end
section
theorem flush_Li : (1 : Nat) = 1 := by
  w_top off
  k_with_none
  first | walk1 | rfl
theorem seg_high (w : World) (p : Program) (loose : List Str) (mean : ExcName → Option Value) (mg mb : Str → Option Value) (dp un : Nat) (gd : Option (List Code)) (outer : List Env) (A₀ : Around) (base g : Heap) (L : Addr) (s : Shared) (m : Str → Option Value) (nw : List (Addr × Obj)) (Q : Flow → Shared → Prop) (E : Value → Shared → Prop)
    
    (B : Below A₀ base outer g) (X : (Mine.hd.heap_1 w.params).In g) (T : Top p loose mean mg mb g) (hd : dp + 40 < recursionLimit) (hu : un + 400 < cLine)
    (F : Fr g L s.heap m) (N : News g L s.heap nw)
    (h : ∀ D h' tk', Fr g L h' (fun z => if z = Str.ofString "high" then some (.ref D) else m z) → News g L h' ((D, PySem.W.listOf #[] 0) :: nw) → (∀ q ∈ nw, q.1 ≠ D) → Q .next { s with heap := h', toks := tk' }) :
    wpAny (model PySem.Challenge.rw_pe0269_01.row.prog w) ((arC dp un gd outer).deeper (lawEnv L)) (exec (tst 8) (lawEnv L)) Q E s := by
  revert X
  k_fill
  intro X
  have q2 : lawScope = lawScope := rfl
  conv at q2 => rhs; whnf
  (try dsimp only at q2)
  have q3 : tst 8 = tst 8 := rfl
  conv at q3 => rhs; whnf
  (try dsimp only at q3)
  unfold lawEnv
  rw [q2, q3]
  clear q2 q3
  k_with_none
  k_steps
  all_goals (try k_data)
  all_goals exact h _ _ _ (by k_asm) (by k_asm) (fun q hq => Nat.ne_of_lt ((by assumption : ∀ p ∈ nw, p.1 < _) q hq))
theorem seg_low (w : World) (p : Program) (loose : List Str) (mean : ExcName → Option Value) (mg mb : Str → Option Value) (dp un : Nat) (gd : Option (List Code)) (outer : List Env) (A₀ : Around) (base g : Heap) (L : Addr) (s : Shared) (m : Str → Option Value) (nw : List (Addr × Obj)) (Q : Flow → Shared → Prop) (E : Value → Shared → Prop)
    
    (B : Below A₀ base outer g) (X : (Mine.hd.heap_1 w.params).In g) (T : Top p loose mean mg mb g) (hd : dp + 40 < recursionLimit) (hu : un + 400 < cLine)
    (F : Fr g L s.heap m) (N : News g L s.heap nw)
    (h : ∀ D h' tk', Fr g L h' (fun z => if z = Str.ofString "low" then some (.ref D) else m z) → News g L h' ((D, PySem.W.listOf #[] 0) :: nw) → (∀ q ∈ nw, q.1 ≠ D) → Q .next { s with heap := h', toks := tk' }) :
    wpAny (model PySem.Challenge.rw_pe0269_01.row.prog w) ((arC dp un gd outer).deeper (lawEnv L)) (exec (tst 9) (lawEnv L)) Q E s := by
  revert X
  k_fill
  intro X
  have q2 : lawScope = lawScope := rfl
  conv at q2 => rhs; whnf
  (try dsimp only at q2)
  have q3 : tst 9 = tst 9 := rfl
  conv at q3 => rhs; whnf
  (try dsimp only at q3)
  unfold lawEnv
  rw [q2, q3]
  clear q2 q3
  k_with_none
  k_steps
  all_goals (try k_data)
  all_goals exact h _ _ _ (by k_asm) (by k_asm) (fun q hq => Nat.ne_of_lt ((by assumption : ∀ p ∈ nw, p.1 < _) q hq))
theorem seg_unlike (w : World) (p : Program) (loose : List Str) (mean : ExcName → Option Value) (mg mb : Str → Option Value) (dp un : Nat) (gd : Option (List Code)) (outer : List Env) (A₀ : Around) (base g : Heap) (L : Addr) (s : Shared) (m : Str → Option Value) (nw : List (Addr × Obj)) (Q : Flow → Shared → Prop) (E : Value → Shared → Prop)
    
    (B : Below A₀ base outer g) (X : (Mine.hd.heap_1 w.params).In g) (T : Top p loose mean mg mb g) (hd : dp + 40 < recursionLimit) (hu : un + 400 < cLine)
    (F : Fr g L s.heap m) (N : News g L s.heap nw)
    (h : ∀ D h' tk', Fr g L h' (fun z => if z = Str.ofString "unlike" then some (.ref D) else m z) → News g L h' ((D, PySem.W.listOf #[] 0) :: nw) → (∀ q ∈ nw, q.1 ≠ D) → Q .next { s with heap := h', toks := tk' }) :
    wpAny (model PySem.Challenge.rw_pe0269_01.row.prog w) ((arC dp un gd outer).deeper (lawEnv L)) (exec (tst 10) (lawEnv L)) Q E s := by
  revert X
  k_fill
  intro X
  have q2 : lawScope = lawScope := rfl
  conv at q2 => rhs; whnf
  (try dsimp only at q2)
  have q3 : tst 10 = tst 10 := rfl
  conv at q3 => rhs; whnf
  (try dsimp only at q3)
  unfold lawEnv
  rw [q2, q3]
  clear q2 q3
  k_with_none
  k_steps
  all_goals (try k_data)
  all_goals exact h _ _ _ (by k_asm) (by k_asm) (fun q hq => Nat.ne_of_lt ((by assumption : ∀ p ∈ nw, p.1 < _) q hq))
end
section
theorem flush_Lj : (1 : Nat) = 1 := by
  w_top off
  k_with_none
  first | walk1 | rfl
def zipTarget : Expr := match tst 11 with | .For t _ _ _ _ => t | _ => .Constant .none 0 ⟨0, 0, 0, 0⟩
def zipBody : List Stmt := match tst 11 with | .For _ _ b _ _ => b | _ => []
theorem t_dmA (w : World) (a b n q r : Int) (ta tb : Tok) (hn : 5 ≤ n ∧ n ≤ 7) (hb : (PySem.Builtin.Int.intBits b : Int) = n) (ha : -b ≤ a ∧ a < b) (hlt : b ≤ 64 ∧ b ≤ 2 ^ (1 * n).toNat) (h : (0 ≤ a ∧ q = 0 ∧ r = a) ∨ (a < 0 ∧ q = -1 ∧ r = b + a)) : Ct w 56 [.int a ta, .int b tb] 12 140 Hits (dmPost q r) := by
  rcases h with ⟨h0, rfl, rfl⟩ | ⟨h0, rfl, rfl⟩
  · intro p loose mean mg mb dp un gd outer A₀ base g s R B X T kp sz hp hd hu ret
    exact t_dmP w r b n ta tb hn hb ⟨h0, ha.2⟩ hlt p loose mean mg mb dp un gd outer A₀ base g s R B X T kp sz hp (by omega) (by omega) ret
  · exact t_dmN w a b n ta tb hn hb ⟨ha.1, h0⟩ hlt
theorem allLt_at {d : Addr} : ∀ {l : List (Addr × Obj)}, AllLt d l → ∀ p ∈ l, @LT.lt Nat _ p.1 d := by
  intro l
  induction l with
  | nil => intro _ p hp; cases hp
  | cons x r ih =>
    intro h p hp
    rcases List.mem_cons.mp hp with rfl | hp
    · exact h.1
    · exact ih h.2 p hp
def ExtT (new : List (Addr × Obj)) (c : Bool) (vs vs' : List Value) (t : Int × Int × Int) : Prop :=
  if c = true then ∃ D t1 t2 t3, (D, ({ cls := .type "tuple", data := .seq #[.int t.1 t1, .int t.2.1 t2, .int t.2.2 t3] } : Obj)) ∈ new ∧ vs' = vs ++ [.ref D] else vs' = vs
theorem ext_yes {new : List (Addr × Obj)} {c : Bool} {vs : List Value} {D : Addr} {i j k : Int} {t1 t2 t3 : Tok} (hc : c = true) (hm : (D, ({ cls := .type "tuple", data := .seq #[.int i t1, .int j t2, .int k t3] } : Obj)) ∈ new) : ExtT new c vs (vs ++ [.ref D]) (i, j, k) := by
  unfold ExtT; rw [if_pos hc]; exact ⟨D, t1, t2, t3, hm, rfl⟩
theorem ext_no {new : List (Addr × Obj)} {c : Bool} {vs : List Value} {t : Int × Int × Int} (hc : c = false) : ExtT new c vs vs t := by
  unfold ExtT; rw [if_neg (by rw [hc]; decide)]
def NamesOff (m m' : Str → Option Value) : Prop := ∀ z, z ≠ Str.ofString "size" → z ≠ Str.ofString "first" → z ≠ Str.ofString "second" → z ≠ Str.ofString "figure" → z ≠ Str.ofString "over" → z ≠ Str.ofString "rest" → m' z = m z
theorem names_end {m : Str → Option Value} {u1 u2 u3 u4 u5 u6 : Option Value} {x1 x2 x3 x4 : Str} {y1 y2 y3 y4 : Value} (e1 : m x1 = some y1) (e2 : m x2 = some y2) (e3 : m x3 = some y3) (e4 : m x4 = some y4) : NamesOff m (fun y => if y = Str.ofString "rest" then u1 else if y = Str.ofString "over" then u2 else if y = Str.ofString "figure" then u3 else if y = Str.ofString "second" then u4 else if y = Str.ofString "first" then u5 else if y = Str.ofString "size" then u6 else if y = x4 then some y4 else if y = x3 then some y3 else if y = x2 then some y2 else if y = x1 then some y1 else m y) := by
  intro z a1 a2 a3 a4 a5 a6
  simp only [if_neg a1, if_neg a2, if_neg a3, if_neg a4, if_neg a5, if_neg a6]
  by_cases b4 : z = x4
  · rw [if_pos b4, b4, e4]
  · rw [if_neg b4]
    by_cases b3 : z = x3
    · rw [if_pos b3, b3, e3]
    · rw [if_neg b3]
      by_cases b2 : z = x2
      · rw [if_pos b2, b2, e2]
      · rw [if_neg b2]
        by_cases b1 : z = x1
        · rw [if_pos b1, b1, e1]
        · rw [if_neg b1]
theorem zip_news {g h' : Heap} {L : Addr} {a b c d e f : Addr × Obj} {nw : List (Addr × Obj)} (N : News g L h' (a :: b :: c :: d :: e :: f :: nw)) : News g L h' (d :: e :: f :: ([a, b] ++ nw)) := fun q hq => N q (by
  simp only [List.cons_append, List.nil_append, List.mem_cons] at hq ⊢
  rcases hq with h | h | h | h | h | h
  · exact .inr (.inr (.inr (.inl h)))
  · exact .inr (.inr (.inr (.inr (.inl h))))
  · exact .inr (.inr (.inr (.inr (.inr (.inl h)))))
  · exact .inl h
  · exact .inr (.inl h)
  · exact .inr (.inr (.inr (.inr (.inr (.inr h))))))
theorem zip_lt {D1 D2 D3 Da Db Dt : Addr} {oa ob : Obj} {nw : List (Addr × Obj)} (h1 : @LT.lt Nat _ Dt Da ∧ @LT.lt Nat _ D1 Da ∧ @LT.lt Nat _ D2 Da ∧ @LT.lt Nat _ D3 Da ∧ AllLt Da nw) (h2 : @LT.lt Nat _ Da Db ∧ @LT.lt Nat _ Dt Db ∧ @LT.lt Nat _ D1 Db ∧ @LT.lt Nat _ D2 Db ∧ @LT.lt Nat _ D3 Db ∧ AllLt Db nw) :
    ∀ q ∈ [(Db, ob), (Da, oa)], @LT.lt Nat _ D1 q.1 ∧ @LT.lt Nat _ D2 q.1 ∧ @LT.lt Nat _ D3 q.1 ∧ ∀ q' ∈ nw, @LT.lt Nat _ q'.1 q.1 := by
  intro q hq
  rcases List.mem_cons.mp hq with rfl | hq
  · exact ⟨h2.2.2.1, h2.2.2.2.1, h2.2.2.2.2.1, allLt_at h2.2.2.2.2.2⟩
  · rw [List.mem_singleton.mp hq]
    exact ⟨h1.2.1, h1.2.2.1, h1.2.2.2.1, allLt_at h1.2.2.2.2⟩
theorem zip_turn (w : World) (p : Program) (loose : List Str) (mean : ExcName → Option Value) (mg mb : Str → Option Value) (dp un : Nat) (gd : Option (List Code)) (outer : List Env) (A₀ : Around) (base g : Heap) (L : Addr) (s : Shared) (m : Str → Option Value) (nw : List (Addr × Obj)) (Q : Flow → Shared → Prop) (E : Value → Shared → Prop)
    (n H q9 r9 i a b f : Int) (tn tH ti ta tb tf : Tok) (D1 D2 D3 T9 c1 c2 : Addr) (o1 o2 : Obj) (v1 v2 : Array Value) (t1 t2 : Tok) (hs ls us : List Value) (k1 k2 k3 : Nat)
    (B : Below A₀ base outer g) (X : (Mine.hd.heap_1 w.params).In g) (T : Top p loose mean mg mb g) (hd : dp + 40 < recursionLimit) (hu : un + 400 < cLine) (hn : 5 ≤ n ∧ n ≤ 7) (hH : (PySem.Builtin.Int.intBits H : Int) = n) (hH2 : H ≤ 64 ∧ H ≤ 2 ^ (1 * n).toNat)
    (hf : f = a + H - b) (hfb : 0 < f ∧ f < H + H) (hqr : (0 ≤ f - H ∧ q9 = 0 ∧ r9 = f - H) ∨ (f - H < 0 ∧ q9 = -1 ∧ r9 = H + (f - H))) (hi : 0 ≤ i ∧ i < 100) (hab : 0 ≤ a ∧ a < 1000 ∧ 0 ≤ b ∧ b < 1000)
    (F : Fr g L s.heap m) (N : News g L s.heap ((D1, PySem.W.listOf hs.toArray k1) :: (D2, PySem.W.listOf ls.toArray k2) :: (D3, PySem.W.listOf us.toArray k3) :: nw))
    (m30 : (30, tabObj #[rawInt i2dPos.line, rawInt i2dPos.col, .ref c1]) ∈ nw) (m37 : (37, tabObj #[rawInt d2iPos.line, rawInt d2iPos.col, .ref c2]) ∈ nw) (mc1 : (c1, o1) ∈ nw) (mc2 : (c2, o2) ∈ nw) (q1 : o1.data = .fields v1) (q2 : v1[1]? = some (.str i2dQ t1)) (q3 : o2.data = .fields v2) (q4 : v2[1]? = some (.str d2iQ t2))
    (l1 : hs.length ≤ 20) (l2 : ls.length ≤ 20) (l3 : us.length ≤ 20) (n12 : @Ne Nat D1 D2) (n13 : @Ne Nat D1 D3) (n23 : @Ne Nat D2 D3) (f1 : ∀ q ∈ nw, q.1 ≠ D1) (f2 : ∀ q ∈ nw, q.1 ≠ D2) (f3 : ∀ q ∈ nw, q.1 ≠ D3)
    (e1 : m (Str.ofString "high") = some (.ref D1)) (e2 : m (Str.ofString "low") = some (.ref D2)) (e3 : m (Str.ofString "unlike") = some (.ref D3)) (e4 : m (Str.ofString "half") = some (.int H tH))
    (hT : IsTup s.heap T9 #[.int i ti, .int a ta, .int b tb, .int f tf])
    (h : ∀ h' tk' m' (hs' ls' us' : List Value) j1 j2 j3 (new : List (Addr × Obj)), Fr g L h' m' → NamesOff m m' → News g L h' ((D1, PySem.W.listOf hs'.toArray j1) :: (D2, PySem.W.listOf ls'.toArray j2) :: (D3, PySem.W.listOf us'.toArray j3) :: (new ++ nw)) →
      (∀ q ∈ new, @LT.lt Nat _ D1 q.1 ∧ @LT.lt Nat _ D2 q.1 ∧ @LT.lt Nat _ D3 q.1 ∧ ∀ q' ∈ nw, @LT.lt Nat _ q'.1 q.1) →
      ExtT new (decide (a ≥ b)) hs hs' (i, a, b) → ExtT new (decide (b ≥ a)) ls ls' (i, b, a) → ExtT new (decide (a ≠ b)) us us' (i, a, b) → Q .next { s with heap := h', toks := tk' }) :
    wpAny (model PySem.Challenge.rw_pe0269_01.row.prog w) ((arC dp un gd outer).deeper (lawEnv L)) (assign zipTarget (lawEnv L) (.ref T9)) (fun _ s₃ => wpAny (model PySem.Challenge.rw_pe0269_01.row.prog w) ((arC dp un gd outer).deeper (lawEnv L)) (execs zipBody (lawEnv L)) Q E s₃) E s := by
  revert X
  k_fill
  intro X
  have q5 : lawScope = lawScope := rfl
  conv at q5 => rhs; whnf
  (try dsimp only at q5)
  have q6 : zipTarget = zipTarget := rfl
  conv at q6 => rhs; whnf
  (try dsimp only at q6)
  have q7 : zipBody = zipBody := rfl
  conv at q7 => rhs; whnf
  (try dsimp only at q7)
  unfold lawEnv
  rw [q5, q6, q7]
  clear q5 q6 q7
  have F9 := Mine.Fr.pin (Mine.Fr.pin (Mine.Fr.pin (Mine.Fr.pin F e1) (x := Str.ofString "low") (v := .ref D2) e2) (x := Str.ofString "unlike") (v := .ref D3) e3) (x := Str.ofString "half") (v := .int H tH) e4
  clear F
  k_with_none
  (k_with "call ref" => (k_here; (k_dflt (refine' use_dm (t_dmA _ _ _ _ _ _ _ _ ?p1 ?p2 ?p3 ?p4 ?p5) ?B ?F ?X ?N ?T ?hA ?hf ?hke ?hd ?hu ?hm ?hn ?hc ?he ?h1 ?h2 ?h3 ?h4 ?_; (case B => assumption); (case F => k_asm); (case X => assumption); (case N => k_asm); (case T => assumption); (case hA => exact rfl); (case hf => exact rfl); (case hke => exact rfl); (case hd => ((try dsimp only [arC]); omega)); (case hu => (have hcL9 := cLine_is; (try dsimp only [arC]); omega)); (case hm => k_mem); (case hn => k_mem); (case hc => k_mem); (case he => k_mem); (case h1 => assumption); (case h2 => assumption); (case h3 => assumption); (case h4 => assumption); (case p1 => assumption); (case p2 => assumption); (case p3 => omega); (case p4 => assumption); (case p5 => assumption))); intro D' u1' u2' h' tk' F' N' hne'; have w1 := neN (hne' _ (List.Mem.head _)); have w2 := neN (hne' _ (List.Mem.tail _ (List.Mem.head _))); have w3 := neN (hne' _ (List.Mem.tail _ (List.Mem.tail _ (List.Mem.head _)))); clear hne'))
  k_steps
  all_goals (try k_data)
  all_goals try (exfalso; omega)
  all_goals (rename News _ _ _ _ => NE; simp only [List.push_toArray] at NE)
  all_goals first
    | exact h _ _ _ _ _ _ _ _ _ _ (by k_asm) (names_end e1 e2 e3 e4) (zip_news NE) (zip_lt (by assumption) (by assumption)) (ext_yes (decide_eq_true (by omega)) (by k_mem)) (ext_yes (decide_eq_true (by omega)) (by k_mem)) (ext_no (decide_eq_false (by omega)))
    | exact h _ _ _ _ _ _ _ _ _ _ (by k_asm) (names_end e1 e2 e3 e4) (zip_news NE) (zip_lt (by assumption) (by assumption)) (ext_yes (decide_eq_true (by omega)) (by k_mem)) (ext_no (decide_eq_false (by omega))) (ext_yes (decide_eq_true (by omega)) (by k_mem))
    | exact h _ _ _ _ _ _ _ _ _ _ (by k_asm) (names_end e1 e2 e3 e4) (zip_news NE) (zip_lt (by assumption) (by assumption)) (ext_no (decide_eq_false (by omega))) (ext_yes (decide_eq_true (by omega)) (by k_mem)) (ext_yes (decide_eq_true (by omega)) (by k_mem))
end
section
theorem flush_Lk : (1 : Nat) = 1 := by
  w_top off
  k_with_none
  first | walk1 | rfl
theorem unpin0' {g h : Heap} {L : Addr} {m : Str → Option Value} {x : Str} {u : Value} (F : Fr g L h (fun z => if z = x then some u else m z)) (e : m x = some u) : Fr g L h m :=
  fr_canon F fun y => by
    by_cases b : y = x
    · rw [if_pos b, b, e]
    · rw [if_neg b]
def zS (P : Int → Int → Bool) (fa fb : Int → Int) (n : Nat) : List (Int × Int × Int) := ((rangeKs 1 n).filter fun t => P (fa t) (fb t)).map fun t => (t, fa t, fb t)
theorem zS_succ (P : Int → Int → Bool) (fa fb : Int → Int) (n : Nat) : zS P fa fb (n + 1) = zS P fa fb n ++ (if P (fa (1 + n)) (fb (1 + n)) = true then [((1 + n : Int), fa (1 + n), fb (1 + n))] else []) := by
  unfold zS
  rw [rangeKs_succ, List.filter_append, List.map_append]
  congr 1
  by_cases h : P (fa (1 + n)) (fb (1 + n)) = true
  · rw [if_pos h, List.filter_cons, if_pos h]; rfl
  · rw [if_neg h, List.filter_cons, if_neg h]; rfl
theorem ext_step {P : Int → Int → Bool} {fa fb : Int → Int} {i : Nat} {new tl : List (Addr × Obj)} {vs vs' : List Value} {c : Bool} (hc : c = P (fa (1 + i)) (fb (1 + i))) (h : TripL tl vs (zS P fa fb i)) (x : ExtT new c vs vs' ((1 + i : Int), fa (1 + i), fb (1 + i))) : TripL (new ++ tl) vs' (zS P fa fb (i + 1)) := by
  have h' := h.mono (tl' := new ++ tl) fun p hp => List.mem_append_right _ hp
  rw [zS_succ, ← hc]
  unfold ExtT at x
  by_cases hb : c = true
  · rw [if_pos hb] at x ⊢
    obtain ⟨D, t1, t2, t3, hm, rfl⟩ := x
    exact h'.snoc (List.mem_append_left _ hm)
  · rw [if_neg hb] at x ⊢
    subst x
    simpa using h'
theorem ext_len {new : List (Addr × Obj)} {c : Bool} {vs vs' : List Value} {t : Int × Int × Int} {i : Nat} (h : vs.length ≤ i) (x : ExtT new c vs vs' t) : vs'.length ≤ i + 1 := by
  unfold ExtT at x
  split at x
  · obtain ⟨D, t1, t2, t3, hm, rfl⟩ := x
    rw [List.length_append, List.length_singleton]; omega
  · subst x; omega
theorem rk_at {k i : Nat} {f : Int → Int} (hi : i < k) : ((rangeKs 1 k).map f)[i]? = some (f (1 + i)) := by
  simp [rangeKs, hi]
theorem ints_at {vs : List Value} {k i : Nat} {f : Int → Int} {x : Value} (h : IntsAre vs ((rangeKs 1 k).map f)) (hi : i < k) (hx : vs[i]? = some x) : ∃ t, x = .int (f (1 + i)) t := by
  obtain ⟨n, t, e, hn⟩ := h.at i x hx
  rw [rk_at hi] at hn
  exact ⟨t, by rw [e, Option.some.inj hn]⟩
theorem ints_len {vs : List Value} {ns : List Int} (h : IntsAre vs ns) : vs.length = ns.length := by
  have := h.sizeZ
  rw [List.size_toArray] at this
  omega
def JZip (m : Str → Option Value) (nw : List (Addr × Obj)) (D1 D2 D3 : Addr) (fa fb : Int → Int) (i : Nat) (m' : Str → Option Value) (nwX : List (Addr × Obj)) : Prop :=
  NamesOff m m' ∧ ∃ (hs ls us : List Value) (j1 j2 j3 : Nat) (tl : List (Addr × Obj)), nwX = (D1, PySem.W.listOf hs.toArray j1) :: (D2, PySem.W.listOf ls.toArray j2) :: (D3, PySem.W.listOf us.toArray j3) :: tl ∧ (∀ q ∈ nw, q ∈ tl) ∧ (∀ q ∈ tl, q.1 ≠ D1 ∧ q.1 ≠ D2 ∧ q.1 ≠ D3) ∧
    TripL tl hs (zS (fun a b => decide (a ≥ b)) fa fb i) ∧ TripL tl ls (zS (fun a b => decide (a ≥ b)) fb fa i) ∧ TripL tl us (zS (fun a b => decide (a ≠ b)) fa fb i) ∧ hs.length ≤ i ∧ ls.length ≤ i ∧ us.length ≤ i
theorem zip_push {D1 D2 D3 : Addr} {o1 o2 o3 : Obj} {g h : Heap} {L : Addr} {own tl : List (Addr × Obj)} (N : News g L h (own ++ ((D1, o1) :: (D2, o2) :: (D3, o3) :: tl))) : News g L h ((D1, o1) :: (D2, o2) :: (D3, o3) :: (own ++ tl)) := fun q hq => N q (by
  simp only [List.mem_append, List.mem_cons] at hq ⊢
  rcases hq with h | h | h | h | h
  · exact .inr (.inl h)
  · exact .inr (.inr (.inl h))
  · exact .inr (.inr (.inr (.inl h)))
  · exact .inl h
  · exact .inr (.inr (.inr (.inr h))))
theorem zip_pull {a b c : Addr × Obj} {g h : Heap} {L : Addr} {own tl new : List (Addr × Obj)} (N : News g L h (a :: b :: c :: (new ++ (own ++ tl)))) : News g L h (own ++ (a :: b :: c :: (new ++ tl))) := fun q hq => N q (by
  simp only [List.mem_append, List.mem_cons] at hq ⊢
  rcases hq with h | h | h | h | h | h
  · exact .inr (.inr (.inr (.inr (.inl h))))
  · exact .inl h
  · exact .inr (.inl h)
  · exact .inr (.inr (.inl h))
  · exact .inr (.inr (.inr (.inl h)))
  · exact .inr (.inr (.inr (.inr (.inr h)))))
theorem seg_zip (w : World) (p : Program) (loose : List Str) (mean : ExcName → Option Value) (mg mb : Str → Option Value) (dp un : Nat) (gd : Option (List Code)) (outer : List Env) (A₀ : Around) (base g : Heap) (L : Addr) (s : Shared) (m : Str → Option Value) (nw : List (Addr × Obj)) (Q : Flow → Shared → Prop) (E : Value → Shared → Prop)
    (hE : PassesOwn (model PySem.Challenge.rw_pe0269_01.row.prog w) ((arC dp un gd outer).deeper (lawEnv L)) (lawEnv L) E)
    (n H : Int) (k nn : Nat) (tH tm : Tok) (fa fb : Int → Int) (lA lB lF D1 D2 D3 c1 c2 : Addr) (vA vB vF : List Value) (o1 o2 : Obj) (v1 v2 : Array Value) (t1 t2 : Tok)
    (B : Below A₀ base outer g) (X : (Mine.hd.heap_1 w.params).In g) (T : Top p loose mean mg mb g) (hd : dp + 40 < recursionLimit) (hu : un + 400 < cLine) (hn : 5 ≤ n ∧ n ≤ 7) (hH : (PySem.Builtin.Int.intBits H : Int) = n) (hH2 : H ≤ 64 ∧ H ≤ 2 ^ (1 * n).toNat)
    (hk : k ≤ 8) (hfa : ∀ t : Int, 1 ≤ t → t ≤ k → 0 ≤ fa t ∧ fa t < 1000 ∧ 0 ≤ fb t ∧ fb t < 1000 ∧ 0 < fa t + H - fb t ∧ fa t + H - fb t < H + H)
    (F : Fr g L s.heap m) (N : News g L s.heap ((D1, PySem.W.listOf #[] 0) :: (D2, PySem.W.listOf #[] 0) :: (D3, PySem.W.listOf #[] 0) :: nw))
    (m30 : (30, tabObj #[rawInt i2dPos.line, rawInt i2dPos.col, .ref c1]) ∈ nw) (m37 : (37, tabObj #[rawInt d2iPos.line, rawInt d2iPos.col, .ref c2]) ∈ nw) (mc1 : (c1, o1) ∈ nw) (mc2 : (c2, o2) ∈ nw) (q1 : o1.data = .fields v1) (q2 : v1[1]? = some (.str i2dQ t1)) (q3 : o2.data = .fields v2) (q4 : v2[1]? = some (.str d2iQ t2))
    (qA : (lA, LCg.lst vA) ∈ nw) (qB : (lB, LCg.lst vB) ∈ nw) (qF : (lF, PySem.W.listOf vF.toArray nn) ∈ nw) (iA : IntsAre vA ((rangeKs 1 k).map fa)) (iB : IntsAre vB ((rangeKs 1 k).map fb)) (iF : IntsAre vF ((rangeKs 1 k).map fun t => fa t + H - fb t))
    (n12 : @Ne Nat D1 D2) (n13 : @Ne Nat D1 D3) (n23 : @Ne Nat D2 D3) (f1 : ∀ q ∈ nw, q.1 ≠ D1) (f2 : ∀ q ∈ nw, q.1 ≠ D2) (f3 : ∀ q ∈ nw, q.1 ≠ D3)
    (e1 : m (Str.ofString "high") = some (.ref D1)) (e2 : m (Str.ofString "low") = some (.ref D2)) (e3 : m (Str.ofString "unlike") = some (.ref D3)) (e4 : m (Str.ofString "half") = some (.int H tH)) (e5 : m (Str.ofString "most") = some (.int k tm))
    (e6 : m (Str.ofString "left") = some (.ref lA)) (e7 : m (Str.ofString "right") = some (.ref lB)) (e8 : m (Str.ofString "figures") = some (.ref lF))
    (h : ∀ h' tk' m' nw', Fr g L h' m' → News g L h' nw' → JZip m nw D1 D2 D3 fa fb k m' nw' → Q .next { s with heap := h', toks := tk' }) :
    wpAny (model PySem.Challenge.rw_pe0269_01.row.prog w) ((arC dp un gd outer).deeper (lawEnv L)) (exec (tst 11) (lawEnv L)) Q E s := by
  have key : ∀ (r : Addr) (b : Int) (t u v : Tok) (s' : Shared) (m₀ : Str → Option Value) (nwX : List (Addr × Obj)), (∃ h₁ tk₁, s' = { s with heap := h₁, toks := tk₁ }) → Fr g L s'.heap m₀ → NamesOff m m₀ → News g L s'.heap nwX → nwX = ((D1, PySem.W.listOf #[] 0) :: (D2, PySem.W.listOf #[] 0) :: (D3, PySem.W.listOf #[] 0) :: nw) → IsRange s'.heap r 1 b 1 t u v → b = k + 1 →
      ∀ (elts : List Expr) (kk : Nat) (pos : Pos), zipTarget = .Tuple elts kk pos →
      wpAny (model PySem.Challenge.rw_pe0269_01.row.prog w) ((arC dp un gd outer).deeper (lawEnv L)) (call (.type "zip") [.ref r, .ref lA, .ref lB, .ref lF]) (fun xv s₁ => wpAny (model PySem.Challenge.rw_pe0269_01.row.prog w) ((arC dp un gd outer).deeper (lawEnv L)) (pyIter xv) (fun it s₂ => TurnsAt PySem.Challenge.rw_pe0269_01.row.prog w ((arC dp un gd outer).deeper (lawEnv L)) g (lawEnv L) (.Tuple elts kk pos) zipBody Q E it s₂) E s₁) E s' := by
    rintro r b t u v s' m₀ nwX ⟨h₁, tk₁, rfl⟩ F0 hm0 N0 rfl hr hb elts kk pos et
    have lA9 := ints_len iA
    have lB9 := ints_len iB
    have lF9 := ints_len iF
    have lk : (rangeKs 1 k).length = k := by simp [rangeKs]
    rw [List.length_map, lk] at lA9 lB9 lF9
    refine z4_for (n := k) (J := JZip m nw D1 D2 D3 fa fb) rfl F0 N0 hr (by omega) (by omega) (by omega) (.tail _ (.tail _ (.tail _ qA))) (.tail _ (.tail _ (.tail _ qB))) (.tail _ (.tail _ (.tail _ qF))) rfl rfl rfl rfl rfl rfl (by omega) (by omega) (by omega)
      ⟨hm0, [], [], [], 0, 0, 0, nw, rfl, fun _ hq => hq, fun q hq => ⟨f1 q hq, f2 q hq, f3 q hq⟩, .nil, .nil, .nil, Nat.le_refl _, Nat.le_refl _, Nat.le_refl _⟩ ?_ ?_
    · rintro i T9 ti x y z m₁ nwI own wr h₂ tk₂ hi hx hy hz ⟨hm1, hs, ls, us, j1, j2, j3, tl, rfl, sub, off, x1, x2, x3, y1, y2, y3⟩ hoff hwr hown F1 N1 hT
      obtain ⟨ta, rfl⟩ := ints_at iA hi hx
      obtain ⟨tb, rfl⟩ := ints_at iB hi hy
      obtain ⟨tf, rfl⟩ := ints_at iF hi hz
      have bd := hfa (1 + i) (by omega) (by omega)
      have od1 := hown D1 _ (.head _) (fun e => f1 _ qA e.symm) (fun e => f1 _ qB e.symm) (fun e => f1 _ qF e.symm)
      have od2 := hown D2 _ (.tail _ (.head _)) (fun e => f2 _ qA e.symm) (fun e => f2 _ qB e.symm) (fun e => f2 _ qF e.symm)
      have od3 := hown D3 _ (.tail _ (.tail _ (.head _))) (fun e => f3 _ qA e.symm) (fun e => f3 _ qB e.symm) (fun e => f3 _ qF e.symm)
      rw [← et]
      have rest : (0 ≤ (fa (1 + i) + H - fb (1 + i)) - H ∧ (if 0 ≤ (fa (1 + i) + H - fb (1 + i)) - H then (0 : Int) else -1) = 0 ∧ (if 0 ≤ (fa (1 + i) + H - fb (1 + i)) - H then (fa (1 + i) + H - fb (1 + i)) - H else H + ((fa (1 + i) + H - fb (1 + i)) - H)) = (fa (1 + i) + H - fb (1 + i)) - H) ∨
        ((fa (1 + i) + H - fb (1 + i)) - H < 0 ∧ (if 0 ≤ (fa (1 + i) + H - fb (1 + i)) - H then (0 : Int) else -1) = -1 ∧ (if 0 ≤ (fa (1 + i) + H - fb (1 + i)) - H then (fa (1 + i) + H - fb (1 + i)) - H else H + ((fa (1 + i) + H - fb (1 + i)) - H)) = H + ((fa (1 + i) + H - fb (1 + i)) - H)) := by
        by_cases c : 0 ≤ (fa (1 + i) + H - fb (1 + i)) - H
        · exact .inl ⟨c, by rw [if_pos c], by rw [if_pos c]⟩
        · exact .inr ⟨by omega, by rw [if_neg c], by rw [if_neg c]⟩
      refine zip_turn w p loose mean mg mb dp un gd outer A₀ base g L { s with heap := h₂, toks := tk₂ } m₁ (own ++ tl) _ E n H _ _ (1 + i) (fa (1 + i)) (fb (1 + i)) (fa (1 + i) + H - fb (1 + i)) ti tH ti ta tb tf D1 D2 D3 T9 c1 c2 o1 o2 v1 v2 t1 t2 hs ls us j1 j2 j3
        B X T hd hu hn hH hH2 rfl ⟨bd.2.2.2.2.1, bd.2.2.2.2.2⟩ rest (by omega) ⟨bd.1, bd.2.1, bd.2.2.1, bd.2.2.2.1⟩ F1 (zip_push N1)
        (List.mem_append_right _ (sub _ m30)) (List.mem_append_right _ (sub _ m37)) (List.mem_append_right _ (sub _ mc1)) (List.mem_append_right _ (sub _ mc2)) q1 q2 q3 q4 (by omega) (by omega) (by omega) n12 n13 n23
        (fun q hq => (List.mem_append.mp hq).elim (od1 q) fun hq => (off q hq).1) (fun q hq => (List.mem_append.mp hq).elim (od2 q) fun hq => (off q hq).2.1) (fun q hq => (List.mem_append.mp hq).elim (od3 q) fun hq => (off q hq).2.2)
        (by rw [hm1 _ (by decide) (by decide) (by decide) (by decide) (by decide) (by decide), e1]) (by rw [hm1 _ (by decide) (by decide) (by decide) (by decide) (by decide) (by decide), e2]) (by rw [hm1 _ (by decide) (by decide) (by decide) (by decide) (by decide) (by decide), e3]) (by rw [hm1 _ (by decide) (by decide) (by decide) (by decide) (by decide) (by decide), e4]) hT ?_
      intro h' tk' m' hs' ls' us' j1' j2' j3' new F' hm' N' hlt w1 w2 w3
      refine .next ⟨rfl, h', tk', m', (D1, PySem.W.listOf hs'.toArray j1') :: (D2, PySem.W.listOf ls'.toArray j2') :: (D3, PySem.W.listOf us'.toArray j3') :: (new ++ tl), rfl, F', zip_pull N', ?_, ?_⟩
      · intro q hq
        rcases List.mem_cons.mp hq with rfl | hq
        · exact hoff (D1, PySem.W.listOf hs.toArray j1) (.head _)
        rcases List.mem_cons.mp hq with rfl | hq
        · exact hoff (D2, PySem.W.listOf ls.toArray j2) (.tail _ (.head _))
        rcases List.mem_cons.mp hq with rfl | hq
        · exact hoff (D3, PySem.W.listOf us.toArray j3) (.tail _ (.tail _ (.head _)))
        rcases List.mem_append.mp hq with hq | hq
        · intro hw
          obtain ⟨o, ho⟩ := hwr _ hw
          exact absurd ((hlt q hq).2.2.2 _ (List.mem_append_left _ ho)) (Nat.lt_irrefl _)
        · exact hoff q (.tail _ (.tail _ (.tail _ hq)))
      · refine ⟨fun z a1 a2 a3 a4 a5 a6 => (hm' z a1 a2 a3 a4 a5 a6).trans (hm1 z a1 a2 a3 a4 a5 a6), hs', ls', us', j1', j2', j3', new ++ tl, rfl, fun q hq => List.mem_append_right _ (sub q hq), fun q hq => ?_, ext_step rfl x1 w1, ext_step rfl x2 w2, ext_step rfl x3 w3, ext_len y1 w1, ext_len y2 w2, ext_len y3 w3⟩
        rcases List.mem_append.mp hq with hq | hq
        · have l9 := hlt q hq
          exact ⟨Nat.ne_of_gt l9.1, Nat.ne_of_gt l9.2.1, Nat.ne_of_gt l9.2.2.1⟩
        · exact off q hq
    · intro h' tk m' nw' F' N' hJ
      exact h h' tk m' nw' F' N' hJ
  have k1 : zipTarget = zipTarget := rfl
  conv at k1 => rhs; whnf
  have key2 := fun r b t u v s' m₀ nwX a1 a2 a3 a4 a5 a6 a7 => key r b t u v s' m₀ nwX a1 a2 a3 a4 a5 a6 a7 _ _ _ k1
  clear key
  have ef : ∃ it pos, tst 11 = .For zipTarget it zipBody [] pos ∧ it = (match tst 11 with | .For _ it _ _ _ => it | _ => .Constant .none 0 ⟨0, 0, 0, 0⟩) := ⟨_, _, rfl, rfl⟩
  obtain ⟨it, pos, ef, ei⟩ := ef
  rw [ef, k1]
  conv at ei => rhs; whnf
  refine For_turns F ?_ (by subst ei; intro _; rfl) hE
  subst ei
  generalize zipBody = bd9 at key2 ⊢
  revert X
  k_fill
  intro X
  have q5 : lawScope = lawScope := rfl
  conv at q5 => rhs; whnf
  (try dsimp only at q5)
  unfold lawEnv at key2 hE ⊢
  rw [q5] at key2 hE ⊢
  clear q5
  have F9 := Mine.Fr.pin (Mine.Fr.pin (Mine.Fr.pin (Mine.Fr.pin F e5) (x := Str.ofString "left") (v := .ref lA) e6) (x := Str.ofString "right") (v := .ref lB) e7) (x := Str.ofString "figures") (v := .ref lF) e8
  clear F
  k_with_none
  k_steps
  (with_reducible rename IsRange _ _ _ _ _ _ _ _ => RE)
  (rename Fr _ _ _ _ => FE; rename News _ _ _ _ => NE)
  exact key2 _ _ _ _ _ _ m _ ⟨_, _, rfl⟩ (unpin0' (unpin0' (unpin0' (unpin0' FE e8) e7) e6) e5) (fun _ _ _ _ _ _ _ => rfl) NE rfl RE rfl
end
section
theorem flush_Ll : (1 : Nat) = 1 := by
  w_top off
  k_with_none
  first | walk1 | rfl
theorem wsR_at {l : List (Addr × Obj)} {x L : Addr} {W : Ws} {g h : Heap} (R : WsR l x W) (N : News g L h l) : WsAt h x W := R.at fun q hq => (N q hq).1
theorem instR {l : List (Addr × Obj)} {x dx L : Addr} {g h : Heap} {od : Obj} (N : News g L h l) (m1 : (x, instObj 118 dx) ∈ l) (m2 : (dx, od) ∈ l) : InstAt h x (instObj 118 dx) 118 (some od) := ⟨(N _ m1).1, rfl, rfl, (N _ m2).1⟩
theorem wsR_at2 {l : List (Addr × Obj)} {q : Addr × Obj} {x L : Addr} {W : Ws} {g h : Heap} (R : WsR l x W) (N : News g L h (q :: l)) : WsAt h x W := R.at fun q hq => (N q (.tail _ hq)).1
theorem instR2 {l : List (Addr × Obj)} {q : Addr × Obj} {x dx L : Addr} {g h : Heap} {od : Obj} (N : News g L h (q :: l)) (m1 : (x, instObj 118 dx) ∈ l) (m2 : (dx, od) ∈ l) : InstAt h x (instObj 118 dx) 118 (some od) := ⟨(N _ (.tail _ m1)).1, rfl, rfl, (N _ (.tail _ m2)).1⟩
theorem t_equalE (w : World) (x y : Addr) (W V : Ws) (e : Bool) (he : decide (W.cnt = V.cnt ∧ W.b = V.b) = e) : Ct w 94 [.ref x, .ref y] 3 100 (fun g _ => WsAt g x W ∧ WsAt g y V) (isBool e) := he ▸ t_equal w x y W V
theorem t_lessE (w : World) (x y : Addr) (W V : Ws) (e : Bool) (he : lessS W V = e) : Ct w 108 [.ref x, .ref y] 3 40 (fun g _ => WsAt g x W ∧ WsAt g y V) (isBool e) := he ▸ t_less w x y W V
section
variable {prog : Program} {w : World} {A : Around} {E : Value → Shared → Prop} {s : Shared} {Q : Value → Shared → Prop}
theorem ne_same {a b L : Addr} {g : Heap} {vs us : List Value} {l : List (Int × Int × Int)} {n k : Nat} {nw : List (Addr × Obj)} (ha : s.heap.get? a = some (PySem.W.listOf vs.toArray n)) (hl : Trip s.heap vs l) (N : News g L s.heap nw) (hb : (b, PySem.W.listOf us.toArray k) ∈ nw) (hm : TripL nw us l) (hu : A.units + 64 < cLine)
    (h : Q (.bool false) s) : wpAny (model prog w) A (compareOp .NotEq (.ref a) (.ref b)) Q E s :=
  ne_trips ha (N _ hb).1 hl (hm.trip N fun _ hp => hp) hu (by simpa using h)
theorem eq_nilE {b c L : Addr} {g : Heap} {us : List Value} {l : List (Int × Int × Int)} {k : Nat} {nw : List (Addr × Obj)} {e : Bool} (he : decide (l = []) = e) (N : News g L s.heap ((c, PySem.W.listOf #[] 0) :: nw)) (hb : (b, PySem.W.listOf us.toArray k) ∈ nw) (hm : TripL nw us l) (hu : A.units + 64 < cLine)
    (h : Q (.bool e) s) : wpAny (model prog w) A (compareOp .Eq (.ref b) (.ref c)) Q E s := by
  obtain ⟨as, ra⟩ := trip_reads (hm.trip N fun _ hp => List.Mem.tail _ hp)
  refine SeqAt.compareEq_shaped (da := .list (l.map tripD)) (db := .list (([] : List (Int × Int × Int)).map tripD)) (.list (N _ (.tail _ hb)).1 rfl rfl ra) (.list (N _ (.head _)).1 rfl rfl .nil) (trip_shaped _) (trip_shaped _) hu ?_
  show Q (.bool (PyData.eqv (.list (l.map tripD)) (.list (([] : List (Int × Int × Int)).map tripD)))) s
  rw [show PyData.eqv (.list (l.map tripD)) (.list (([] : List (Int × Int × Int)).map tripD)) = PyData.eqvAll (l.map tripD) (([] : List (Int × Int × Int)).map tripD) from by simp only [PyData.eqv], trip_eqv, he]
  exact h
theorem eq_nilE2 {b c L : Addr} {g : Heap} {us : List Value} {l : List (Int × Int × Int)} {k : Nat} {q : Addr × Obj} {nw : List (Addr × Obj)} {e : Bool} (he : decide (l = []) = e) (N : News g L s.heap ((c, PySem.W.listOf #[] 0) :: q :: nw)) (hb : (b, PySem.W.listOf us.toArray k) ∈ nw) (hm : TripL nw us l) (hu : A.units + 64 < cLine)
    (h : Q (.bool e) s) : wpAny (model prog w) A (compareOp .Eq (.ref b) (.ref c)) Q E s :=
  eq_nilE he N (.tail _ hb) (hm.mono fun _ hp => .tail _ hp) hu h
end
local macro_rules | `(tactic| k_inst) => `(tactic| first | exact instR (by k_asm) (by assumption) (by assumption) | exact instR2 (by k_asm) (by assumption) (by assumption))
theorem seg_if1 (w : World) (p : Program) (loose : List Str) (mean : ExcName → Option Value) (mg mb : Str → Option Value) (dp un : Nat) (gd : Option (List Code)) (outer : List Env) (A₀ : Around) (base g : Heap) (L : Addr) (s : Shared) (m : Str → Option Value) (nw : List (Addr × Obj)) (Q : Flow → Shared → Prop) (E : Value → Shared → Prop)
    (x y : Addr) (W V : Ws) (D1 D2 : Addr) (hs ls : List Value) (j1 j2 : Nat)
    (B : Below A₀ base outer g) (X : (Mine.hd.heap_1 w.params).In g) (T : Top p loose mean mg mb g) (hd : dp + 40 < recursionLimit) (hu : un + 400 < cLine)
    (hx : WsR nw x W) (hy : WsR nw y V) (F : Fr g L s.heap m) (N : News g L s.heap nw) (m1 : m (Str.ofString "here") = some (.ref x)) (m2 : m (Str.ofString "there") = some (.ref y))
    (m3 : m (Str.ofString "high") = some (.ref D1)) (m4 : m (Str.ofString "low") = some (.ref D2)) (d1 : (D1, PySem.W.listOf hs.toArray j1) ∈ nw) (d2 : (D2, PySem.W.listOf ls.toArray j2) ∈ nw) (t1 : TripL nw hs (witS (fun a b => decide (a ≥ b)) W V (mostS W V).toNat)) (t2 : TripL nw ls (witS (fun a b => decide (a ≥ b)) V W (mostS V W).toNat))
    (h : ∀ h' tk', Fr g L h' m → News g L h' nw → Q .next { s with heap := h', toks := tk' }) :
    wpAny (model PySem.Challenge.rw_pe0269_01.row.prog w) ((arC dp un gd outer).deeper (lawEnv L)) (exec (tst 12) (lawEnv L)) Q E s := by
  revert X
  k_fill
  intro X
  have q2 : lawScope = lawScope := rfl
  conv at q2 => rhs; whnf
  (try dsimp only at q2)
  have q3 : tst 12 = tst 12 := rfl
  conv at q3 => rhs; whnf
  (try dsimp only at q3)
  unfold lawEnv
  rw [q2, q3]
  clear q2 q3
  have hx0 := hx
  have hy0 := hy
  obtain ⟨raw1, dx1, tn1, tc1, vs1, a1, a2, a3, a4, a5, b1, b2, b3, b4, b5, c1, c2, c3, c4, e1, i1, i2, -⟩ := hx0
  obtain ⟨raw2, dx2, tn2, tc2, vs2, a6, a7, a8, a9, a10, b6, b7, b8, b9, b10, c6, c7, c8, c9, e2, i3, i4, -⟩ := hy0
  have F9 := (Mine.Fr.pin (Mine.Fr.pin (Mine.Fr.pin (Mine.Fr.pin F (x := Str.ofString "here") (v := .ref x) m1) (x := Str.ofString "there") (v := .ref y) m2) (x := Str.ofString "high") (v := .ref D1) m3) (x := Str.ofString "low") (v := .ref D2) m4)
  clear F
  k_with_none
  (k_with "call ref" => (k_here; first
  | (k_dflt (refine' useC (t_notLess _ _ _ _ _) ?B ?F ?X ?N ?T ?hA ?hf ?hke ?hp ?hd ?hu ?_; (case B => assumption); (case F => k_asm); (case X => assumption); (case N => k_asm); (case T => assumption); (case hA => exact rfl); (case hf => exact rfl); (case hke => exact rfl); (case hp => first | exact ⟨wsR_at (by assumption) (by k_asm), wsR_at (by assumption) (by k_asm)⟩ | exact ⟨wsR_at2 (by assumption) (by k_asm), wsR_at2 (by assumption) (by k_asm)⟩); (case hd => ((try dsimp only [arC]); omega)); (case hu => (have hcL9 := cLine_is; (try dsimp only [arC]); omega))); intro v' h' tk' F' N' kp' sz' q'; obtain ⟨a', vs', n', e', g', ha', ht'⟩ := q'; subst e'; clear kp' sz' g')
  | (k_dflt (refine' useC (t_notEq _ _ _ _ _) ?B ?F ?X ?N ?T ?hA ?hf ?hke ?hp ?hd ?hu ?_; (case B => assumption); (case F => k_asm); (case X => assumption); (case N => k_asm); (case T => assumption); (case hA => exact rfl); (case hf => exact rfl); (case hke => exact rfl); (case hp => first | exact ⟨wsR_at (by assumption) (by k_asm), wsR_at (by assumption) (by k_asm)⟩ | exact ⟨wsR_at2 (by assumption) (by k_asm), wsR_at2 (by assumption) (by k_asm)⟩); (case hd => ((try dsimp only [arC]); omega)); (case hu => (have hcL9 := cLine_is; (try dsimp only [arC]); omega))); intro v' h' tk' F' N' kp' sz' q'; obtain ⟨a', vs', n', e', g', ha', ht'⟩ := q'; subst e'; clear kp' sz' g')
  | (k_dflt (refine' useC (t_equalE _ _ _ _ _ _ ?he) ?B ?F ?X ?N ?T ?hA ?hf ?hke ?hp ?hd ?hu ?_; (case B => assumption); (case F => k_asm); (case X => assumption); (case N => k_asm); (case T => assumption); (case hA => exact rfl); (case hf => exact rfl); (case hke => exact rfl); (case hp => first | exact ⟨wsR_at (by assumption) (by k_asm), wsR_at (by assumption) (by k_asm)⟩ | exact ⟨wsR_at2 (by assumption) (by k_asm), wsR_at2 (by assumption) (by k_asm)⟩); (case hd => ((try dsimp only [arC]); omega)); (case hu => (have hcL9 := cLine_is; (try dsimp only [arC]); omega)); (case he => assumption)); intro v' h' tk' F' N' kp' sz' q'; subst q'; clear kp' sz')
  | (k_dflt (refine' useC (t_lessE _ _ _ _ _ _ ?he) ?B ?F ?X ?N ?T ?hA ?hf ?hke ?hp ?hd ?hu ?_; (case B => assumption); (case F => k_asm); (case X => assumption); (case N => k_asm); (case T => assumption); (case hA => exact rfl); (case hf => exact rfl); (case hke => exact rfl); (case hp => first | exact ⟨wsR_at (by assumption) (by k_asm), wsR_at (by assumption) (by k_asm)⟩ | exact ⟨wsR_at2 (by assumption) (by k_asm), wsR_at2 (by assumption) (by k_asm)⟩); (case hd => ((try dsimp only [arC]); omega)); (case hu => (have hcL9 := cLine_is; (try dsimp only [arC]); omega)); (case he => assumption)); intro v' h' tk' F' N' kp' sz' q'; subst q'; clear kp' sz')))
  (k_with "compareOp NotEq ref ref" => (k_here; k_dflt (refine' ne_same ?a9 ?b9 ?c9 ?d9 ?e9 ?f9 ?_; (case a9 => assumption); (case b9 => assumption); (case c9 => k_asm); (case d9 => assumption); (case e9 => assumption); (case f9 => (have hcL9 := cLine_is; (try dsimp only [arC, Around.deeper]); omega)))))
  (k_with "compareOp Eq ref ref" => (k_here; first
  | (k_dflt (refine' eq_nilE ?a9 ?c9 ?d9 ?e9 ?f9 ?_; (case d9 => assumption); (case e9 => assumption); (case c9 => k_asm); (case a9 => assumption); (case f9 => (have hcL9 := cLine_is; (try dsimp only [arC, Around.deeper]); omega))))
  | (k_dflt (refine' eq_nilE2 ?a9 ?c9 ?d9 ?e9 ?f9 ?_; (case d9 => assumption); (case e9 => assumption); (case c9 => k_asm); (case a9 => assumption); (case f9 => (have hcL9 := cLine_is; (try dsimp only [arC, Around.deeper]); omega))))))
  k_steps
  all_goals (try k_data)
  (rename Fr _ _ _ _ => FE; rename News _ _ _ _ => NE)
  exact h _ _ (unpin0' (unpin0' (unpin0' (unpin0' FE m4) m3) m2) m1) NE
theorem seg_if2 (w : World) (p : Program) (loose : List Str) (mean : ExcName → Option Value) (mg mb : Str → Option Value) (dp un : Nat) (gd : Option (List Code)) (outer : List Env) (A₀ : Around) (base g : Heap) (L : Addr) (s : Shared) (m : Str → Option Value) (nw : List (Addr × Obj)) (Q : Flow → Shared → Prop) (E : Value → Shared → Prop)
    (x y : Addr) (W V : Ws) (D3 : Addr) (us : List Value) (j3 : Nat) (e9 : Bool)
    (B : Below A₀ base outer g) (X : (Mine.hd.heap_1 w.params).In g) (T : Top p loose mean mg mb g) (hd : dp + 40 < recursionLimit) (hu : un + 400 < cLine)
    (hx : WsR nw x W) (hy : WsR nw y V) (F : Fr g L s.heap m) (N : News g L s.heap nw) (m1 : m (Str.ofString "here") = some (.ref x)) (m2 : m (Str.ofString "there") = some (.ref y))
    (m3 : m (Str.ofString "unlike") = some (.ref D3)) (d3 : (D3, PySem.W.listOf us.toArray j3) ∈ nw) (t3 : TripL nw us (witS (fun a b => decide (a ≠ b)) W V (mostS W V).toNat)) (he1 : decide (W.cnt = V.cnt ∧ W.b = V.b) = e9) (he2 : decide (witS (fun a b => decide (a ≠ b)) W V (mostS W V).toNat = []) = e9)
    (h : ∀ h' tk', Fr g L h' m → News g L h' nw → Q .next { s with heap := h', toks := tk' }) :
    wpAny (model PySem.Challenge.rw_pe0269_01.row.prog w) ((arC dp un gd outer).deeper (lawEnv L)) (exec (tst 13) (lawEnv L)) Q E s := by
  revert X
  k_fill
  intro X
  have q2 : lawScope = lawScope := rfl
  conv at q2 => rhs; whnf
  (try dsimp only at q2)
  have q3 : tst 13 = tst 13 := rfl
  conv at q3 => rhs; whnf
  (try dsimp only at q3)
  unfold lawEnv
  rw [q2, q3]
  clear q2 q3
  have hx0 := hx
  have hy0 := hy
  obtain ⟨raw1, dx1, tn1, tc1, vs1, a1, a2, a3, a4, a5, b1, b2, b3, b4, b5, c1, c2, c3, c4, e1, i1, i2, -⟩ := hx0
  obtain ⟨raw2, dx2, tn2, tc2, vs2, a6, a7, a8, a9, a10, b6, b7, b8, b9, b10, c6, c7, c8, c9, e2, i3, i4, -⟩ := hy0
  have F9 := (Mine.Fr.pin (Mine.Fr.pin (Mine.Fr.pin F (x := Str.ofString "here") (v := .ref x) m1) (x := Str.ofString "there") (v := .ref y) m2) (x := Str.ofString "unlike") (v := .ref D3) m3)
  clear F
  k_with_none
  (k_with "call ref" => (k_here; first
  | (k_dflt (refine' useC (t_notLess _ _ _ _ _) ?B ?F ?X ?N ?T ?hA ?hf ?hke ?hp ?hd ?hu ?_; (case B => assumption); (case F => k_asm); (case X => assumption); (case N => k_asm); (case T => assumption); (case hA => exact rfl); (case hf => exact rfl); (case hke => exact rfl); (case hp => first | exact ⟨wsR_at (by assumption) (by k_asm), wsR_at (by assumption) (by k_asm)⟩ | exact ⟨wsR_at2 (by assumption) (by k_asm), wsR_at2 (by assumption) (by k_asm)⟩); (case hd => ((try dsimp only [arC]); omega)); (case hu => (have hcL9 := cLine_is; (try dsimp only [arC]); omega))); intro v' h' tk' F' N' kp' sz' q'; obtain ⟨a', vs', n', e', g', ha', ht'⟩ := q'; subst e'; clear kp' sz' g')
  | (k_dflt (refine' useC (t_notEq _ _ _ _ _) ?B ?F ?X ?N ?T ?hA ?hf ?hke ?hp ?hd ?hu ?_; (case B => assumption); (case F => k_asm); (case X => assumption); (case N => k_asm); (case T => assumption); (case hA => exact rfl); (case hf => exact rfl); (case hke => exact rfl); (case hp => first | exact ⟨wsR_at (by assumption) (by k_asm), wsR_at (by assumption) (by k_asm)⟩ | exact ⟨wsR_at2 (by assumption) (by k_asm), wsR_at2 (by assumption) (by k_asm)⟩); (case hd => ((try dsimp only [arC]); omega)); (case hu => (have hcL9 := cLine_is; (try dsimp only [arC]); omega))); intro v' h' tk' F' N' kp' sz' q'; obtain ⟨a', vs', n', e', g', ha', ht'⟩ := q'; subst e'; clear kp' sz' g')
  | (k_dflt (refine' useC (t_equalE _ _ _ _ _ _ ?he) ?B ?F ?X ?N ?T ?hA ?hf ?hke ?hp ?hd ?hu ?_; (case B => assumption); (case F => k_asm); (case X => assumption); (case N => k_asm); (case T => assumption); (case hA => exact rfl); (case hf => exact rfl); (case hke => exact rfl); (case hp => first | exact ⟨wsR_at (by assumption) (by k_asm), wsR_at (by assumption) (by k_asm)⟩ | exact ⟨wsR_at2 (by assumption) (by k_asm), wsR_at2 (by assumption) (by k_asm)⟩); (case hd => ((try dsimp only [arC]); omega)); (case hu => (have hcL9 := cLine_is; (try dsimp only [arC]); omega)); (case he => assumption)); intro v' h' tk' F' N' kp' sz' q'; subst q'; clear kp' sz')
  | (k_dflt (refine' useC (t_lessE _ _ _ _ _ _ ?he) ?B ?F ?X ?N ?T ?hA ?hf ?hke ?hp ?hd ?hu ?_; (case B => assumption); (case F => k_asm); (case X => assumption); (case N => k_asm); (case T => assumption); (case hA => exact rfl); (case hf => exact rfl); (case hke => exact rfl); (case hp => first | exact ⟨wsR_at (by assumption) (by k_asm), wsR_at (by assumption) (by k_asm)⟩ | exact ⟨wsR_at2 (by assumption) (by k_asm), wsR_at2 (by assumption) (by k_asm)⟩); (case hd => ((try dsimp only [arC]); omega)); (case hu => (have hcL9 := cLine_is; (try dsimp only [arC]); omega)); (case he => assumption)); intro v' h' tk' F' N' kp' sz' q'; subst q'; clear kp' sz')))
  (k_with "compareOp NotEq ref ref" => (k_here; k_dflt (refine' ne_same ?a9 ?b9 ?c9 ?d9 ?e9 ?f9 ?_; (case a9 => assumption); (case b9 => assumption); (case c9 => k_asm); (case d9 => assumption); (case e9 => assumption); (case f9 => (have hcL9 := cLine_is; (try dsimp only [arC, Around.deeper]); omega)))))
  (k_with "compareOp Eq ref ref" => (k_here; first
  | (k_dflt (refine' eq_nilE ?a9 ?c9 ?d9 ?e9 ?f9 ?_; (case d9 => assumption); (case e9 => assumption); (case c9 => k_asm); (case a9 => assumption); (case f9 => (have hcL9 := cLine_is; (try dsimp only [arC, Around.deeper]); omega))))
  | (k_dflt (refine' eq_nilE2 ?a9 ?c9 ?d9 ?e9 ?f9 ?_; (case d9 => assumption); (case e9 => assumption); (case c9 => k_asm); (case a9 => assumption); (case f9 => (have hcL9 := cLine_is; (try dsimp only [arC, Around.deeper]); omega))))))
  k_steps
  all_goals (try k_data)
  all_goals try exact absurd (by assumption : (e9 != e9) = true) (by simp)
  (rename Fr _ _ _ _ => FE; rename News _ _ _ _ => NE)
  exact h _ _ (unpin0' (unpin0' (unpin0' FE m3) m2) m1) fun q hq => NE q (.tail _ hq)
theorem seg_if3 (w : World) (p : Program) (loose : List Str) (mean : ExcName → Option Value) (mg mb : Str → Option Value) (dp un : Nat) (gd : Option (List Code)) (outer : List Env) (A₀ : Around) (base g : Heap) (L : Addr) (s : Shared) (m : Str → Option Value) (nw : List (Addr × Obj)) (Q : Flow → Shared → Prop) (E : Value → Shared → Prop)
    (x y : Addr) (W V : Ws) (D1 D2 : Addr) (hs ls : List Value) (j1 j2 : Nat) (e8 e9 : Bool) (l1 l2 : List (Int × Int × Int))
    (B : Below A₀ base outer g) (X : (Mine.hd.heap_1 w.params).In g) (T : Top p loose mean mg mb g) (hd : dp + 40 < recursionLimit) (hu : un + 400 < cLine)
    (hx : WsR nw x W) (hy : WsR nw y V) (F : Fr g L s.heap m) (N : News g L s.heap nw) (m1 : m (Str.ofString "here") = some (.ref x)) (m2 : m (Str.ofString "there") = some (.ref y))
    (m3 : m (Str.ofString "high") = some (.ref D1)) (m4 : m (Str.ofString "low") = some (.ref D2)) (d1 : (D1, PySem.W.listOf hs.toArray j1) ∈ nw) (d2 : (D2, PySem.W.listOf ls.toArray j2) ∈ nw) (t1 : TripL nw hs l1) (t2 : TripL nw ls l2) (he1 : lessS W V = e8) (he2 : decide (l1 = []) = e8) (he3 : lessS V W = e9) (he4 : decide (l2 = []) = e9)
    (h : ∀ h' tk', Fr g L h' m → News g L h' nw → Q .next { s with heap := h', toks := tk' }) :
    wpAny (model PySem.Challenge.rw_pe0269_01.row.prog w) ((arC dp un gd outer).deeper (lawEnv L)) (exec (tst 14) (lawEnv L)) Q E s := by
  revert X
  k_fill
  intro X
  have q2 : lawScope = lawScope := rfl
  conv at q2 => rhs; whnf
  (try dsimp only at q2)
  have q3 : tst 14 = tst 14 := rfl
  conv at q3 => rhs; whnf
  (try dsimp only at q3)
  unfold lawEnv
  rw [q2, q3]
  clear q2 q3
  have hx0 := hx
  have hy0 := hy
  obtain ⟨raw1, dx1, tn1, tc1, vs1, a1, a2, a3, a4, a5, b1, b2, b3, b4, b5, c1, c2, c3, c4, e1, i1, i2, -⟩ := hx0
  obtain ⟨raw2, dx2, tn2, tc2, vs2, a6, a7, a8, a9, a10, b6, b7, b8, b9, b10, c6, c7, c8, c9, e2, i3, i4, -⟩ := hy0
  have F9 := (Mine.Fr.pin (Mine.Fr.pin (Mine.Fr.pin (Mine.Fr.pin F (x := Str.ofString "here") (v := .ref x) m1) (x := Str.ofString "there") (v := .ref y) m2) (x := Str.ofString "high") (v := .ref D1) m3) (x := Str.ofString "low") (v := .ref D2) m4)
  clear F
  k_with_none
  (k_with "call ref" => (k_here; first
  | (k_dflt (refine' useC (t_notLess _ _ _ _ _) ?B ?F ?X ?N ?T ?hA ?hf ?hke ?hp ?hd ?hu ?_; (case B => assumption); (case F => k_asm); (case X => assumption); (case N => k_asm); (case T => assumption); (case hA => exact rfl); (case hf => exact rfl); (case hke => exact rfl); (case hp => first | exact ⟨wsR_at (by assumption) (by k_asm), wsR_at (by assumption) (by k_asm)⟩ | exact ⟨wsR_at2 (by assumption) (by k_asm), wsR_at2 (by assumption) (by k_asm)⟩); (case hd => ((try dsimp only [arC]); omega)); (case hu => (have hcL9 := cLine_is; (try dsimp only [arC]); omega))); intro v' h' tk' F' N' kp' sz' q'; obtain ⟨a', vs', n', e', g', ha', ht'⟩ := q'; subst e'; clear kp' sz' g')
  | (k_dflt (refine' useC (t_notEq _ _ _ _ _) ?B ?F ?X ?N ?T ?hA ?hf ?hke ?hp ?hd ?hu ?_; (case B => assumption); (case F => k_asm); (case X => assumption); (case N => k_asm); (case T => assumption); (case hA => exact rfl); (case hf => exact rfl); (case hke => exact rfl); (case hp => first | exact ⟨wsR_at (by assumption) (by k_asm), wsR_at (by assumption) (by k_asm)⟩ | exact ⟨wsR_at2 (by assumption) (by k_asm), wsR_at2 (by assumption) (by k_asm)⟩); (case hd => ((try dsimp only [arC]); omega)); (case hu => (have hcL9 := cLine_is; (try dsimp only [arC]); omega))); intro v' h' tk' F' N' kp' sz' q'; obtain ⟨a', vs', n', e', g', ha', ht'⟩ := q'; subst e'; clear kp' sz' g')
  | (k_dflt (refine' useC (t_equalE _ _ _ _ _ _ ?he) ?B ?F ?X ?N ?T ?hA ?hf ?hke ?hp ?hd ?hu ?_; (case B => assumption); (case F => k_asm); (case X => assumption); (case N => k_asm); (case T => assumption); (case hA => exact rfl); (case hf => exact rfl); (case hke => exact rfl); (case hp => first | exact ⟨wsR_at (by assumption) (by k_asm), wsR_at (by assumption) (by k_asm)⟩ | exact ⟨wsR_at2 (by assumption) (by k_asm), wsR_at2 (by assumption) (by k_asm)⟩); (case hd => ((try dsimp only [arC]); omega)); (case hu => (have hcL9 := cLine_is; (try dsimp only [arC]); omega)); (case he => assumption)); intro v' h' tk' F' N' kp' sz' q'; subst q'; clear kp' sz')
  | (k_dflt (refine' useC (t_lessE _ _ _ _ _ _ ?he) ?B ?F ?X ?N ?T ?hA ?hf ?hke ?hp ?hd ?hu ?_; (case B => assumption); (case F => k_asm); (case X => assumption); (case N => k_asm); (case T => assumption); (case hA => exact rfl); (case hf => exact rfl); (case hke => exact rfl); (case hp => first | exact ⟨wsR_at (by assumption) (by k_asm), wsR_at (by assumption) (by k_asm)⟩ | exact ⟨wsR_at2 (by assumption) (by k_asm), wsR_at2 (by assumption) (by k_asm)⟩); (case hd => ((try dsimp only [arC]); omega)); (case hu => (have hcL9 := cLine_is; (try dsimp only [arC]); omega)); (case he => assumption)); intro v' h' tk' F' N' kp' sz' q'; subst q'; clear kp' sz')))
  (k_with "compareOp NotEq ref ref" => (k_here; k_dflt (refine' ne_same ?a9 ?b9 ?c9 ?d9 ?e9 ?f9 ?_; (case a9 => assumption); (case b9 => assumption); (case c9 => k_asm); (case d9 => assumption); (case e9 => assumption); (case f9 => (have hcL9 := cLine_is; (try dsimp only [arC, Around.deeper]); omega)))))
  (k_with "compareOp Eq ref ref" => (k_here; first
  | (k_dflt (refine' eq_nilE ?a9 ?c9 ?d9 ?e9 ?f9 ?_; (case d9 => assumption); (case e9 => assumption); (case c9 => k_asm); (case a9 => assumption); (case f9 => (have hcL9 := cLine_is; (try dsimp only [arC, Around.deeper]); omega))))
  | (k_dflt (refine' eq_nilE2 ?a9 ?c9 ?d9 ?e9 ?f9 ?_; (case d9 => assumption); (case e9 => assumption); (case c9 => k_asm); (case a9 => assumption); (case f9 => (have hcL9 := cLine_is; (try dsimp only [arC, Around.deeper]); omega))))))
  k_steps
  all_goals (try k_data)
  all_goals try exact absurd (by assumption : (e9 != e9) = true) (by simp)
  all_goals try exact absurd (by assumption : (e8 != e8) = true) (by simp)
  (rename Fr _ _ _ _ => FE; rename News _ _ _ _ => NE)
  exact h _ _ (unpin0' (unpin0' (unpin0' (unpin0' FE m4) m3) m2) m1) fun q hq => NE q (.tail _ (.tail _ hq))
end
section
theorem flush_Lv : (1 : Nat) = 1 := by
  w_top off
  k_with_none
  first | walk1 | rfl
/-- format_witnesses called on a list of triples of the ledger -/
theorem useF {w : World} {r : Addr} {l : List (Int × Int × Int)} {vs : List Value} {n : Nat} {p : Program} {loose : List Str} {mean : ExcName → Option Value} {mg mb : Str → Option Value}
    {A A₀ : Around} {base h₀ : Heap} {outer : List Env} {env : Env} {L : Addr} {ps : Array Value} {m : Str → Option Value} {nw : List (Addr × Obj)} {s : Shared} {Q E : Value → Shared → Prop} {dp un : Nat} {gd : Option (List Code)}
    (B : Below A₀ base outer h₀) (F : Fr h₀ L s.heap m) (X : (Mine.hd.heap_1 w.params).In h₀) (N : News h₀ L s.heap ((124, tabObj ps) :: nw)) (T : Top p loose mean mg mb h₀)
    (hA : A = arC dp un gd (env :: outer)) (hf : env.frame = some L) (hke : env.scope.kind = .function) (hd : dp + 1 < recursionLimit) (hu : un + 40 < cLine) (hG : AllBare s.gens) (hoff : ∀ q ∈ nw, q.1 ≠ 124) (hps : ps = #[] ∨ ∃ c' : Addr, ps = #[rawInt 144, rawInt 13, .ref c'])
    (hr : (r, PySem.W.listOf vs.toArray n) ∈ nw) (ht : TripL nw vs l) (hlen : l.length ≤ 8) (hb : ∀ t ∈ l, 0 ≤ t.1 ∧ t.1 < 10)
    (h : ∀ t h' tk' gs' ps', AllBare gs' → Fr h₀ L h' m → News h₀ L h' ((124, tabObj ps') :: nw) → (ps' = #[] ∨ ∃ c' : Addr, ps' = #[rawInt 144, rawInt 13, .ref c']) → Q (.str (fmtS l) t) { s with heap := h', toks := tk', gens := gs' }) :
    wpAny (model PySem.Challenge.rw_pe0269_01.row.prog w) A (call (.ref 129) [.ref r]) Q E s := by
  subst hA
  have B2 := pushX B F hf hke
  have hP := N _ (.head _)
  have hfl : ∀ a ∈ [(124 : Addr)], ∃ o vs, s.heap.get? a = some o ∧ o.data = .fields vs := fun a ha => by rw [List.mem_singleton.mp ha]; exact ⟨_, _, hP.1, rfl⟩
  have hno : ∀ a ∈ [(124 : Addr)], a ≠ L ∧ h₀.get? a = none := fun a ha => by rw [List.mem_singleton.mp ha]; exact hP.2
  have st : ∀ b o, h₀.get? b = some o → (hideAll s.heap [124]).get? b = some o := fun b o e => hideAll_get _ (F.keep b o e) fun hm => by rw [(hno b hm).2] at e; cases e
  have gN : ∀ q ∈ nw, (hideAll s.heap [124]).get? q.1 = some q.2 := fun q hq => hideAll_get _ (N q (.tail _ hq)).1 fun hm => hoff q hq (List.mem_singleton.mp hm)
  have tr : Trip (hideAll s.heap [124]) vs l := by
    clear h hr
    induction ht with
    | nil => exact .nil
    | cons hm _ ih => exact .cons ⟨_, gN _ hm, rfl, _, rfl⟩ (ih (by simp only [List.length_cons] at hlen; omega) fun t ht => hb t (.tail _ ht))
  obtain ⟨oL, es, ep, hL, hLd, hLk, hLf⟩ := F.ns
  have gL : (hideAll s.heap [124]).get? L = some oL := hideAll_get _ hL fun hm => (hno L hm).1 rfl
  refine wpAny_call (t_fmt w r l hlen hb p loose mean mg mb dp un gd (env :: outer) (A₀.deeper env) (hideAll base [124]) (hideAll s.heap [124]) s _ (below_hide B2 hfl) (X.keeps st) (T.keeps st) (fun b o e => of_hideAll _ e) (Nat.le_of_eq (hideAll_size _ _)) hG
    ⟨⟨vs, n, gN _ hr, tr⟩, hideAll_none _ (.head _), ps, hP.1, hps⟩ hd hu fun v h' tk' gs' hG' k z q => ?_)
  obtain ⟨⟨t, rfl⟩, ps', hP', hps'⟩ := q
  exact h t h' tk' gs' ps' hG' ⟨⟨oL, es, ep, k _ _ gL, hLd, hLk, hLf⟩, fun b o e => k b o (st b o e), F.above⟩ (List.forall_mem_cons.mpr ⟨⟨hP', hP.2⟩, fun q hq => ⟨k _ _ (gN q hq), (N q (.tail _ hq)).2⟩⟩) hps'
end
section
theorem flush_Ln : (1 : Nat) = 1 := by
  w_top off
  k_with_none
  first | walk1 | rfl
theorem pick_tab {g h : Heap} {L P : Addr} {o : Obj} {nw : List (Addr × Obj)} (N : News g L h nw) (hm : (P, o) ∈ nw) : News g L h ((P, o) :: nw.filter fun q => decide (@Ne Nat q.1 P)) ∧ (∀ q ∈ nw.filter (fun q => decide (@Ne Nat q.1 P)), q.1 ≠ P) ∧ ∀ q ∈ nw, q.2 ≠ o → q ∈ nw.filter fun q => decide (@Ne Nat q.1 P) := by
  refine ⟨List.forall_mem_cons.mpr ⟨N _ hm, fun q hq => N q (List.mem_filter.mp hq).1⟩, fun q hq => of_decide_eq_true (List.mem_filter.mp hq).2, fun q hq hne => List.mem_filter.mpr ⟨hq, decide_eq_true fun e => hne ?_⟩⟩
  have e1 := (N q hq).1
  have e : q.1 = P := e
  rw [e, (N _ hm).1] at e1
  exact (Option.some.inj e1).symm
theorem seq_ne_tab {c : Value} {xs ps : Array Value} {n : Nat} : ({ cls := c, data := .seq xs n } : Obj) ≠ tabObj ps := fun e => by
  have := congrArg Obj.data e
  cases this
theorem TripL.pick {ps : Array Value} {tl tl' : List (Addr × Obj)} {vs : List Value} {l : List (Int × Int × Int)} (h : TripL tl vs l) (k : ∀ q ∈ tl, q.2 ≠ tabObj ps → q ∈ tl') : TripL tl' vs l := by
  induction h with
  | nil => exact .nil
  | cons hm _ ih => exact .cons (k _ hm seq_ne_tab) ih
theorem compTup_end {h₀ h' : Heap} {L I C D T : Addr} {m : Str → Option Value} {s : Shared} {oI oC oD o : Obj} {tk' : Nat} {nw : List (Addr × Obj)} {P : List (Addr × Obj) → Prop} (F : Fr h₀ L h' m) (N : News h₀ L h' ((T, o) :: (I, oI) :: (C, oC) :: (D, oD) :: nw)) (off : LCg.Off3 I C D nw) (l1 : @LT.lt Nat _ I T ∧ @LT.lt Nat _ C T ∧ @LT.lt Nat _ D T ∧ AllLt T nw) (p : P ((T, o) :: nw)) :
    CompPost h₀ L I C D m s oI oC oD P { s with heap := h', toks := tk' } :=
  ⟨h', tk', (T, o) :: nw, rfl, F, fun q hq => N q (by
    rcases List.mem_cons.mp hq with h | hq
    · rw [h]; exact .tail _ (.head _)
    rcases List.mem_cons.mp hq with h | hq
    · rw [h]; exact .tail _ (.tail _ (.head _))
    rcases List.mem_cons.mp hq with h | hq
    · rw [h]; exact .tail _ (.tail _ (.tail _ (.head _)))
    rcases List.mem_cons.mp hq with h | hq
    · rw [h]; exact .head _
    · exact .tail _ (.tail _ (.tail _ (.tail _ hq)))), ⟨⟨Nat.ne_of_gt l1.1, Nat.ne_of_gt l1.2.1, Nat.ne_of_gt l1.2.2.1⟩, off⟩, p⟩
def allS (k : Nat) : List (Int × Int × Int) := (rangeKs 1 k).map fun t => (t, 0, 0)
theorem allS_succ (k : Nat) : allS (k + 1) = allS k ++ [((1 + k : Int), 0, 0)] := by
  unfold allS; rw [rangeKs_succ, List.map_append]; rfl
local macro_rules | `(tactic| walk_at "CompSrc") => `(tactic| refine stop9 ?_)
theorem seg_words (w : World) (p : Program) (loose : List Str) (mean : ExcName → Option Value) (mg mb : Str → Option Value) (dp un : Nat) (gd : Option (List Code)) (outer : List Env) (A₀ : Around) (base g : Heap) (L : Addr) (s : Shared) (m : Str → Option Value) (nw : List (Addr × Obj)) (Q : Flow → Shared → Prop) (E : Value → Shared → Prop)
    (k : Nat) (tm : Tok) (ps : Array Value)
    (B : Below A₀ base outer g) (X : (Mine.hd.heap_1 w.params).In g) (T : Top p loose mean mg mb g) (hd : dp + 40 < recursionLimit) (hu : un + 400 < cLine) (hk : k ≤ 8) (hG : AllBare s.gens)
    (F : Fr g L s.heap m) (N : News g L s.heap nw) (hm : m (Str.ofString "most") = some (.int k tm)) (mP : (124, tabObj ps) ∈ nw) (hps : ps = #[] ∨ ∃ c' : Addr, ps = #[rawInt 144, rawInt 13, .ref c'])
    (h : ∀ t h' tk' gs' ps', AllBare gs' → Fr g L h' (fun z => if z = Str.ofString "words" then some (.str (fmtS (allS k)) t) else m z) → News g L h' ((124, tabObj ps') :: nw.filter fun q => decide (@Ne Nat q.1 124)) → (ps' = #[] ∨ ∃ c' : Addr, ps' = #[rawInt 144, rawInt 13, .ref c']) → Q .next { s with heap := h', toks := tk', gens := gs' }) :
    wpAny (model PySem.Challenge.rw_pe0269_01.row.prog w) ((arC dp un gd outer).deeper (lawEnv L)) (exec (tst 15) (lawEnv L)) Q E s := by
  revert X
  k_fill
  intro X
  have q2 : lawScope = lawScope := rfl
  conv at q2 => rhs; whnf
  (try dsimp only at q2)
  have q3 : tst 15 = tst 15 := rfl
  conv at q3 => rhs; whnf
  (try dsimp only at q3)
  unfold lawEnv
  rw [q2, q3]
  clear q2 q3
  have F9 := Mine.Fr.pin F hm
  clear F
  k_with_none
  (k_with "eval ListComp" => (k_here; k_dflt (refine LCg.ListComp_U (cl := []) (F₀ := by k_asm) (by with_unfolding_all rfl) (by decide) (by rfl) (by decide) (by rfl) ?_)))
  (k_with "call ref" => (k_here; (k_dflt (refine' useF ?B ?F ?X ?N ?T ?hA ?hf ?hke ?hd ?hu ?hG ?ho ?hp ?hr ?ht ?hl ?hb ?_; (case N => assumption); (case F => k_asm); (case B => assumption); (case X => assumption); (case T => assumption); (case hA => exact rfl); (case hf => exact rfl); (case hke => exact rfl); (case hd => ((try dsimp only [arC]); omega)); (case hu => (have hcL9 := cLine_is; (try dsimp only [arC]); omega)); (case hG => assumption); (case ho => assumption); (case hp => assumption); (case hr => assumption); (case ht => assumption); (case hl => assumption); (case hb => assumption))); intro t' h' tk' gs' ps' G' F' N' P'))
  k_steps
  all_goals (try k_data)
  unfold Stop9
  ((with_reducible rename IsRange _ _ _ _ _ _ _ _ => rgX); k_dflt (refine' comp_range (n := k) (fun i ys nw' => (∀ q ∈ nw, q ∈ nw') ∧ TripL nw' ys (allS i)) rfl ?zF ?zN rgX ?z1 ?z2 ?z3 ⟨fun _ hq => hq, .nil⟩ ?_ ?_; (case zF => k_asm); (case zN => k_asm); (case z1 => omega); (case z2 => omega); (case z3 => omega)))
  · skip
    rintro i v I oI C oC D m₂ ys nw' h1 tk1 E' hi ⟨t, rfl⟩ ⟨sub, hys⟩ hC hx F' N' off ne
    k_steps
    all_goals (try k_data)
    exact compTup_end (by k_asm) (by assumption) off (by assumption) ⟨fun q hq => .tail _ (sub q hq), by rw [allS_succ]; exact (hys.mono fun _ hp => .tail _ hp).snoc (.head _)⟩
  · rintro h1 ys nw' ⟨sub, hys⟩
    intro D h2 tk2 F2 N2 off2
    obtain ⟨NP, offP, pk⟩ := pick_tab N2 (.tail _ (sub _ mP))
    have rP := pk _ (.head _) seq_ne_tab
    have tP := hys.pick (ps := ps) fun q hq => pk q (.tail _ hq)
    have subP : ∀ q ∈ nw.filter (fun q => decide (@Ne Nat q.1 124)), q ∈ ((D, LCg.lst ys) :: nw').filter fun q => decide (@Ne Nat q.1 124) := fun q hq => List.mem_filter.mpr ⟨.tail _ (sub q (List.mem_filter.mp hq).1), (List.mem_filter.mp hq).2⟩
    have la : (allS k).length ≤ 8 := by simp [allS, rangeKs]; exact hk
    have lb : ∀ t ∈ allS k, 0 ≤ t.1 ∧ t.1 < 10 := by
      intro t ht
      obtain ⟨u, hu, rfl⟩ := List.mem_map.mp ht
      obtain ⟨j, hj, rfl⟩ := List.mem_map.mp hu
      have := List.mem_range.mp hj
      show 0 ≤ (1 : Int) + j ∧ (1 : Int) + j < 10
      omega
    generalize ((D, LCg.lst ys) :: nw').filter (fun q => decide (@Ne Nat q.1 124)) = nwF at *
    clear N2
    k_steps
    all_goals (try k_data)
    (rename Fr _ _ _ _ => FE; rename News _ _ _ _ => NE)
    refine h _ _ _ _ _ (by assumption) (unpin FE hm) (fun q hq => NE q ?_) (by assumption)
    rcases List.mem_cons.mp hq with rfl | hq
    · exact .head _
    · exact .tail _ (subP q hq)
end
section
theorem flush_Gl : (1 : Nat) = 1 := by
  w_top off
  k_with_none
  first | walk1 | rfl
section
variable {prog : Program} {w : World} {A : Around} {E : Value → Shared → Prop} {s : Shared} {env : Env} {h₀ : Heap} {target : Expr} {body : List Stmt} {Q : Flow → Shared → Prop}
/-- a turn's end, generators made -/
def GStep (h₀ : Heap) (L : Addr) (wr : List Addr) (own : List (Addr × Obj)) (Jn : (Str → Option Value) → List (Addr × Obj) → Prop) (s : Shared) (f : Flow) (s₂ : Shared) : Prop :=
  f = .next ∧ ∃ h' tk gs m₂ news₂, s₂ = { s with heap := h', toks := tk, gens := gs } ∧ AllBare gs ∧ Fr h₀ L h' m₂ ∧ News h₀ L h' (own ++ news₂) ∧ (∀ p ∈ news₂, p.1 ∉ wr) ∧ Jn m₂ news₂
theorem gen_loop {R : Result → Shared → Prop} {I : Addr} {fp wr : List Addr} {n : Nat} {P Md : Nat → Value → Heap → Prop} {St : Nat → Heap → Prop} {m : Str → Option Value} {news : List (Addr × Obj)} (W : KTurns prog w A target I fp wr n P Md St)
    (hLf : env.locals ∉ fp) (hwr : ∀ b ∈ wr, h₀.get? b = none) (hnw : ∀ p ∈ news, p.1 ∉ wr) (hst : St 0 s.heap) (F : Fr h₀ env.locals s.heap m) (N : News h₀ env.locals s.heap news) (hG : AllBare s.gens)
    (J : Nat → (Str → Option Value) → List (Addr × Obj) → Prop) (h0 : J 0 m news)
    (step : ∀ i v m₁ news₁ h₁ tk₁ gs₁ own, i < n → P i v h₁ → J i m₁ news₁ → AllBare gs₁ → (∀ p ∈ news₁, p.1 ∉ wr) → (∀ p ∈ own, p.1 ∈ fp) → (∀ p ∈ own, h₁.get? p.1 = some p.2) → (∀ b ∈ fp, h₀.get? b = none → ∀ o, h₁.get? b = some o → (b, o) ∈ own) → St (i + 1) h₁ →
      Fr h₀ env.locals h₁ m₁ → News h₀ env.locals h₁ (own ++ news₁) →
      wpAny (model prog w) A (assign target env v) (fun _ s₂ => wpAny (model prog w) A (execs body env)
        (GStep h₀ env.locals wr own (J (i + 1)) s) (notedBy (model prog w) A env fun e s' => R (.error e) s') s₂) (notedBy (model prog w) A env fun e s' => R (.error e) s') { s with heap := h₁, toks := tk₁, gens := gs₁ })
    (hR : ∀ h' tk gs m' news', AllBare gs → Fr h₀ env.locals h' m' → News h₀ env.locals h' news' → (∀ p ∈ news', p.1 ∉ wr) → J n m' news' → R (.ok .next) { s with heap := h', toks := tk, gens := gs }) :
    codeAny (model prog w) A (.forLoop target (.ref I) body [] env) R s := by
  have hLw : env.locals ∉ wr := fun h => hLf (W.sub _ h)
  have old : ∀ b o, h₀.get? b = some o → b ∉ wr := fun b o e hb => by rw [hwr b hb] at e; cases e
  refine codeAny_forLoop_any
    (fun k s' => ∃ h' tk gs m' news' i, s' = { s with heap := h', toks := tk, gens := gs } ∧ AllBare gs ∧ St i h' ∧ Fr h₀ env.locals h' m' ∧ News h₀ env.locals h' news' ∧ (∀ p ∈ news', p.1 ∉ wr) ∧ J i m' news' ∧ i ≤ n ∧ k = n + 1 - i) ?_ (n + 1)
    ⟨s.heap, s.toks, s.gens, m, news, 0, rfl, hG, hst, F, N, hnw, h0, Nat.zero_le _, rfl⟩
  rintro k s' ⟨h', tk, gs, m', news', i, rfl, hgs, hst', F', N', hnw', hJ, hi, rfl⟩
  have next : ∀ h₁ : Heap, (∀ b o, b ∉ wr → h'.get? b = some o → h₁.get? b = some o) → Fr h₀ env.locals h₁ m' ∧ News h₀ env.locals h₁ news' := fun h₁ hk₁ =>
    ⟨⟨F'.ns.at' fun o e => hk₁ _ o hLw e, fun b o e => hk₁ b o (old b o e) (F'.keep b o e), F'.above⟩, fun p hp => ⟨hk₁ _ _ (hnw' p hp) (N' p hp).1, (N' p hp).2⟩⟩
  by_cases hlt : i < n
  · refine W.item i _ _ _ hlt hst' fun v h₁ tk₁ hMd hk₁ => ?_
    refine W.go i v _ _ _ hMd fun h₂ hP hst₂ hk₂ => ?_
    obtain ⟨F₂, N₂⟩ := next h₂ fun b o hb x => hk₂ b o hb (hk₁ b o hb x)
    have Nown : News h₀ env.locals h₂ (PyProof.Rows.ownOf h₀ fp h₂) := news_ownOf hLf
    refine wpAny_mono (step i v m' news' h₂ tk₁ gs (PyProof.Rows.ownOf h₀ fp h₂) hlt hP hJ hgs hnw' ownOf_sub (fun p hp => (Nown p hp).1) (fun b hb hn o e => mem_ownOf hb hn e) hst₂ F₂ (Nown.append N₂)) (fun _ s₂ h₂' => wpAny_mono h₂' (fun f s₃ h₃ => ?_) fun _ _ e => e) fun _ _ e => e
    obtain ⟨rfl, h₃', tk₃, gs₃, m₂, news₂, rfl, hgs₃, F₃, N₃, ha₃, hJ₃⟩ := h₃
    refine ⟨n + 1 - (i + 1), by omega, h₃', tk₃, gs₃, m₂, news₂, i + 1, rfl, hgs₃, ?_, F₃, N₃.right, ha₃, hJ₃, hlt, rfl⟩
    refine W.frame _ _ _ hst₂ fun b hb o e => ?_
    cases hn : h₀.get? b with
    | some o₀ =>
      have : o₀ = o := by have q := F₂.keep b o₀ hn; rw [e] at q; exact (Option.some.inj q).symm
      exact this ▸ F₃.keep b o₀ hn
    | none => exact (N₃ _ (List.mem_append_left _ (mem_ownOf hb hn e))).1
  · have hin : i = n := by omega
    subst hin
    refine W.done _ _ _ hst' fun h₁ tk₁ hk₁ => wpAny_execs_nil ?_
    obtain ⟨F₁, N₁⟩ := next h₁ hk₁
    exact hR h₁ tk₁ gs m' news' hgs F₁ N₁ hnw' hJ
end
section
variable {prog : Program} {w : World} {A : Around} {E : Value → Shared → Prop} {s : Shared} {env : Env} {h₀ : Heap} {target : Expr} {body : List Stmt} {Q : Flow → Shared → Prop}
/-- the loop's own claim, once its iterator is made -/
def LoopC (prog : Program) (w : World) (A : Around) (env : Env) (target : Expr) (body : List Stmt) (Q : Flow → Shared → Prop) (E : Value → Shared → Prop) (it : Value) (s₂ : Shared) : Prop :=
  codeAny (model prog w) A (.forLoop target it body [] env) (fun r s' => match r with | .ok f => Q f s' | .error e => cameBackBy (model prog w) A env E e s') s₂
theorem For_C {iter : Expr} {pos : Pos}
    (h : wpAny (model prog w) A (eval iter env) (fun xv s₁ => wpAny (model prog w) A (pyIter xv) (fun it s₂ => LoopC prog w A env target body Q E it s₂) E s₁) E s)
    (hs : ∀ x, foldedSetIterable iter env x = pure x := by intro _; rfl) :
    wpAny (model prog w) A (exec (.For target iter body [] pos) env) Q E s :=
  wpAny_For h hs
theorem iter_listG {ax : Addr} {lo : Obj} {vs : List Value} {n : Nat} {m₀ : Str → Option Value} {news : List (Addr × Obj)} (hE : PassesOwn (model prog w) A env E)
    (hh : A.handled = none) (F : Fr h₀ env.locals s.heap m₀) (N : News h₀ env.locals s.heap news) (hm : (ax, lo) ∈ news) (hc : lo.cls = .type "list") (hd : lo.data = .seq vs.toArray n) (hG : AllBare s.gens)
    (J : Nat → (Str → Option Value) → List (Addr × Obj) → Prop) (h0 : J 0 m₀ news)
    (step : ∀ i v m₁ news₁ h₁ tk₁ gs₁ own wr, i < vs.length → vs[i]? = some v → J i m₁ news₁ → AllBare gs₁ → (∀ p ∈ news₁, p.1 ∉ wr) → (∀ b ∈ wr, ∃ o, (b, o) ∈ own) → (∀ q ∈ own, ∀ d o, (d, o) ∈ news → d ≠ ax → q.1 ≠ d) → Fr h₀ env.locals h₁ m₁ → News h₀ env.locals h₁ (own ++ news₁) →
      wpAny (model prog w) A (assign target env v) (fun _ s₂ => wpAny (model prog w) A (execs body env) (GStep h₀ env.locals wr own (J (i + 1)) s) E s₂) E { s with heap := h₁, toks := tk₁, gens := gs₁ })
    (hQ : ∀ h' tk gs m' news', AllBare gs → Fr h₀ env.locals h' m' → News h₀ env.locals h' news' → J vs.length m' news' → Q .next { s with heap := h', toks := tk, gens := gs }) :
    wpAny (model prog w) A (pyIter (.ref ax)) (fun it s₂ => LoopC prog w A env target body Q E it s₂) E s := by
  have hax := N _ hm
  have hl : s.heap.IsList ax vs.toArray := ⟨lo, hax.1, hc, n, hd⟩
  have hlt : ax < s.heap.objs.size := Heap.lt_size hax.1
  have hne : ax ≠ s.heap.objs.size := Nat.ne_of_lt hlt
  refine wpAny_pyIter_list hl ?_
  unfold LoopC
  have sz : vs.toArray.size = vs.length := by simp
  refine gen_loop (s := { s with heap := s.heap.push { cls := .type "list_iterator", data := .fields #[.ref ax, .int 0 0] } }) (R := fun r s' => match r with | .ok f => Q f s' | .error e => cameBackBy (model prog w) A env E e s') (KTurns.ofWalks (Walks.list hh s.heap.objs.size ax hne vs.toArray) fun i v s Q E st q => letGo_listiter st.1 q) ?_ (fun b hb => ?_) (fun p hp hI => ?_) ?_ (F.push _) (fun p hp => ⟨Heap.get?_push_of_some _ (N p hp).1, (N p hp).2⟩) hG J h0 ?_ ?_
  · intro hI
    rcases List.mem_cons.mp hI with e | hI
    · exact absurd F.ns.lt (e ▸ Nat.lt_irrefl _)
    · exact hax.2.1 (List.mem_singleton.mp hI).symm
  · rw [List.mem_singleton.mp hb]; exact next_is_new F
  · exact absurd (Heap.lt_size (N p hp).1) ((List.mem_singleton.mp hI) ▸ Nat.lt_irrefl _)
  · exact ⟨⟨_, Heap.get?_push_size _ rfl, rfl, rfl⟩, hl.at fun o e => Heap.get?_push_of_some _ e⟩
  · intro i v m₁ news₁ h₁ tk₁ gs₁ own hi hP hJ hgs hoff hown hget hall hst F₁ N₁
    have hP' : vs.toArray[i]? = some v := hP
    refine wpAny_mono (step i v m₁ news₁ h₁ tk₁ gs₁ own [s.heap.objs.size] (by omega) (by simpa using hP') hJ hgs hoff (fun b hb => ?_) (fun q hq d o hd hne' e => ?_) F₁ N₁) (fun _ _ x => wpAny_passesOwn hE x) hE
    · rw [List.mem_singleton.mp hb]
      obtain ⟨o, ho, _⟩ := hst.1
      exact ⟨o, hall _ (.head _) (next_is_new F) o ho⟩
    · rcases List.mem_cons.mp (hown q hq) with h9 | h9
      · have := Heap.lt_size (N _ hd).1
        rw [← e, h9] at this
        exact Nat.lt_irrefl _ this
      · exact hne' (e ▸ List.mem_singleton.mp h9)
  · intro h' tk gs m' news' hgs F' N' _ hJ
    rw [sz] at hJ
    exact hQ h' tk gs m' news' hgs F' N' hJ
end
end
section
theorem flush_Gz : (1 : Nat) = 1 := by
  w_top off
  k_with_none
  first | walk1 | rfl
open PySem.F
def OwnOk (o : Obj) : Prop := o.cls ≠ .none ∧ ∀ vs qual t, o.data = .fields vs → vs[1]? ≠ some (.str qual t)
section
variable {prog : Program} {w : World} {A : Around} {E : Value → Shared → Prop} {s : Shared} {env : Env} {h₀ : Heap} {elts : List Expr} {kk : Nat} {pos : Pos} {body : List Stmt} {Q : Flow → Shared → Prop}
theorem zip2_G {l1 l2 : Addr} {lo1 lo2 : Obj} {xs ys : List Value} {n1 n2 : Nat} {m₀ : Str → Option Value} {news : List (Addr × Obj)} (hE : PassesOwn (model prog w) A env E)
    (hh : A.handled = none) (F : Fr h₀ env.locals s.heap m₀) (N : News h₀ env.locals s.heap news) (hm1 : (l1, lo1) ∈ news) (hc1 : lo1.cls = .type "list") (hd1 : lo1.data = .seq xs.toArray n1) (hm2 : (l2, lo2) ∈ news) (hc2 : lo2.cls = .type "list") (hd2 : lo2.data = .seq ys.toArray n2) (hG : AllBare s.gens)
    (J : Nat → (Str → Option Value) → List (Addr × Obj) → Prop) (h0 : J 0 m₀ news)
    (step : ∀ i T x y m₁ news₁ h₁ tk₁ gs₁ own wr, xs[i]? = some x → ys[i]? = some y → J i m₁ news₁ → AllBare gs₁ → (∀ p ∈ news₁, p.1 ∉ wr) → (∀ b ∈ wr, ∃ o, (b, o) ∈ own) → (∀ q ∈ own, OwnOk q.2) → (∀ d o, (d, o) ∈ news → d ≠ l1 → d ≠ l2 → ∀ q ∈ own, q.1 ≠ d) → Fr h₀ env.locals h₁ m₁ → News h₀ env.locals h₁ (own ++ news₁) → IsTup h₁ T #[x, y] →
      wpAny (model prog w) A (assign (.Tuple elts kk pos) env (.ref T)) (fun _ s₂ => wpAny (model prog w) A (execs body env) (GStep h₀ env.locals wr own (J (i + 1)) s) E s₂) E { s with heap := h₁, toks := tk₁, gens := gs₁ })
    (hQ : ∀ h' tk gs m' news', AllBare gs → Fr h₀ env.locals h' m' → News h₀ env.locals h' news' → J (min xs.length ys.length) m' news' → Q .next { s with heap := h', toks := tk, gens := gs }) :
    wpAny (model prog w) A (call (.type "zip") [.ref l1, .ref l2]) (fun xv s₁ => wpAny (model prog w) A (pyIter xv) (fun it s₂ => LoopC prog w A env (.Tuple elts kk pos) body Q E it s₂) E s₁) E s := by
  have hax1 := N _ hm1
  have hax2 := N _ hm2
  have hl1 : s.heap.IsList l1 xs.toArray := ⟨lo1, hax1.1, hc1, n1, hd1⟩
  have hl2 : s.heap.IsList l2 ys.toArray := ⟨lo2, hax2.1, hc2, n2, hd2⟩
  have hlt1 : l1 < s.heap.objs.size := Heap.lt_size hax1.1
  have hlt2 : l2 < s.heap.objs.size := Heap.lt_size hax2.1
  have hLs : env.locals < s.heap.objs.size := F.ns.lt
  have D : ZipApart (s.heap.objs.size + 4) (s.heap.objs.size + 2) (s.heap.objs.size + 3) s.heap.objs.size (s.heap.objs.size + 1) l1 l2 := ktu_apart _ _ _ hlt1 hlt2
  have far : ∀ b : Addr, b ∈ [s.heap.objs.size + 4, s.heap.objs.size + 3, s.heap.objs.size, s.heap.objs.size + 1] → @LE.le Nat _ s.heap.objs.size b := by
    intro b hb
    simp only [List.mem_cons, List.not_mem_nil, or_false] at hb
    rcases hb with rfl | rfl | rfl | rfl <;> (show @LE.le Nat _ _ _; omega)
  have fpn : ∀ b : Addr, @LT.lt Nat _ b s.heap.objs.size → b ≠ l1 → b ≠ l2 → b ∉ [s.heap.objs.size + 4, s.heap.objs.size + 2, s.heap.objs.size + 3, s.heap.objs.size, s.heap.objs.size + 1, l1, l2] := by
    intro b hb q1 q2 hm
    simp only [List.mem_cons, List.not_mem_nil, or_false] at hm
    rcases hm with e | e | e | e | e | e | e
    all_goals first | exact q1 e | exact q2 e | (exact absurd e (neN (by omega)))
  refine call_zip_2 hl1 hl2 fun h' hz hTI hTO hi1 hi2 hsz hk => ?_
  refine wpAny_pyIter_zip hz ?_
  unfold LoopC
  have sz : min xs.toArray.size ys.toArray.size = min xs.length ys.length := by simp
  refine gen_loop (s := { s with heap := h' }) (R := fun r s' => match r with | .ok f => Q f s' | .error e => cameBackBy (model prog w) A env E e s') (KTurns.ofWalksU (WalksT.zip2 hh _ _ _ _ _ _ _ D xs.toArray ys.toArray).toU) (fpn _ hLs hax1.2.1.symm hax2.2.1.symm) (fun b hb => ktu_new F (far b hb)) (fun p hp hI => absurd (far _ hI) (Nat.not_le.mpr (Heap.lt_size (N p hp).1)))
    ⟨hz, hTI, ⟨_, _, hTO⟩, hi1, hi2, hl1.at fun o e => hk _ _ e, hl2.at fun o e => hk _ _ e⟩ (F.keeps hk) (N.grown hk) hG J h0 ?_ ?_
  · rintro i v m₁ news₁ h₁ tk₁ gs₁ own hi ⟨T, vals, rfl, ⟨x, y, hx, hy, rfl⟩, hT⟩ hJ hgs hoff hown hget hall hst F₁ N₁
    obtain ⟨s1, s2, ⟨a', b', s3⟩, ⟨p5, s5, c5, d5⟩, ⟨p6, s6, c6, d6⟩, ⟨p8, s8, c8, k8, d8⟩, ⟨p9, s9, c9, k9, d9⟩⟩ := hst
    refine wpAny_mono (step i T x y m₁ news₁ h₁ tk₁ gs₁ own _ (by simpa using hx) (by simpa using hy) hJ hgs hoff (fun b hb => ?_) (fun q hq => ?_) (fun d o hd q1 q2 q hq e => fpn d (Heap.lt_size (N _ hd).1) q1 q2 (e ▸ hown q hq)) F₁ N₁ hT) (fun _ _ x => wpAny_passesOwn hE x) hE
    · have hnone : h₀.get? b = none := ktu_new F (far b hb)
      simp only [List.mem_cons, List.not_mem_nil, or_false] at hb
      rcases hb with rfl | rfl | rfl | rfl
      · exact ⟨_, hall _ (by simp) hnone _ s1⟩
      · exact ⟨_, hall _ (by simp) hnone _ s3⟩
      · exact ⟨_, hall _ (by simp) hnone _ s5⟩
      · exact ⟨_, hall _ (by simp) hnone _ s6⟩
    · have e := hget q hq
      have hb := hown q hq
      simp only [List.mem_cons, List.not_mem_nil, or_false] at hb
      have same : ∀ {o' : Obj}, h₁.get? q.1 = some o' → q.2 = o' := fun e' => by rw [e] at e'; exact Option.some.inj e'
      rcases hb with h9 | h9 | h9 | h9 | h9 | h9 | h9
      · rw [same (by rw [h9]; exact s1)]; exact ⟨(by intro e; cases e), fun vs q t e => by cases e; simp [rawInt]⟩
      · rw [same (by rw [h9]; exact s2)]; exact ⟨(by intro e; cases e), fun vs q t e => by cases e⟩
      · rw [same (by rw [h9]; exact s3)]; exact ⟨(by intro e; cases e), fun vs q t e => by cases e⟩
      · rw [same (by rw [h9]; exact s5)]; exact ⟨(by rw [c5]; intro e; cases e), fun vs q t e => by rw [d5] at e; cases e; simp [rawInt]⟩
      · rw [same (by rw [h9]; exact s6)]; exact ⟨(by rw [c6]; intro e; cases e), fun vs q t e => by rw [d6] at e; cases e; simp [rawInt]⟩
      · rw [same (by rw [h9]; exact s8)]; exact ⟨(by rw [c8]; intro e; cases e), fun vs q t e => by rw [d8] at e; cases e⟩
      · rw [same (by rw [h9]; exact s9)]; exact ⟨(by rw [c9]; intro e; cases e), fun vs q t e => by rw [d9] at e; cases e⟩
  · intro h' tk gs m' news' hgs F' N' _ hJ
    rw [sz] at hJ
    exact hQ h' tk gs m' news' hgs F' N' hJ
end
theorem pick1 (vs : List Value) : kms_pick vs.toArray.toList (some 1) none = vs.drop 1 := by
  cases vs with
  | nil => rfl
  | cons a r => simp [kms_pick, kms_lo, kms_hi]
end
section
theorem flush_Lo : (1 : Nat) = 1 := by
  w_top off
  k_with_none
  first | walk1 | rfl
def rowTarget : Expr := match tst 16 with | .For t _ _ _ _ => t | _ => .Constant .none 0 ⟨0, 0, 0, 0⟩
def rowBody : List Stmt := match tst 16 with | .For _ _ b _ _ => b | _ => []
theorem t_levE (w : World) (x y : Str) (t u v : Tok) (m : Int) (hx : x.length ≤ 40) (hy : y.length ≤ 40) (hxy : x.length ≤ y.length) (hok : ¬ ((levA x y).length = 0 ∨ (levB x y).length = 0) → rowsOk (levA x y) (levB x y) m) (hgap : ((levB x y).length : Int) - (levA x y).length ≤ m - ((levB x y).length - (levA x y).length)) (he : levS x y = m) : Ct w 143 [.str x t, .str y u, .int m v] 3 40 noPre (isInt m) := by
  have h := t_lev w x y t u v m hx hy hxy hok hgap
  rw [he] at h
  exact h
/-- what the two texts of a row are to satisfy -/
def LevOk (x y : Str) (m : Int) : Prop := x.length ≤ 40 ∧ y.length ≤ 40 ∧ x.length ≤ y.length ∧ (¬ ((levA x y).length = 0 ∨ (levB x y).length = 0) → rowsOk (levA x y) (levB x y) m) ∧ ((levB x y).length : Int) - (levA x y).length ≤ m - ((levB x y).length - (levA x y).length) ∧ levS x y = m
theorem t_levO (w : World) (x y : Str) (t u v : Tok) (m : Int) (h : LevOk x y m) : Ct w 143 [.str x t, .str y u, .int m v] 3 40 noPre (isInt m) := t_levE w x y t u v m h.1 h.2.1 h.2.2.1 h.2.2.2.1 h.2.2.2.2.1 h.2.2.2.2.2
theorem rows_end {m : Str → Option Value} {u1 u2 : Option Value} {x1 x2 : Str} {y1 y2 : Value} (e1 : m x1 = some y1) (e2 : m x2 = some y2) : ∀ z, z ≠ Str.ofString "rows" → z ≠ Str.ofString "due" → (fun y => if y = Str.ofString "due" then u1 else if y = Str.ofString "rows" then u2 else if y = x2 then some y2 else if y = x1 then some y1 else m y) z = m z := by
  intro z a1 a2
  simp only [if_neg a1, if_neg a2]
  by_cases b2 : z = x2
  · rw [if_pos b2, b2, e2]
  · rw [if_neg b2]
    by_cases b1 : z = x1
    · rw [if_pos b1, b1, e1]
    · rw [if_neg b1]
theorem row_turn (w : World) (p : Program) (loose : List Str) (mean : ExcName → Option Value) (mg mb : Str → Option Value) (dp un : Nat) (gd : Option (List Code)) (outer : List Env) (A₀ : Around) (base g : Heap) (L : Addr) (s : Shared) (m : Str → Option Value) (nw : List (Addr × Obj)) (Q : Flow → Shared → Prop) (E : Value → Shared → Prop)
    (k kn : Nat) (tm tw : Tok) (ps : Array Value) (D : Addr) (vs : List Value) (j : Nat) (l : List (Int × Int × Int)) (words : Str)
    (B : Below A₀ base outer g) (X : (Mine.hd.heap_1 w.params).In g) (T : Top p loose mean mg mb g) (hd : dp + 40 < recursionLimit) (hu : un + 400 < cLine) (hk : k ≤ 8) (hG : AllBare s.gens)
    (F : Fr g L s.heap m) (N : News g L s.heap ((124, tabObj ps) :: nw)) (hoff : ∀ q ∈ nw, q.1 ≠ 124) (hps : ps = #[] ∨ ∃ c' : Addr, ps = #[rawInt 144, rawInt 13, .ref c'])
    (e1 : m (Str.ofString "most") = some (.int k tm)) (e2 : m (Str.ofString "words") = some (.str words tw)) (hD : (D, PySem.W.listOf vs.toArray j) ∈ nw) (ht : TripL nw vs l) (hvl : vs.toArray.size = kn) (hkn : kn ≤ 8) (hl : l.length ≤ 8) (hb : ∀ t ∈ l, 0 ≤ t.1 ∧ t.1 < 10)
    (hlev : LevOk (fmtS l) words (2 * (lengthS k - lengthS kn)))
    (h : ∀ h' tk' gs' ps' m', AllBare gs' → Fr g L h' m' → (∀ z, z ≠ Str.ofString "rows" → z ≠ Str.ofString "due" → m' z = m z) → News g L h' ((124, tabObj ps') :: nw) → (ps' = #[] ∨ ∃ c' : Addr, ps' = #[rawInt 144, rawInt 13, .ref c']) → Q .next { s with heap := h', toks := tk', gens := gs' }) :
    wpAny (model PySem.Challenge.rw_pe0269_01.row.prog w) ((arC dp un gd outer).deeper (lawEnv L)) (assign rowTarget (lawEnv L) (.ref D)) (fun _ s₃ => wpAny (model PySem.Challenge.rw_pe0269_01.row.prog w) ((arC dp un gd outer).deeper (lawEnv L)) (execs rowBody (lawEnv L)) Q E s₃) E s := by
  revert X
  k_fill
  intro X
  have q5 : lawScope = lawScope := rfl
  conv at q5 => rhs; whnf
  (try dsimp only at q5)
  have q6 : rowTarget = rowTarget := rfl
  conv at q6 => rhs; whnf
  (try dsimp only at q6)
  have q7 : rowBody = rowBody := rfl
  conv at q7 => rhs; whnf
  (try dsimp only at q7)
  unfold lawEnv
  rw [q5, q6, q7]
  clear q5 q6 q7
  have F9 := Mine.Fr.pin (Mine.Fr.pin F e1) (x := Str.ofString "words") (v := .str words tw) e2
  clear F
  k_with_none
  (k_with "call ref" => (k_here; first
  | (k_dflt (refine' useC (t_length _ _ _ ?p1) ?B ?F ?X ?N ?T ?hA ?hf ?hke ?hp ?hd ?hu ?_; (case N => k_asm); (case F => k_asm); (case hp => exact trivial); (case p1 => omega); (case B => assumption); (case X => assumption); (case T => assumption); (case hA => exact rfl); (case hf => exact rfl); (case hke => exact rfl); (case hd => ((try dsimp only [arC]); omega)); (case hu => (have hcL9 := cLine_is; (try dsimp only [arC]); omega))); intro v' h' tk' F' N' kp' sz' q'; obtain ⟨t', q'⟩ := q'; subst q'; clear kp' sz')
  | (k_dflt (refine' useF ?B ?F ?X ?N ?T ?hA ?hf ?hke ?hd ?hu ?hG ?ho ?hp ?hr ?ht ?hl ?hb ?_; (case N => k_asm); (case F => k_asm); (case hG => assumption); (case ho => assumption); (case hp => assumption); (case hr => assumption); (case ht => assumption); (case hl => assumption); (case hb => assumption); (case B => assumption); (case X => assumption); (case T => assumption); (case hA => exact rfl); (case hf => exact rfl); (case hke => exact rfl); (case hd => ((try dsimp only [arC]); omega)); (case hu => (have hcL9 := cLine_is; (try dsimp only [arC]); omega))); intro t' h' tk' gs' ps' G' F' N' P')
  | (k_dflt (refine' useC (t_levO _ _ _ _ _ _ _ ?p1) ?B ?F ?X ?N ?T ?hA ?hf ?hke ?hp ?hd ?hu ?_; (case N => k_asm); (case F => k_asm); (case hp => exact trivial); (case p1 => assumption); (case B => assumption); (case X => assumption); (case T => assumption); (case hA => exact rfl); (case hf => exact rfl); (case hke => exact rfl); (case hd => ((try dsimp only [arC]); omega)); (case hu => (have hcL9 := cLine_is; (try dsimp only [arC]); omega))); intro v' h' tk' F' N' kp' sz' q'; obtain ⟨t', q'⟩ := q'; subst q'; clear kp' sz')))
  k_steps
  all_goals (try k_data)
  all_goals try exact absurd rfl (by assumption)
  (rename Fr _ _ _ _ => FE; rename News _ _ _ _ => NE)
  exact h _ _ _ _ _ (by assumption) FE (rows_end e1 e2) NE (by assumption)
end
section
theorem flush_Lq : (1 : Nat) = 1 := by
  w_top off
  k_with_none
  first | walk1 | rfl
def PsOk (ps : Array Value) : Prop := ps = #[] ∨ ∃ c' : Addr, ps = #[rawInt 144, rawInt 13, .ref c']
def RowOk (k : Nat) (words : Str) (nw : List (Addr × Obj)) (D : Addr) : Prop :=
  ∃ (vs : List Value) (j : Nat) (l : List (Int × Int × Int)) (kn : Nat), (D, PySem.W.listOf vs.toArray j) ∈ nw ∧ TripL nw vs l ∧ vs.toArray.size = kn ∧ kn ≤ 8 ∧ l.length ≤ 8 ∧ (∀ t ∈ l, 0 ≤ t.1 ∧ t.1 < 10) ∧ LevOk (fmtS l) words (2 * (lengthS k - lengthS kn))
def JRow (m : Str → Option Value) (tl : List (Addr × Obj)) (_ : Nat) (m' : Str → Option Value) (nw' : List (Addr × Obj)) : Prop :=
  (∀ z, z ≠ Str.ofString "rows" → z ≠ Str.ofString "due" → m' z = m z) ∧ ∃ ps, nw' = (124, tabObj ps) :: tl ∧ PsOk ps
theorem seg_rows (w : World) (p : Program) (loose : List Str) (mean : ExcName → Option Value) (mg mb : Str → Option Value) (dp un : Nat) (gd : Option (List Code)) (outer : List Env) (A₀ : Around) (base g : Heap) (L : Addr) (s : Shared) (m : Str → Option Value) (nw : List (Addr × Obj)) (Q : Flow → Shared → Prop) (E : Value → Shared → Prop)
    (hE : PassesOwn (model PySem.Challenge.rw_pe0269_01.row.prog w) ((arC dp un gd outer).deeper (lawEnv L)) (lawEnv L) E)
    (k : Nat) (tm tw : Tok) (ps : Array Value) (D1 D2 D3 : Addr) (words : Str)
    (B : Below A₀ base outer g) (X : (Mine.hd.heap_1 w.params).In g) (T : Top p loose mean mg mb g) (hd : dp + 40 < recursionLimit) (hu : un + 400 < cLine) (hk : k ≤ 8) (hG : AllBare s.gens)
    (F : Fr g L s.heap m) (N : News g L s.heap ((124, tabObj ps) :: nw)) (hoff : ∀ q ∈ nw, q.1 ≠ 124) (hps : PsOk ps)
    (e1 : m (Str.ofString "most") = some (.int k tm)) (e2 : m (Str.ofString "words") = some (.str words tw)) (e3 : m (Str.ofString "high") = some (.ref D1)) (e4 : m (Str.ofString "low") = some (.ref D2)) (e5 : m (Str.ofString "unlike") = some (.ref D3))
    (r1 : RowOk k words nw D1) (r2 : RowOk k words nw D2) (r3 : RowOk k words nw D3)
    (h : ∀ h' tk' gs' ps' m', AllBare gs' → Fr g L h' m' → (∀ z, z ≠ Str.ofString "rows" → z ≠ Str.ofString "due" → m' z = m z) → News g L h' ((124, tabObj ps') :: nw) → PsOk ps' → Q .next { s with heap := h', toks := tk', gens := gs' }) :
    wpAny (model PySem.Challenge.rw_pe0269_01.row.prog w) ((arC dp un gd outer).deeper (lawEnv L)) (exec (tst 16) (lawEnv L)) Q E s := by
  have key : ∀ (R : Addr) (s' : Shared) (m₀ : Str → Option Value), (∃ h₁ tk₁, s' = { s with heap := h₁, toks := tk₁ }) → Fr g L s'.heap m₀ → (∀ z, z ≠ Str.ofString "rows" → z ≠ Str.ofString "due" → m₀ z = m z) → News g L s'.heap ((R, PySem.W.listOf #[.ref D1, .ref D2, .ref D3] 0) :: (124, tabObj ps) :: nw) → (R ≠ 124) →
      wpAny (model PySem.Challenge.rw_pe0269_01.row.prog w) ((arC dp un gd outer).deeper (lawEnv L)) (pyIter (.ref R)) (fun it s₂ => LoopC PySem.Challenge.rw_pe0269_01.row.prog w ((arC dp un gd outer).deeper (lawEnv L)) (lawEnv L) rowTarget rowBody Q E it s₂) E s' := by
    rintro R s' m₀ ⟨h₁, tk₁, rfl⟩ F0 hm0 N0 hR
    have N1 : News g L h₁ ((124, tabObj ps) :: (R, PySem.W.listOf #[.ref D1, .ref D2, .ref D3] 0) :: nw) := fun q hq => N0 q (by
      rcases List.mem_cons.mp hq with h | hq
      · rw [h]; exact .tail _ (.head _)
      rcases List.mem_cons.mp hq with h | hq
      · rw [h]; exact .head _
      · exact .tail _ (.tail _ hq))
    refine iter_listG (vs := [.ref D1, .ref D2, .ref D3]) (n := 0) hE rfl F0 N1 (.tail _ (.head _)) rfl rfl hG (JRow m ((R, PySem.W.listOf #[.ref D1, .ref D2, .ref D3] 0) :: nw)) ⟨hm0, ps, rfl, hps⟩ ?_ ?_
    · rintro i v m₁ news₁ h₂ tk₂ gs₂ own wr hi hv ⟨hm1, ps₁, rfl, hps₁⟩ hgs hwo hwr hown F1 NX
      have hr : ∃ D, v = .ref D ∧ RowOk k words nw D := by
        match i, hi, hv with
        | 0, _, hv => exact ⟨D1, by simpa using hv.symm, r1⟩
        | 1, _, hv => exact ⟨D2, by simpa using hv.symm, r2⟩
        | 2, _, hv => exact ⟨D3, by simpa using hv.symm, r3⟩
      obtain ⟨D, rfl, vs, j, l, kn, d1, d2, d3, d4, d5, d6, d7⟩ := hr
      have sub : ∀ q ∈ nw, q ∈ own ++ ((R, PySem.W.listOf #[.ref D1, .ref D2, .ref D3] 0) :: nw) := fun q hq => List.mem_append_right _ (.tail _ hq)
      refine row_turn w p loose mean mg mb dp un gd outer A₀ base g L { s with heap := h₂, toks := tk₂, gens := gs₂ } m₁ (own ++ ((R, PySem.W.listOf #[.ref D1, .ref D2, .ref D3] 0) :: nw)) _ E k kn tm tw ps₁ D vs j l words B X T hd hu hk hgs F1 (fun q hq => NX q ?_) (fun q hq => ?_) hps₁
        (by rw [hm1 _ (by decide) (by decide), e1]) (by rw [hm1 _ (by decide) (by decide), e2]) (sub _ d1) (d2.mono sub) d3 d4 d5 d6 d7 ?_
      · rcases List.mem_cons.mp hq with h | hq
        · rw [h]; exact List.mem_append_right _ (.head _)
        · rcases List.mem_append.mp hq with hq | hq
          · exact List.mem_append_left _ hq
          · exact List.mem_append_right _ (.tail _ hq)
      · rcases List.mem_append.mp hq with hq | hq
        · exact hown q hq 124 _ (.head _) (fun e => hR e.symm)
        · rcases List.mem_cons.mp hq with h | hq
          · rw [h]; exact hR
          · exact hoff q hq
      · intro h' tk' gs' ps' m' hgs' F' hm' N' hps'
        refine ⟨rfl, h', tk', gs', m', (124, tabObj ps') :: (R, PySem.W.listOf #[.ref D1, .ref D2, .ref D3] 0) :: nw, rfl, hgs', F', fun q hq => N' q ?_, ?_, fun z a1 a2 => (hm' z a1 a2).trans (hm1 z a1 a2), ps', rfl, hps'⟩
        · rcases List.mem_append.mp hq with hq | hq
          · exact .tail _ (List.mem_append_left _ hq)
          · rcases List.mem_cons.mp hq with h | hq
            · rw [h]; exact .head _
            · exact .tail _ (List.mem_append_right _ hq)
        · intro q hq
          rcases List.mem_cons.mp hq with h | hq
          · rw [h]; exact hwo (124, tabObj ps₁) (.head _)
          · exact hwo q (.tail _ hq)
    · rintro h' tk gs m' news' hgs F' N' ⟨hm', ps', rfl, hps'⟩
      exact h h' tk gs ps' m' hgs F' hm' (fun q hq => N' q (by
        rcases List.mem_cons.mp hq with h | hq
        · rw [h]; exact .head _
        · exact .tail _ (.tail _ hq))) hps'
  have ef : ∃ it pos, tst 16 = .For rowTarget it rowBody [] pos ∧ it = (match tst 16 with | .For _ it _ _ _ => it | _ => .Constant .none 0 ⟨0, 0, 0, 0⟩) := ⟨_, _, rfl, rfl⟩
  obtain ⟨it, pos, ef, ei⟩ := ef
  rw [ef]
  conv at ei => rhs; whnf
  refine For_C ?_ (by subst ei; intro _; rfl)
  subst ei
  generalize rowBody = bd9 at key ⊢
  generalize rowTarget = tg9 at key ⊢
  revert X
  k_fill
  intro X
  have q5 : lawScope = lawScope := rfl
  conv at q5 => rhs; whnf
  (try dsimp only at q5)
  unfold lawEnv at key hE ⊢
  rw [q5] at key hE ⊢
  clear q5
  have F9 := Mine.Fr.pin (Mine.Fr.pin (Mine.Fr.pin F e3) (x := Str.ofString "low") (v := .ref D2) e4) (x := Str.ofString "unlike") (v := .ref D3) e5
  clear F
  k_with_none
  (k_with "pyIter ref" => refine stop9 ?_)
  k_steps
  unfold Stop9
  (rename Fr _ _ _ _ => FE; rename News _ _ _ _ => NE)
  exact key _ _ m ⟨_, _, rfl⟩ (unpin0' (unpin0' (unpin0' FE e5) e4) e3) (fun _ _ _ => rfl) NE (neN (by omega))
end
section
theorem flush_Lr : (1 : Nat) = 1 := by
  w_top off
  k_with_none
  first | walk1 | rfl
/-- what a code table may hold -/
def PS (ps : Array Value) : Prop := ps = #[] ∨ ∃ (a b : Int) (c : Addr), ps = #[rawInt a, rawInt b, .ref c]
def IsTabO (o : Obj) : Prop := ∃ ps, PS ps ∧ o = tabObj ps
def Keep (nw nw' : List (Addr × Obj)) : Prop := ∀ q ∈ nw, ¬ IsTabO q.2 → q ∈ nw'
theorem Keep.refl {nw : List (Addr × Obj)} : Keep nw nw := fun _ h _ => h
theorem Keep.trans {a b c : List (Addr × Obj)} (h : Keep a b) (k : Keep b c) : Keep a c := fun q hq hn => k q (h q hq hn) hn
theorem Keep.sub {a b : List (Addr × Obj)} (h : ∀ q ∈ a, q ∈ b) : Keep a b := fun q hq _ => h q hq
theorem not_tab_seq {c : Value} {xs : Array Value} {n : Nat} : ¬ IsTabO { cls := c, data := .seq xs n } := fun ⟨_, _, e⟩ => seq_ne_tab e
theorem not_tab_data {o : Obj} {d : Data} (h : o.data = d) (hd : ∀ vs, d ≠ .fields vs) : ¬ IsTabO o := fun ⟨ps, _, e⟩ => hd ps (by rw [← h, e])
theorem not_tab_code {o : Obj} {vs : Array Value} {q : Str} {u : Tok} (h : o.data = .fields vs) (h1 : vs[1]? = some (.str q u)) : ¬ IsTabO o := fun ⟨ps, hp, e⟩ => by
  rw [e] at h
  have e2 : ps = vs := by injection h
  rw [← e2] at h1
  rcases hp with rfl | ⟨a, b, c, rfl⟩
  · simp at h1
  · simp [rawInt] at h1
theorem WsR.pick {l l' : List (Addr × Obj)} {x : Addr} {W : Ws} (R : WsR l x W) (k : Keep l l') : WsR l' x W := by
  obtain ⟨raw, dx, tn, tc, vs, h1, h2, h3, h4, h5, k1, k2, k3, k4, k5, t1, t2, t3, t4, e, m1, m2, m3, m4, r⟩ := R
  refine ⟨raw, dx, tn, tc, vs, h1, h2, h3, h4, h5, k1, k2, k3, k4, k5, t1, t2, t3, t4, e, k _ m1 ?_, k _ m2 ?_, k _ m3 not_tab_seq, k _ m4 not_tab_seq, r⟩
  · exact not_tab_data (d := (instObj 118 dx).data) rfl (fun vs h => by cases h)
  · exact not_tab_data (d := (dictOf _ _).data) rfl (fun vs h => by cases h)
theorem TripL.keep {tl tl' : List (Addr × Obj)} {vs : List Value} {l : List (Int × Int × Int)} (h : TripL tl vs l) (k : Keep tl tl') : TripL tl' vs l := by
  induction h with
  | nil => exact .nil
  | cons hm _ ih => exact .cons (k _ hm not_tab_seq) ih
theorem keep_filter {nw : List (Addr × Obj)} {P : Addr} {ps : Array Value} (hp : PS ps) (pk : ∀ q ∈ nw, q.2 ≠ tabObj ps → q ∈ nw.filter fun q => decide (@Ne Nat q.1 P)) : Keep nw (nw.filter fun q => decide (@Ne Nat q.1 P)) := fun q hq hn => pk q hq fun e => hn ⟨ps, hp, e⟩
theorem PS.of_L {pos : Pos} {qual : Str} {ps : Array Value} {nw : List (Addr × Obj)} (h : TabL pos qual ps nw) : PS ps := by
  rcases h with rfl | ⟨c', oc, vs, t, rfl, _⟩
  · exact .inl rfl
  · exact .inr ⟨_, _, c', rfl⟩
theorem PS.of_F {ps : Array Value} (h : PsOk ps) : PS ps := by
  rcases h with rfl | ⟨c', rfl⟩
  · exact .inl rfl
  · exact .inr ⟨_, _, c', rfl⟩
theorem TabL.keep {pos : Pos} {qual : Str} {ps : Array Value} {nw nw' : List (Addr × Obj)} (h : TabL pos qual ps nw) (k : Keep nw nw') : TabL pos qual ps nw' := by
  rcases h with rfl | ⟨c', oc, vs, t, rfl, hc, h1, h2⟩
  · exact .inl rfl
  · exact .inr ⟨c', oc, vs, t, rfl, k _ hc (not_tab_code h1 h2), h1, h2⟩
/-- the three tables stand in the ledger -/
def TabsOk (nw : List (Addr × Obj)) : Prop := ∃ p1 p2 p3, (37, tabObj p1) ∈ nw ∧ (30, tabObj p2) ∈ nw ∧ (124, tabObj p3) ∈ nw ∧ TabL d2iPos d2iQ p1 nw ∧ TabL i2dPos i2dQ p2 nw ∧ PsOk p3

def PairH (n H : Int) : Prop := (5 ≤ n ∧ n ≤ 7) ∧ (PySem.Builtin.Int.intBits H : Int) = n ∧ 16 ≤ H ∧ H ≤ 64 ∧ H + H = 2 ^ (1 * n).toNat
def wOne (one : Str) : Ws := wsOf (one ++ Str.ofString "x")
def wTwo (two : Str) : Ws := wsOf (two ++ Str.ofString "x \t")
def geB (a b : Int) : Bool := decide (a ≥ b)
def neB (a b : Int) : Bool := decide (a ≠ b)
def RowLev (k : Nat) (l : List (Int × Int × Int)) : Prop := LevOk (fmtS l) (fmtS (allS k)) (2 * (lengthS k - lengthS l.length))
def PairOk (one two : Str) (k : Nat) : Prop :=
  one.length ≤ 20 ∧ two.length ≤ 20 ∧ 1 ≤ k ∧ k ≤ 4 ∧
  (∃ texts, Txt.split (one ++ Str.ofString "\t" ++ two) (Str.ofString "\t") = texts ∧ texts.length ≤ 10 ∧ (∀ a ∈ texts, a.length ≤ 41) ∧ texts ≠ [] ∧ (∀ M, M ∈ texts.map (fun a => (a.length : Int)) → (∀ a, a ∈ texts.map (fun a => (a.length : Int)) → a ≤ M) → (k : Int) = M + 1)) ∧
  (mostS (wOne one) (wTwo two)).toNat = k ∧ (mostS (wTwo two) (wOne one)).toNat = k ∧
  (∀ t : Int, 1 ≤ t → t ≤ k → colS one t = indentS (wOne one) t ∧ colS two t = indentS (wTwo two) t ∧ 0 ≤ colS one t ∧ colS one t < 16 ∧ 0 ≤ colS two t ∧ colS two t < 16) ∧
  decide ((wOne one).cnt = (wTwo two).cnt ∧ (wOne one).b = (wTwo two).b) = decide (witS neB (wOne one) (wTwo two) k = []) ∧ lessS (wOne one) (wTwo two) = decide (witS geB (wOne one) (wTwo two) k = []) ∧ lessS (wTwo two) (wOne one) = decide (witS geB (wTwo two) (wOne one) k = []) ∧
  RowLev k (witS geB (wOne one) (wTwo two) k) ∧ RowLev k (witS geB (wTwo two) (wOne one) k) ∧ RowLev k (witS neB (wOne one) (wTwo two) k)
theorem zS_congr {P : Int → Int → Bool} {fa fb ga gb : Int → Int} {k : Nat} (ha : ∀ t : Int, 1 ≤ t → t ≤ k → fa t = ga t) (hb : ∀ t : Int, 1 ≤ t → t ≤ k → fb t = gb t) : zS P fa fb k = zS P ga gb k := by
  unfold zS
  have hr : ∀ t ∈ rangeKs 1 k, fa t = ga t ∧ fb t = gb t := by
    intro t ht
    obtain ⟨j, hj, rfl⟩ := List.mem_map.mp ht
    have := List.mem_range.mp hj
    exact ⟨ha _ (by omega) (by omega), hb _ (by omega) (by omega)⟩
  rw [List.filter_congr (q := fun t => P (ga t) (gb t)) fun t ht => by rw [(hr t ht).1, (hr t ht).2]]
  refine List.map_congr_left fun t ht => ?_
  have := hr t (List.mem_filter.mp ht).1
  rw [this.1, this.2]
theorem zS_wit {P : Int → Int → Bool} {W V : Ws} {k : Nat} : zS P (indentS W) (indentS V) k = witS P W V k := rfl
theorem zipW_map {f g : Int → Int} {H : Int} {k : Nat} : List.zipWith (fun a b => a + H - b) ((rangeKs 1 k).map f) ((rangeKs 1 k).map g) = (rangeKs 1 k).map fun t => f t + H - g t := by
  induction rangeKs 1 k with
  | nil => rfl
  | cons a r ih => simp only [List.map_cons, List.zipWith_cons_cons, ih]
theorem wit_mem {P : Int → Int → Bool} {W V : Ws} {k : Nat} (hk : k ≤ 8) : (witS P W V k).length ≤ k ∧ ∀ t ∈ witS P W V k, 0 ≤ t.1 ∧ t.1 < 10 := by
  have lr : (rangeKs 1 k).length = k := by simp [rangeKs]
  constructor
  · unfold witS
    rw [List.length_map]
    exact Nat.le_trans (List.length_filter_le _ _) (Nat.le_of_eq lr)
  · intro t ht
    unfold witS at ht
    obtain ⟨u, hu, rfl⟩ := List.mem_map.mp ht
    obtain ⟨j, hj, rfl⟩ := List.mem_map.mp (List.mem_filter.mp hu).1
    have := List.mem_range.mp hj
    show 0 ≤ (1 : Int) + j ∧ (1 : Int) + j < 10
    omega
theorem tripL_len {tl : List (Addr × Obj)} {vs : List Value} {l : List (Int × Int × Int)} (h : TripL tl vs l) : vs.length = l.length := by
  induction h with
  | nil => rfl
  | cons _ _ ih => simp [ih]
end
section
theorem flush_Ls : (1 : Nat) = 1 := by
  w_top off
  k_with_none
  first | walk1 | rfl
def turnNames : List Str := [Str.ofString "here", Str.ofString "there", Str.ofString "most", Str.ofString "left", Str.ofString "right", Str.ofString "number", Str.ofString "figures", Str.ofString "high", Str.ofString "low", Str.ofString "unlike", Str.ofString "size", Str.ofString "first", Str.ofString "second", Str.ofString "figure", Str.ofString "over", Str.ofString "rest", Str.ofString "words", Str.ofString "rows", Str.ofString "due"]
def Agree (m m' : Str → Option Value) : Prop := ∀ z, z ∉ turnNames → m' z = m z
theorem Agree.refl {m : Str → Option Value} : Agree m m := fun _ _ => rfl
theorem Agree.trans {a b c : Str → Option Value} (h : Agree a b) (k : Agree b c) : Agree a c := fun z hz => (k z hz).trans (h z hz)
theorem Agree.put {m : Str → Option Value} {nm : Str} {v : Option Value} (h : nm ∈ turnNames) : Agree m (fun z => if z = nm then v else m z) := fun z hz => if_neg (by intro e; rw [e] at hz; exact hz h)
theorem Agree.zip {m m' : Str → Option Value} (h : NamesOff m m') : Agree m m' := fun z hz => h z (by rintro rfl; exact hz (by decide)) (by rintro rfl; exact hz (by decide)) (by rintro rfl; exact hz (by decide)) (by rintro rfl; exact hz (by decide)) (by rintro rfl; exact hz (by decide)) (by rintro rfl; exact hz (by decide))
theorem Agree.rows {m m' : Str → Option Value} (h : ∀ z, z ≠ Str.ofString "rows" → z ≠ Str.ofString "due" → m' z = m z) : Agree m m' := fun z hz => h z (by rintro rfl; exact hz (by decide)) (by rintro rfl; exact hz (by decide))
theorem turn_list : turnBody = [tst 0, tst 1, tst 2, tst 3, tst 4, tst 5, tst 6, tst 7, tst 8, tst 9, tst 10, tst 11, tst 12, tst 13, tst 14, tst 15, tst 16] := by with_unfolding_all rfl
/-- the first part of the turn: its rows of columns, the number and its figures -/
theorem turn_a (w : World) (p : Program) (loose : List Str) (mean : ExcName → Option Value) (mg mb : Str → Option Value) (dp un : Nat) (gd : Option (List Code)) (outer : List Env) (A₀ : Around) (base g : Heap) (L : Addr) (s : Shared) (m : Str → Option Value) (nw : List (Addr × Obj)) (Q : Flow → Shared → Prop) (E : Value → Shared → Prop)
    (rest : List Stmt) (one two : Str) (k : Nat) (n H : Int) (tn tH t1 t2 : Tok) (o1 o2 : Obj)
    (B : Below A₀ base outer g) (X : (Mine.hd.heap_1 w.params).In g) (T : Top p loose mean mg mb g) (hd : dp + 40 < recursionLimit) (hu : un + 400 < cLine)
    (P : PairOk one two k) (hP : PairH n H) (F : Fr g L s.heap m) (N : News g L s.heap nw) (tabs : TabsOk nw)
    (m1 : m (Str.ofString "width") = some (.int n tn)) (m2 : m (Str.ofString "half") = some (.int H tH))
    (c1 : (L + 1, o1) ∈ nw) (e1 : o1.data = .cell (some (.str one t1))) (c2 : (L + 1 + 1, o2) ∈ nw) (e2 : o2.data = .cell (some (.str two t2)))
    (h : ∀ (x y lA lB lF c1 c2 : Addr) (o1 o2 : Obj) (v1 v2 : Array Value) (t1 t2 tm : Tok) (vA vB vF : List Value) (nn : Nat) (ps : Array Value) h' tk' m' nw', Fr g L h' m' → News g L h' nw' → Agree m m' → Keep nw nw' → WsR nw' x (wOne one) → WsR nw' y (wTwo two) →
      (lA, LCg.lst vA) ∈ nw' → (lB, LCg.lst vB) ∈ nw' → (lF, PySem.W.listOf vF.toArray nn) ∈ nw' → IntsAre vA ((rangeKs 1 k).map (colS one)) → IntsAre vB ((rangeKs 1 k).map (colS two)) → IntsAre vF ((rangeKs 1 k).map fun t => colS one t + H - colS two t) →
      (30, tabObj #[rawInt i2dPos.line, rawInt i2dPos.col, .ref c1]) ∈ nw' → (37, tabObj #[rawInt d2iPos.line, rawInt d2iPos.col, .ref c2]) ∈ nw' → (c1, o1) ∈ nw' → (c2, o2) ∈ nw' → o1.data = .fields v1 → v1[1]? = some (.str i2dQ t1) → o2.data = .fields v2 → v2[1]? = some (.str d2iQ t2) → (124, tabObj ps) ∈ nw' → PsOk ps →
      m' (Str.ofString "here") = some (.ref x) → m' (Str.ofString "there") = some (.ref y) → m' (Str.ofString "most") = some (.int k tm) → m' (Str.ofString "half") = some (.int H tH) → m' (Str.ofString "left") = some (.ref lA) → m' (Str.ofString "right") = some (.ref lB) → m' (Str.ofString "figures") = some (.ref lF) →
      wpAny (model PySem.Challenge.rw_pe0269_01.row.prog w) ((arC dp un gd outer).deeper (lawEnv L)) (execs rest (lawEnv L)) Q E { s with heap := h', toks := tk' }) :
    wpAny (model PySem.Challenge.rw_pe0269_01.row.prog w) ((arC dp un gd outer).deeper (lawEnv L)) (execs (tst 0 :: tst 1 :: tst 2 :: tst 3 :: tst 4 :: tst 5 :: tst 6 :: tst 7 :: rest) (lawEnv L)) Q E s := by
  obtain ⟨hone, htwo, hk1, hk4, ⟨texts, hsp, hn9, hb9, hne9, hk9⟩, -, -, hcol, -⟩ := P
  obtain ⟨hn, hbits, hH16, hH64, hpw⟩ := hP
  have lrk : ∀ f : Int → Int, ((rangeKs 1 k).map f).length = k := fun f => by simp [rangeKs]
  have rkb : ∀ (f : Int → Int) (Z : Int → Prop), (∀ t : Int, 1 ≤ t → t ≤ k → Z (f t)) → ∀ d ∈ (rangeKs 1 k).map f, Z d := by
    intro f Z hz d hd
    obtain ⟨t, ht, rfl⟩ := List.mem_map.mp hd
    obtain ⟨j, hj, rfl⟩ := List.mem_map.mp ht
    have := List.mem_range.mp hj
    exact hz _ (by omega) (by omega)
  refine wpAny_execs_cons (seg_here w p loose mean mg mb dp un gd outer A₀ base g L s m nw o1 o2 one t1 _ E B X T hd hu F N c1 e1 hone ?_)
  intro x fr1 h1 tk1 F1 N1 R1
  show wpAny _ _ (execs _ _) Q E _
  refine wpAny_execs_cons (seg_there w p loose mean mg mb dp un gd outer A₀ base g L _ _ (fr1 ++ nw) o1 o2 two t2 _ E B X T hd hu F1 N1 (List.mem_append_right _ c2) e2 htwo ?_)
  intro y fr2 h2 tk2 F2 N2 R2
  show wpAny _ _ (execs _ _) Q E _
  have K2 : Keep nw (fr2 ++ (fr1 ++ nw)) := Keep.sub fun q hq => List.mem_append_right _ (List.mem_append_right _ hq)
  have w1 : WsR (fr2 ++ (fr1 ++ nw)) x (wOne one) := WsR.mono R1 fun q hq => List.mem_append_right _ (List.mem_append_left _ hq)
  have w2 : WsR (fr2 ++ (fr1 ++ nw)) y (wTwo two) := WsR.mono R2 fun q hq => List.mem_append_left _ hq
  have a1 : (L + 1, o1) ∈ fr2 ++ (fr1 ++ nw) := List.mem_append_right _ (List.mem_append_right _ c1)
  have a2 : (L + 1 + 1, o2) ∈ fr2 ++ (fr1 ++ nw) := List.mem_append_right _ (List.mem_append_right _ c2)
  obtain ⟨p1, p2, p3, t37, t30, t124, L37, L30, L124⟩ := tabs
  have t37' : (37, tabObj p1) ∈ fr2 ++ (fr1 ++ nw) := List.mem_append_right _ (List.mem_append_right _ t37)
  have t30' : (30, tabObj p2) ∈ fr2 ++ (fr1 ++ nw) := List.mem_append_right _ (List.mem_append_right _ t30)
  have t124' : (124, tabObj p3) ∈ fr2 ++ (fr1 ++ nw) := List.mem_append_right _ (List.mem_append_right _ t124)
  have L37' := L37.keep K2
  have L30' := L30.keep K2
  generalize fr2 ++ (fr1 ++ nw) = nw2 at *
  clear R1 R2 N1
  refine wpAny_execs_cons (seg_most w p loose mean mg mb dp un gd outer A₀ base g L _ _ nw2 o1 o2 one two t1 t2 k _ E B X T hd hu F2 N2 a1 e1 a2 e2 hone htwo texts hsp hn9 hb9 hne9 hk9 ?_)
  intro tm h3 tk3 F3 N3
  show wpAny _ _ (execs _ _) Q E _
  refine wpAny_execs_cons (seg_left w p loose mean mg mb dp un gd outer A₀ base g L _ _ nw2 o1 one t1 tm k _ E B X T hd hu (by omega) F3 N3 rfl a1 e1 ?_)
  intro lA vA h4 tk4 F4 N4 iA
  show wpAny _ _ (execs _ _) Q E _
  refine wpAny_execs_cons (seg_right w p loose mean mg mb dp un gd outer A₀ base g L _ _ _ o2 two t2 tm k _ E B X T hd hu (by omega) F4 N4 rfl (.tail _ a2) e2 ?_)
  intro lB vB h5 tk5 F5 N5 iB
  show wpAny _ _ (execs _ _) Q E _
  obtain ⟨N6, off6, pk6⟩ := pick_tab N5 (.tail _ (.tail _ t37'))
  have K6 : Keep nw2 _ := (Keep.sub fun q hq => List.Mem.tail _ (List.Mem.tail _ hq) : Keep nw2 ((lB, LCg.lst vB) :: (lA, LCg.lst vA) :: nw2)).trans (keep_filter (PS.of_L L37) pk6)
  have qA := pk6 _ (.tail _ (.head _)) seq_ne_tab
  have qB := pk6 _ (.head _) seq_ne_tab
  have q30 : (30, tabObj p2) ∈ List.filter (fun q => decide (@Ne Nat q.1 37)) ((lB, LCg.lst vB) :: (lA, LCg.lst vA) :: nw2) := List.mem_filter.mpr ⟨.tail _ (.tail _ t30'), decide_eq_true (show @Ne Nat 30 37 by decide)⟩
  have q124 : (124, tabObj p3) ∈ List.filter (fun q => decide (@Ne Nat q.1 37)) ((lB, LCg.lst vB) :: (lA, LCg.lst vA) :: nw2) := List.mem_filter.mpr ⟨.tail _ (.tail _ t124'), decide_eq_true (show @Ne Nat 124 37 by decide)⟩
  generalize List.filter (fun q => decide (@Ne Nat q.1 37)) ((lB, LCg.lst vB) :: (lA, LCg.lst vA) :: nw2) = nw6 at *
  clear pk6 N5 N4
  refine wpAny_execs_cons (seg_number w p loose mean mg mb dp un gd outer A₀ base g L _ _ nw6 p1 _ E n H tn tH tm k _ _ lA lB vA vB B X T hd hu hn (by omega) hk4 (lrk _) (lrk _) F5 N6 off6 (L37'.keep K6) rfl m1 m2 rfl rfl qA qB iA iB
    (rkb _ _ fun t a b => by have := hcol t a b; omega) (rkb _ _ fun t a b => by have := hcol t a b; omega) ?_)
  intro tnum c7 oc7 v7 u7 h7 tk7 F7 N7 d7 s7 ne7
  show wpAny _ _ (execs _ _) Q E _
  have num : d2iS n ((rangeKs 1 k).map (colS one)) + d2iS n (List.replicate k H) - d2iS n ((rangeKs 1 k).map (colS two)) = d2iS n ((rangeKs 1 k).map fun t => colS one t + H - colS two t) := by
    have e := d2i_lin n ((rangeKs 1 k).map (colS one)) ((rangeKs 1 k).map (colS two)) H (by rw [lrk]; exact hk4) (by rw [lrk, lrk])
    rw [lrk, zipW_map] at e
    exact e
  rw [num] at F7
  have K7 : Keep nw6 ((37, tabObj #[rawInt d2iPos.line, rawInt d2iPos.col, .ref c7]) :: (c7, oc7) :: nw6) := Keep.sub fun q hq => .tail _ (.tail _ hq)
  obtain ⟨N8, off8, pk8⟩ := pick_tab N7 (.tail _ (.tail _ q30))
  have K8 := K7.trans (keep_filter (PS.of_L L30) pk8)
  have r37 : (37, tabObj #[rawInt d2iPos.line, rawInt d2iPos.col, .ref c7]) ∈ List.filter (fun q => decide (@Ne Nat q.1 30)) ((37, tabObj #[rawInt d2iPos.line, rawInt d2iPos.col, .ref c7]) :: (c7, oc7) :: nw6) := List.mem_filter.mpr ⟨.head _, decide_eq_true (show @Ne Nat 37 30 by decide)⟩
  have r7 := (keep_filter (PS.of_L L30) pk8) _ (.tail _ (.head _)) (not_tab_code d7 s7)
  have r124 : (124, tabObj p3) ∈ List.filter (fun q => decide (@Ne Nat q.1 30)) ((37, tabObj #[rawInt d2iPos.line, rawInt d2iPos.col, .ref c7]) :: (c7, oc7) :: nw6) := List.mem_filter.mpr ⟨.tail _ (.tail _ q124), decide_eq_true (show @Ne Nat 124 30 by decide)⟩
  generalize List.filter (fun q => decide (@Ne Nat q.1 30)) ((37, tabObj #[rawInt d2iPos.line, rawInt d2iPos.col, .ref c7]) :: (c7, oc7) :: nw6) = nw8 at *
  clear pk8 N7 K7
  refine wpAny_execs_cons (seg_figures w p loose mean mg mb dp un gd outer A₀ base g L _ _ nw8 _ E p2 n tn tnum _ B X T hd hu hn (by rw [lrk]; exact hk4) (by rw [lrk]; exact hk1)
    (rkb _ (fun d => 0 < d ∧ d < 2 ^ (1 * n).toNat) fun t a b => by have := hcol t a b; rw [← hpw]; omega) F7 N8 off8 ((L30'.keep K6).keep K8) rfl m1 ?_)
  intro lF vF nn h9 tk9 c9 oc9 v9 u9 F9 N9 iF d9 s9
  show wpAny _ _ (execs _ _) Q E _
  have K9 : Keep nw8 ((lF, PySem.W.listOf vF.toArray nn) :: (c9, oc9) :: (30, tabObj #[rawInt i2dPos.line, rawInt i2dPos.col, .ref c9]) :: nw8) := Keep.sub fun q hq => .tail _ (.tail _ (.tail _ hq))
  refine wpAny_execs_cons (seg_if w p loose mean mg mb dp un gd outer A₀ base g L _ _ _ _ E k tm lF vF nn B X T hd hu (by rw [List.size_toArray, ints_len iF, lrk]) (by omega) F9 N9 rfl rfl (.head _) ?_)
  intro h10 tk10 F10 N10
  show wpAny _ _ (execs _ _) Q E _
  have KK := K6.trans (K8.trans K9)
  refine h x y lA lB lF c9 c7 oc9 oc7 v9 v7 u9 u7 tm vA vB vF nn p3 h10 tk10 _ _ F10 N10 ?_ (K2.trans KK) (w1.pick KK) (w2.pick KK)
    ((K8.trans K9) _ qA not_tab_seq) ((K8.trans K9) _ qB not_tab_seq) (.head _) iA iB iF (.tail _ (.tail _ (.head _))) (.tail _ (.tail _ (.tail _ r37))) (.tail _ (.head _)) (.tail _ (.tail _ (.tail _ r7))) d9 s9 d7 s7 (.tail _ (.tail _ (.tail _ r124))) L124 rfl rfl rfl m2 rfl rfl rfl
  exact (((((((Agree.put (nm := Str.ofString "here") (by decide)).trans (Agree.put (nm := Str.ofString "there") (by decide))).trans (Agree.put (nm := Str.ofString "most") (by decide))).trans (Agree.put (nm := Str.ofString "left") (by decide))).trans (Agree.put (nm := Str.ofString "right") (by decide))).trans (Agree.put (nm := Str.ofString "number") (by decide))).trans (Agree.put (nm := Str.ofString "figures") (by decide)))
theorem sw3 {g h : Heap} {L : Addr} {a b c : Addr × Obj} {nw : List (Addr × Obj)} (N : News g L h (a :: b :: c :: nw)) : News g L h (c :: b :: a :: nw) := fun q hq => N q (by
  rcases List.mem_cons.mp hq with h | hq
  · rw [h]; exact .tail _ (.tail _ (.head _))
  rcases List.mem_cons.mp hq with h | hq
  · rw [h]; exact .tail _ (.head _)
  rcases List.mem_cons.mp hq with h | hq
  · rw [h]; exact .head _
  · exact .tail _ (.tail _ (.tail _ hq)))
/-- the second part: the three lists of witnesses -/
theorem turn_b (w : World) (p : Program) (loose : List Str) (mean : ExcName → Option Value) (mg mb : Str → Option Value) (dp un : Nat) (gd : Option (List Code)) (outer : List Env) (A₀ : Around) (base g : Heap) (L : Addr) (s : Shared) (m : Str → Option Value) (nw : List (Addr × Obj)) (Q : Flow → Shared → Prop) (E : Value → Shared → Prop)
    (hE : PassesOwn (model PySem.Challenge.rw_pe0269_01.row.prog w) ((arC dp un gd outer).deeper (lawEnv L)) (lawEnv L) E)
    (rest : List Stmt) (one two : Str) (k : Nat) (n H : Int) (lA lB lF c1 c2 : Addr) (o1 o2 : Obj) (v1 v2 : Array Value) (t1 t2 tm tH : Tok) (vA vB vF : List Value) (nn : Nat)
    (B : Below A₀ base outer g) (X : (Mine.hd.heap_1 w.params).In g) (T : Top p loose mean mg mb g) (hd : dp + 40 < recursionLimit) (hu : un + 400 < cLine)
    (P : PairOk one two k) (hP : PairH n H) (F : Fr g L s.heap m) (N : News g L s.heap nw)
    (qA : (lA, LCg.lst vA) ∈ nw) (qB : (lB, LCg.lst vB) ∈ nw) (qF : (lF, PySem.W.listOf vF.toArray nn) ∈ nw) (iA : IntsAre vA ((rangeKs 1 k).map (colS one))) (iB : IntsAre vB ((rangeKs 1 k).map (colS two))) (iF : IntsAre vF ((rangeKs 1 k).map fun t => colS one t + H - colS two t))
    (m30 : (30, tabObj #[rawInt i2dPos.line, rawInt i2dPos.col, .ref c1]) ∈ nw) (m37 : (37, tabObj #[rawInt d2iPos.line, rawInt d2iPos.col, .ref c2]) ∈ nw) (mc1 : (c1, o1) ∈ nw) (mc2 : (c2, o2) ∈ nw) (q1 : o1.data = .fields v1) (q2 : v1[1]? = some (.str i2dQ t1)) (q3 : o2.data = .fields v2) (q4 : v2[1]? = some (.str d2iQ t2))
    (e4 : m (Str.ofString "half") = some (.int H tH)) (e5 : m (Str.ofString "most") = some (.int k tm)) (e6 : m (Str.ofString "left") = some (.ref lA)) (e7 : m (Str.ofString "right") = some (.ref lB)) (e8 : m (Str.ofString "figures") = some (.ref lF))
    (h : ∀ (D1 D2 D3 : Addr) (hs ls us : List Value) (j1 j2 j3 : Nat) h' tk' m' nw', Fr g L h' m' → News g L h' nw' → Agree m m' → (∀ q ∈ nw, q ∈ nw') →
      (∀ z, z ∉ [Str.ofString "high", Str.ofString "low", Str.ofString "unlike", Str.ofString "size", Str.ofString "first", Str.ofString "second", Str.ofString "figure", Str.ofString "over", Str.ofString "rest"] → m' z = m z) →
      m' (Str.ofString "high") = some (.ref D1) → m' (Str.ofString "low") = some (.ref D2) → m' (Str.ofString "unlike") = some (.ref D3) →
      (D1, PySem.W.listOf hs.toArray j1) ∈ nw' → (D2, PySem.W.listOf ls.toArray j2) ∈ nw' → (D3, PySem.W.listOf us.toArray j3) ∈ nw' →
      TripL nw' hs (witS geB (wOne one) (wTwo two) k) → TripL nw' ls (witS geB (wTwo two) (wOne one) k) → TripL nw' us (witS neB (wOne one) (wTwo two) k) →
      wpAny (model PySem.Challenge.rw_pe0269_01.row.prog w) ((arC dp un gd outer).deeper (lawEnv L)) (execs rest (lawEnv L)) Q E { s with heap := h', toks := tk' }) :
    wpAny (model PySem.Challenge.rw_pe0269_01.row.prog w) ((arC dp un gd outer).deeper (lawEnv L)) (execs (tst 8 :: tst 9 :: tst 10 :: tst 11 :: rest) (lawEnv L)) Q E s := by
  obtain ⟨-, -, hk1, hk4, -, -, -, hcol, -⟩ := P
  obtain ⟨hn, hbits, hH16, hH64, hpw⟩ := hP
  refine wpAny_execs_cons (seg_high w p loose mean mg mb dp un gd outer A₀ base g L _ _ nw _ E B X T hd hu F N ?_)
  intro D1 h1 tk1 F1 N1 f1
  show wpAny _ _ (execs _ _) Q E _
  refine wpAny_execs_cons (seg_low w p loose mean mg mb dp un gd outer A₀ base g L _ _ _ _ E B X T hd hu F1 N1 ?_)
  intro D2 h2 tk2 F2 N2 f2
  show wpAny _ _ (execs _ _) Q E _
  refine wpAny_execs_cons (seg_unlike w p loose mean mg mb dp un gd outer A₀ base g L _ _ _ _ E B X T hd hu F2 N2 ?_)
  intro D3 h3 tk3 F3 N3 f3
  show wpAny _ _ (execs _ _) Q E _
  refine wpAny_execs_cons (seg_zip w p loose mean mg mb dp un gd outer A₀ base g L _ _ nw _ E hE n H k nn tH tm (colS one) (colS two) lA lB lF D1 D2 D3 c1 c2 vA vB vF o1 o2 v1 v2 t1 t2 B X T hd hu hn hbits ⟨hH64, by rw [← hpw]; omega⟩ (by omega) (fun t a b => by have := hcol t a b; omega) F3 (sw3 N3)
    m30 m37 mc1 mc2 q1 q2 q3 q4 qA qB qF iA iB iF (f2 (D1, _) (.head _)) (f3 (D1, _) (.tail _ (.head _))) (f3 (D2, _) (.head _)) f1 (fun q hq => f2 q (.tail _ hq)) (fun q hq => f3 q (.tail _ (.tail _ hq))) rfl rfl rfl e4 e5 e6 e7 e8 ?_)
  intro h4 tk4 m4 nw4 F4 N4 J
  show wpAny _ _ (execs _ _) Q E _
  obtain ⟨hm4, hs, ls, us, j1, j2, j3, tl, rfl, sub, -, x1, x2, x3, -, -, -⟩ := J
  have sub' : ∀ q ∈ tl, q ∈ (D1, PySem.W.listOf hs.toArray j1) :: (D2, PySem.W.listOf ls.toArray j2) :: (D3, PySem.W.listOf us.toArray j3) :: tl := fun q hq => .tail _ (.tail _ (.tail _ hq))
  have ca : ∀ t : Int, 1 ≤ t → t ≤ k → colS one t = indentS (wOne one) t := fun t a b => (hcol t a b).1
  have cb : ∀ t : Int, 1 ≤ t → t ≤ k → colS two t = indentS (wTwo two) t := fun t a b => (hcol t a b).2.1
  rw [zS_congr ca cb] at x1 x3
  rw [zS_congr cb ca] at x2
  refine h D1 D2 D3 hs ls us j1 j2 j3 h4 tk4 m4 _ F4 N4 ?_ (fun q hq => sub' q (sub q hq)) ?_ ?_ ?_ ?_ (.head _) (.tail _ (.head _)) (.tail _ (.tail _ (.head _))) (TripL.mono x1 sub') (TripL.mono x2 sub') (TripL.mono x3 sub')
  · refine Agree.trans ?_ (Agree.zip hm4)
    exact ((Agree.put (nm := Str.ofString "high") (by decide)).trans (Agree.put (nm := Str.ofString "low") (by decide))).trans (Agree.put (nm := Str.ofString "unlike") (by decide))
  · intro z hz
    simp only [List.mem_cons, List.not_mem_nil, or_false, not_or] at hz
    rw [hm4 z hz.2.2.2.1 hz.2.2.2.2.1 hz.2.2.2.2.2.1 hz.2.2.2.2.2.2.1 hz.2.2.2.2.2.2.2.1 hz.2.2.2.2.2.2.2.2]
    show (if _ then _ else _) = _
    rw [if_neg hz.2.2.1, if_neg hz.2.1, if_neg hz.1]
  · rw [hm4 _ (by decide) (by decide) (by decide) (by decide) (by decide) (by decide)]; rfl
  · rw [hm4 _ (by decide) (by decide) (by decide) (by decide) (by decide) (by decide)]; rfl
  · rw [hm4 _ (by decide) (by decide) (by decide) (by decide) (by decide) (by decide)]; rfl
/-- the third part: the questions and the words -/
theorem turn_c (w : World) (p : Program) (loose : List Str) (mean : ExcName → Option Value) (mg mb : Str → Option Value) (dp un : Nat) (gd : Option (List Code)) (outer : List Env) (A₀ : Around) (base g : Heap) (L : Addr) (s : Shared) (m : Str → Option Value) (nw : List (Addr × Obj)) (Q : Flow → Shared → Prop) (E : Value → Shared → Prop)
    (hE : PassesOwn (model PySem.Challenge.rw_pe0269_01.row.prog w) ((arC dp un gd outer).deeper (lawEnv L)) (lawEnv L) E)
    (one two : Str) (k : Nat) (x y D1 D2 D3 : Addr) (tm : Tok) (hs ls us : List Value) (j1 j2 j3 : Nat) (ps : Array Value)
    (B : Below A₀ base outer g) (X : (Mine.hd.heap_1 w.params).In g) (T : Top p loose mean mg mb g) (hd : dp + 40 < recursionLimit) (hu : un + 400 < cLine) (hG : AllBare s.gens)
    (P : PairOk one two k) (F : Fr g L s.heap m) (N : News g L s.heap nw) (rx : WsR nw x (wOne one)) (ry : WsR nw y (wTwo two))
    (e1 : m (Str.ofString "here") = some (.ref x)) (e2 : m (Str.ofString "there") = some (.ref y)) (e3 : m (Str.ofString "most") = some (.int k tm)) (e4 : m (Str.ofString "high") = some (.ref D1)) (e5 : m (Str.ofString "low") = some (.ref D2)) (e6 : m (Str.ofString "unlike") = some (.ref D3))
    (d1 : (D1, PySem.W.listOf hs.toArray j1) ∈ nw) (d2 : (D2, PySem.W.listOf ls.toArray j2) ∈ nw) (d3 : (D3, PySem.W.listOf us.toArray j3) ∈ nw)
    (x1 : TripL nw hs (witS geB (wOne one) (wTwo two) k)) (x2 : TripL nw ls (witS geB (wTwo two) (wOne one) k)) (x3 : TripL nw us (witS neB (wOne one) (wTwo two) k)) (m124 : (124, tabObj ps) ∈ nw) (hps : PsOk ps)
    (h : ∀ h' tk' gs' m' nw', AllBare gs' → Fr g L h' m' → News g L h' nw' → Agree m m' → Keep nw nw' → (∀ q ∈ nw, q.1 ≠ 124 → q ∈ nw') → (∃ ps', PsOk ps' ∧ (124, tabObj ps') ∈ nw') → Q .next { s with heap := h', toks := tk', gens := gs' }) :
    wpAny (model PySem.Challenge.rw_pe0269_01.row.prog w) ((arC dp un gd outer).deeper (lawEnv L)) (execs [tst 12, tst 13, tst 14, tst 15, tst 16] (lawEnv L)) Q E s := by
  obtain ⟨-, -, hk1, hk4, -, k1, k2, -, f1, f2, f3, r1, r2, r3⟩ := P
  refine wpAny_execs_cons (seg_if1 w p loose mean mg mb dp un gd outer A₀ base g L s m nw _ E x y (wOne one) (wTwo two) D1 D2 hs ls j1 j2 B X T hd hu rx ry F N e1 e2 e4 e5 d1 d2 (by rw [k1]; exact x1) (by rw [k2]; exact x2) ?_)
  intro h1 tk1 F1 N1
  show wpAny _ _ (execs _ _) Q E _
  refine wpAny_execs_cons (seg_if2 w p loose mean mg mb dp un gd outer A₀ base g L _ m nw _ E x y (wOne one) (wTwo two) D3 us j3 _ B X T hd hu rx ry F1 N1 e1 e2 e6 d3 (by rw [k1]; exact x3) f1 (by rw [k1]; rfl) ?_)
  intro h2 tk2 F2 N2
  show wpAny _ _ (execs _ _) Q E _
  refine wpAny_execs_cons (seg_if3 w p loose mean mg mb dp un gd outer A₀ base g L _ m nw _ E x y (wOne one) (wTwo two) D1 D2 hs ls j1 j2 _ _ _ _ B X T hd hu rx ry F2 N2 e1 e2 e4 e5 d1 d2 x1 x2 f2 rfl f3 rfl ?_)
  intro h3 tk3 F3 N3
  show wpAny _ _ (execs _ _) Q E _
  refine wpAny_execs_cons (seg_words w p loose mean mg mb dp un gd outer A₀ base g L _ m nw _ E k tm ps B X T hd hu (by omega) hG F3 N3 e3 m124 hps ?_)
  intro tw h4 tk4 gs4 ps4 hG4 F4 N4 hps4
  show wpAny _ _ (execs _ _) Q E _
  obtain ⟨-, off, pk⟩ := pick_tab N m124
  have K := keep_filter (PS.of_F hps) pk
  have al : ∀ q ∈ nw, q.1 ≠ 124 → q ∈ nw.filter fun q => decide (@Ne Nat q.1 124) := fun q hq hn => List.mem_filter.mpr ⟨hq, decide_eq_true hn⟩
  have row : ∀ (D : Addr) (vs : List Value) (j : Nat) (Pb : Int → Int → Bool) (W V : Ws), (D, PySem.W.listOf vs.toArray j) ∈ nw → TripL nw vs (witS Pb W V k) → RowLev k (witS Pb W V k) → RowOk k (fmtS (allS k)) (nw.filter fun q => decide (@Ne Nat q.1 124)) D := fun D vs j Pb W V a b c => by
    have wm := wit_mem (P := Pb) (W := W) (V := V) (k := k) (by omega)
    have le := tripL_len b
    exact ⟨vs, j, _, _, K _ a not_tab_seq, b.keep K, by rw [List.size_toArray, le], by omega, by omega, wm.2, c⟩
  refine wpAny_execs_cons (seg_rows w p loose mean mg mb dp un gd outer A₀ base g L _ _ _ _ E hE k tm tw ps4 D1 D2 D3 (fmtS (allS k)) B X T hd hu (by omega) hG4 F4 N4 off hps4 e3 rfl e4 e5 e6 (row _ _ _ _ _ _ d1 x1 r1) (row _ _ _ _ _ _ d2 x2 r2) (row _ _ _ _ _ _ d3 x3 r3) ?_)
  intro h5 tk5 gs5 ps5 m5 hG5 F5 hm5 N5 hps5
  show wpAny _ _ (execs _ _) Q E _
  refine wpAny_execs_nil (h h5 tk5 gs5 m5 _ hG5 F5 N5 ?_ (K.trans (Keep.sub fun q hq => .tail _ hq)) (fun q hq hn => .tail _ (al q hq hn)) ⟨ps5, hps5, .head _⟩)
  exact (Agree.put (nm := Str.ofString "words") (by decide)).trans (Agree.rows hm5)
theorem t_turn (w : World) (p : Program) (loose : List Str) (mean : ExcName → Option Value) (mg mb : Str → Option Value) (dp un : Nat) (gd : Option (List Code)) (outer : List Env) (A₀ : Around) (base g : Heap) (L : Addr) (s : Shared) (m : Str → Option Value) (nw : List (Addr × Obj)) (Q : Flow → Shared → Prop) (E : Value → Shared → Prop)
    (hE : PassesOwn (model PySem.Challenge.rw_pe0269_01.row.prog w) ((arC dp un gd outer).deeper (lawEnv L)) (lawEnv L) E)
    (one two : Str) (k : Nat) (n H : Int) (tn tH t1 t2 : Tok) (o1 o2 : Obj)
    (B : Below A₀ base outer g) (X : (Mine.hd.heap_1 w.params).In g) (T : Top p loose mean mg mb g) (hd : dp + 40 < recursionLimit) (hu : un + 400 < cLine) (hG : AllBare s.gens)
    (P : PairOk one two k) (hP : PairH n H) (F : Fr g L s.heap m) (N : News g L s.heap nw) (tabs : TabsOk nw)
    (m1 : m (Str.ofString "width") = some (.int n tn)) (m2 : m (Str.ofString "half") = some (.int H tH))
    (c1 : (L + 1, o1) ∈ nw) (e1 : o1.data = .cell (some (.str one t1))) (c2 : (L + 1 + 1, o2) ∈ nw) (e2 : o2.data = .cell (some (.str two t2)))
    (h : ∀ h' tk' gs' m' nw', AllBare gs' → Fr g L h' m' → Agree m m' → News g L h' nw' → Keep nw nw' → TabsOk nw' → Q .next { s with heap := h', toks := tk', gens := gs' }) :
    wpAny (model PySem.Challenge.rw_pe0269_01.row.prog w) ((arC dp un gd outer).deeper (lawEnv L)) (execs turnBody (lawEnv L)) Q E s := by
  rw [turn_list]
  refine turn_a w p loose mean mg mb dp un gd outer A₀ base g L s m nw Q E _ one two k n H tn tH t1 t2 o1 o2 B X T hd hu P hP F N tabs m1 m2 c1 e1 c2 e2 ?_
  intro x y lA lB lF b1 b2 oa ob v1 v2 u1 u2 tm vA vB vF nn ps h1 tk1 m' nw1 F1 N1 ag1 K1 rx ry qA qB qF iA iB iF m30 m37 mc1 mc2 z1 z2 z3 z4 m124 hps a1 a2 a3 a4 a5 a6 a7
  refine turn_b w p loose mean mg mb dp un gd outer A₀ base g L _ m' nw1 Q E hE _ one two k n H lA lB lF b1 b2 oa ob v1 v2 u1 u2 tm tH vA vB vF nn B X T hd hu P hP F1 N1 qA qB qF iA iB iF m30 m37 mc1 mc2 z1 z2 z3 z4 a4 a3 a5 a6 a7 ?_
  intro D1 D2 D3 hs ls us j1 j2 j3 h2 tk2 m'' nw2 F2 N2 ag2 sub2 eq2 y1 y2 y3 d1 d2 d3 x1 x2 x3
  have K2 : Keep nw1 nw2 := Keep.sub sub2
  refine turn_c w p loose mean mg mb dp un gd outer A₀ base g L _ m'' nw2 Q E hE one two k x y D1 D2 D3 tm hs ls us j1 j2 j3 ps B X T hd hu hG P F2 N2 (rx.pick K2) (ry.pick K2) ((eq2 _ (by decide)).trans a1) ((eq2 _ (by decide)).trans a2) ((eq2 _ (by decide)).trans a3) y1 y2 y3 d1 d2 d3 x1 x2 x3 (sub2 _ m124) hps ?_
  intro h3 tk3 gs3 m3 nw3 hG3 F3 N3 ag3 K3 al3 p124
  obtain ⟨ps', hp', i124⟩ := p124
  refine h h3 tk3 gs3 m3 nw3 hG3 F3 ((ag1.trans ag2).trans ag3) N3 ((K1.trans K2).trans K3) ⟨_, _, ps', al3 _ (sub2 _ m37) (show @Ne Nat 37 124 by decide), al3 _ (sub2 _ m30) (show @Ne Nat 30 124 by decide), i124, .inr ⟨b2, ob, v2, u2, rfl, K3 _ (sub2 _ mc2) (not_tab_code z3 z4), z3, z4⟩, .inr ⟨b1, oa, v1, u1, rfl, K3 _ (sub2 _ mc1) (not_tab_code z1 z2), z1, z2⟩, hp'⟩
end
section
theorem flush_Lu : (1 : Nat) = 1 := by
  w_top off
  k_with_none
  first | walk1 | rfl
def lst (i : Nat) : Stmt := lawBody.getD i (.Pass ⟨0, 0, 0, 0⟩)
theorem comp_ints {prog : Program} {w : World} {A : Around} {s : Shared} {h₀ : Heap} {L : Addr} {m : Str → Option Value} {env : Env} {elt : Expr} {x : Str} {scope : Scope} {cl : List (Str × Addr)} {Fin : Shared → List Value → List (Addr × Obj) → Prop} {ax : Addr} {nw : List (Addr × Obj)} {vs : List Value} {ns : List Int} {k : Nat}
    (R : List Int → List Value → Prop) (h0 : R [] []) (hh : A.handled = none) (F : Fr h₀ L s.heap m) (N : News h₀ L s.heap ((ax, PySem.W.listOf vs.toArray k) :: nw)) (hI : IntsAre vs ns) (hn : ns.length ≤ 10)
    (turn : ∀ a t zs I oI C oC D m₂ ys h tk (E' : Value → Shared → Prop), a ∈ ns → R zs ys → LCg.NsObj oC m₂ → m₂ x = some (.int a t) → Fr h₀ L h m → News h₀ L h ((I, oI) :: (C, oC) :: (D, LCg.lst ys) :: (ax, PySem.W.listOf vs.toArray k) :: nw) → LCg.Off3 I C D ((ax, PySem.W.listOf vs.toArray k) :: nw) → ((@Ne Nat I C) ∧ (@Ne Nat I D) ∧ (@Ne Nat C D)) →
      wpAny (model prog w) A (eval elt (compEnvC scope cl C env)) (fun y s' => CompPost h₀ L I C D m s oI oC (LCg.lst ys) (fun nw' => nw' = (ax, PySem.W.listOf vs.toArray k) :: nw ∧ R (zs ++ [a]) (ys ++ [y])) s') E' { s with heap := h, toks := tk })
    (fin : ∀ g ys, R ns ys → Fin { s with heap := g } ys ((ax, PySem.W.listOf vs.toArray k) :: nw)) : LCg.CompSrc prog w A h₀ L m env elt x scope cl Fin (.ref ax) s := by
  have hl := IntsAre.length hI
  have hsz : vs.toArray.size = ns.length := by simp [hl]
  refine comp_list (its := vs.toArray) (k := k) (fun i ys nw' => nw' = (ax, PySem.W.listOf vs.toArray k) :: nw ∧ R (ns.take i) ys) hh F N (.head _) (by omega) ⟨rfl, h0⟩ (fun i ys nw' h => by rw [h.1]; exact .head _) ?_ ?_
  · rintro i v I oI C oC D m₂ ys nw' h tk E' hi hv ⟨rfl, hys⟩ hC hx F' N' off ne
    obtain ⟨a, t, e, ha⟩ := hI.at i v (by simpa using hv)
    subst e
    refine wpAny_mono (turn a t _ I oI C oC D m₂ ys h tk E' (List.mem_of_getElem? ha) hys hC hx F' N' off ne) (fun y s' ⟨h', tk', nw'', e, F'', N'', off', e1, e2⟩ => ⟨h', tk', nw'', e, F'', N'', off', e1, ?_⟩) fun _ _ e => e
    rw [List.take_add_one, ha]
    exact e2
  · rintro gg ys nw' ⟨rfl, hys⟩
    refine fin gg ys ?_
    rw [hsz, List.take_length] at hys
    exact hys
local macro_rules | `(tactic| walk_at "CompSrc") => `(tactic| refine stop9 ?_)
theorem seg_marks (w : World) (p : Program) (loose : List Str) (mean : ExcName → Option Value) (mg mb : Str → Option Value) (dp un : Nat) (gd : Option (List Code)) (outer : List Env) (A₀ : Around) (base g : Heap) (L : Addr) (s : Shared) (m : Str → Option Value) (nw : List (Addr × Obj)) (Q : Flow → Shared → Prop) (E : Value → Shared → Prop)
    (a : Addr) (vs : List Value) (script : List Int)
    (B : Below A₀ base outer g) (X : (Mine.hd.heap_1 w.params).In g) (T : Top p loose mean mg mb g) (hd : dp + 60 < recursionLimit) (hu : un + 600 < cLine) (hl : g.IsList a vs.toArray) (hI : IntsAre vs script) (hn : script.length ≤ 63)
    (F : Fr g L s.heap m) (N : News g L s.heap nw) (m1 : m (Str.ofString "script") = some (.ref a))
    (h : ∀ D ys h' tk', Fr g L h' (fun z => if z = Str.ofString "marks" then some (.ref D) else m z) → News g L h' ((D, LCg.lst ys) :: nw) → IntsAre ys ((script.take 4).map fun x => x.fmod (10 ^ Int.toNat 6)) → Q .next { s with heap := h', toks := tk' }) :
    wpAny (model PySem.Challenge.rw_pe0269_01.row.prog w) ((arC dp un gd outer).deeper (lawEnv L)) (exec (lst 0) (lawEnv L)) Q E s := by
  revert X
  k_fill
  intro X
  have q2 : lawScope = lawScope := rfl
  conv at q2 => rhs; whnf
  (try dsimp only at q2)
  have q3 : lst 0 = lst 0 := rfl
  conv at q3 => rhs; whnf
  (try dsimp only at q3)
  unfold lawEnv
  rw [q2, q3]
  clear q2 q3
  have F9 := Mine.Fr.pin F m1
  clear F
  have hvl := IntsAre.length hI
  k_with_none
  k_dflt (refine LCg.Assign_ListComp_U (cl := []) (F₀ := by k_asm) (by rfl) (by with_unfolding_all rfl) (by with_unfolding_all rfl) (by decide) (by rfl) (by decide) (by rfl) (by rfl) (by rfl) ?_)
  k_steps
  all_goals (try k_data)
  unfold Stop9
  (rename IntsAre _ (List.take _ _) => hT)
  (rename News _ _ _ _ => NE)
  (rename Fr _ _ _ _ => FE)
  have hTl := IntsAre.length hT
  have hTm : (List.take 4 script).length ≤ 4 := by rw [List.length_take]; omega
  refine comp_ints (fun zs ys => IntsAre ys (zs.map fun x => x.fmod (10 ^ Int.toNat 6))) .nil rfl FE NE hT (by omega) ?_ ?_
  · intro x t zs I oI C oC D m₂ ys h1 tk1 E' hx hys hC hmx F' N' off ne
    k_steps
    all_goals (try k_data)
    exact compInv_end (by k_asm) (by k_asm) off ⟨rfl, by rw [List.map_append]; exact IntsAre.append hys (.cons _ _ .nil)⟩
  · intro g1 ys hys D h2 tk2 F2 N2 off2
    exact h D ys h2 tk2 (unpin F2 m1) (fun q hq => N2 q (by
      rcases List.mem_cons.mp hq with h | hq
      · rw [h]; exact .head _
      · exact .tail _ (.tail _ hq))) hys

theorem sum_N {prog : Program} {w : World} {A : Around} {E : Value → Shared → Prop} {s : Shared} {h₀ : Heap} {L l : Addr} {m : Str → Option Value} {news : List (Addr × Obj)} {vs : List Value} {ns : List Int} {Q : Value → Shared → Prop} (hh : A.handled = none) (F : Fr h₀ L s.heap m) (N : News h₀ L s.heap news) (hl : s.heap.IsList l vs.toArray) (hi : IntsAre vs ns)
    (h : ∀ h' tk t', Fr h₀ L h' m → News h₀ L h' news → Q (.int ns.sum t') { s with heap := h', toks := tk }) :
    wpAny (model prog w) A (call (.builtin "sum") [.ref l]) Q E s := by
  obtain ⟨xs, hx⟩ := hi.allInts.items
  have hn : numsOf vs.toArray.toList = ns := by rw [show vs.toArray.toList = vs from rfl, hi.numsOf]
  rw [hx] at hl hn
  rw [nums_intItems] at hn
  refine sum_intListG hh hl fun h' tk t' hk => ?_
  have := h h' tk t' (F.keeps hk) (N.grown hk)
  rw [preSum_eq, List.take_of_length_le (by simp), hn]
  exact this
theorem width_ok {x : Int} : 5 ≤ x.fmod 3 + 5 ∧ x.fmod 3 + 5 ≤ 7 := by
  have := Int.fmod_nonneg_of_pos x (show (0 : Int) < 3 by decide)
  have := Int.fmod_lt_of_pos x (show (0 : Int) < 3 by decide)
  omega
theorem sum_b {l : List Int} (h : ∀ x ∈ l, 0 ≤ x ∧ x < 1000000) : 0 ≤ l.sum ∧ l.sum ≤ 1000000 * l.length := by
  induction l with
  | nil => simp
  | cons a r ih =>
    have h1 := h a (.head _)
    have h2 := ih fun x hx => h x (.tail _ hx)
    simp only [List.sum_cons, List.length_cons]
    omega
theorem half_ok {n : Int} (hn : 5 ≤ n ∧ n ≤ 7) : PairH n (2 ^ (n - 1).toNat) := by
  have : n = 5 ∨ n = 6 ∨ n = 7 := by omega
  rcases this with rfl | rfl | rfl <;> exact ⟨by decide, by decide +kernel, by decide, by decide, by decide⟩
theorem seg_width (w : World) (p : Program) (loose : List Str) (mean : ExcName → Option Value) (mg mb : Str → Option Value) (dp un : Nat) (gd : Option (List Code)) (outer : List Env) (A₀ : Around) (base g : Heap) (L : Addr) (s : Shared) (m : Str → Option Value) (nw : List (Addr × Obj)) (Q : Flow → Shared → Prop) (E : Value → Shared → Prop)
    (D : Addr) (ys : List Value) (marks : List Int)
    (B : Below A₀ base outer g) (X : (Mine.hd.heap_1 w.params).In g) (T : Top p loose mean mg mb g) (hd : dp + 60 < recursionLimit) (hu : un + 600 < cLine) (hI : IntsAre ys marks) (hn : marks.length ≤ 4) (hb : ∀ x ∈ marks, 0 ≤ x ∧ x < 1000000)
    (F : Fr g L s.heap m) (N : News g L s.heap nw) (m1 : m (Str.ofString "marks") = some (.ref D)) (hD : (D, LCg.lst ys) ∈ nw)
    (h : ∀ n t h' tk', 5 ≤ n ∧ n ≤ 7 → Fr g L h' (fun z => if z = Str.ofString "width" then some (.int n t) else m z) → News g L h' nw → Q .next { s with heap := h', toks := tk' }) :
    wpAny (model PySem.Challenge.rw_pe0269_01.row.prog w) ((arC dp un gd outer).deeper (lawEnv L)) (exec (lst 1) (lawEnv L)) Q E s := by
  revert X
  k_fill
  intro X
  have q2 : lawScope = lawScope := rfl
  conv at q2 => rhs; whnf
  (try dsimp only at q2)
  have q3 : lst 1 = lst 1 := rfl
  conv at q3 => rhs; whnf
  (try dsimp only at q3)
  unfold lawEnv
  rw [q2, q3]
  clear q2 q3
  have F9 := Mine.Fr.pin F m1
  clear F
  have hvl := IntsAre.length hI
  k_with_none
  have hsb := sum_b hb
  (k_with "call builtin:sum" => (k_here; k_dflt (refine' sum_N rfl ?F ?N ?hl ?hi ?_; (case F => k_asm); (case N => k_asm); (case hl => exact News.isList (by k_asm) (by k_mem)); (case hi => assumption)); intro h' tk' t' F' N'))
  k_steps
  all_goals (try k_data)
  (rename Fr _ _ _ _ => FE; rename News _ _ _ _ => NE)
  exact h _ _ _ _ width_ok (unpin FE m1) NE
theorem seg_half (w : World) (p : Program) (loose : List Str) (mean : ExcName → Option Value) (mg mb : Str → Option Value) (dp un : Nat) (gd : Option (List Code)) (outer : List Env) (A₀ : Around) (base g : Heap) (L : Addr) (s : Shared) (m : Str → Option Value) (nw : List (Addr × Obj)) (Q : Flow → Shared → Prop) (E : Value → Shared → Prop)
    (n : Int) (tn : Tok)
    (B : Below A₀ base outer g) (X : (Mine.hd.heap_1 w.params).In g) (T : Top p loose mean mg mb g) (hd : dp + 60 < recursionLimit) (hu : un + 600 < cLine) (hn : 5 ≤ n ∧ n ≤ 7)
    (F : Fr g L s.heap m) (N : News g L s.heap nw) (m1 : m (Str.ofString "width") = some (.int n tn))
    (h : ∀ H t h' tk', PairH n H → Fr g L h' (fun z => if z = Str.ofString "half" then some (.int H t) else m z) → News g L h' nw → Q .next { s with heap := h', toks := tk' }) :
    wpAny (model PySem.Challenge.rw_pe0269_01.row.prog w) ((arC dp un gd outer).deeper (lawEnv L)) (exec (lst 2) (lawEnv L)) Q E s := by
  revert X
  k_fill
  intro X
  have q2 : lawScope = lawScope := rfl
  conv at q2 => rhs; whnf
  (try dsimp only at q2)
  have q3 : lst 2 = lst 2 := rfl
  conv at q3 => rhs; whnf
  (try dsimp only at q3)
  unfold lawEnv
  rw [q2, q3]
  clear q2 q3
  have F9 := Mine.Fr.pin F m1
  clear F
  k_with_none
  (k_with "call builtin:sum" => (k_here; k_dflt (refine' sum_N rfl ?F ?N ?hl ?hi ?_; (case F => k_asm); (case N => k_asm); (case hl => exact News.isList (by k_asm) (by k_mem)); (case hi => assumption)); intro h' tk' t' F' N'))
  k_steps
  all_goals (try k_data)
  (rename Fr _ _ _ _ => FE; rename News _ _ _ _ => NE)
  exact h _ _ _ _ (half_ok hn) (unpin FE m1) NE
def LeadsAre (ys : List Value) (zs : List Int) : Prop := ∃ l : List (Str × Tok), ys = strValues l ∧ l.map (fun x => x.1) = zs.map leadS
theorem LeadsAre.snoc {ys : List Value} {zs : List Int} {a : Int} {t : Tok} (h : LeadsAre ys zs) : LeadsAre (ys ++ [.str (leadS a) t]) (zs ++ [a]) := by
  obtain ⟨l, rfl, hl⟩ := h
  exact ⟨l ++ [(leadS a, t)], by simp [strValues], by simp [hl]⟩
theorem LeadsAre.len {ys : List Value} {zs : List Int} (h : LeadsAre ys zs) : ys.length = zs.length := by
  obtain ⟨l, rfl, hl⟩ := h
  have := congrArg List.length hl
  simpa [strValues] using this
theorem LeadsAre.get {ys : List Value} {zs : List Int} (h : LeadsAre ys zs) {i : Nat} {v : Value} (hv : ys[i]? = some v) : ∃ a t, zs[i]? = some a ∧ v = .str (leadS a) t := by
  obtain ⟨l, rfl, hl⟩ := h
  simp only [strValues, List.getElem?_map, Option.map_eq_some_iff] at hv
  obtain ⟨q, hq, rfl⟩ := hv
  have := congrArg (fun l => l[i]?) hl
  simp only [List.getElem?_map, hq] at this
  cases e : zs[i]? with
  | none => rw [e] at this; cases this
  | some a => rw [e] at this; exact ⟨a, q.2, rfl, by rw [← Option.some.inj this]⟩
local macro_rules | `(tactic| walk_at "CompSrc") => `(tactic| refine stop9 ?_)
theorem seg_leads (w : World) (p : Program) (loose : List Str) (mean : ExcName → Option Value) (mg mb : Str → Option Value) (dp un : Nat) (gd : Option (List Code)) (outer : List Env) (A₀ : Around) (base g : Heap) (L : Addr) (s : Shared) (m : Str → Option Value) (nw : List (Addr × Obj)) (Q : Flow → Shared → Prop) (E : Value → Shared → Prop)
    (D : Addr) (ys : List Value) (marks : List Int)
    (B : Below A₀ base outer g) (X : (Mine.hd.heap_1 w.params).In g) (T : Top p loose mean mg mb g) (hd : dp + 60 < recursionLimit) (hu : un + 600 < cLine) (hI : IntsAre ys marks) (hn : marks.length ≤ 4)
    (F : Fr g L s.heap m) (N : News g L s.heap nw) (m1 : m (Str.ofString "marks") = some (.ref D)) (hD : (D, LCg.lst ys) ∈ nw)
    (h : ∀ D' zs h' tk', Fr g L h' (fun z => if z = Str.ofString "leads" then some (.ref D') else m z) → News g L h' ((D', LCg.lst zs) :: nw) → LeadsAre zs ((marks ++ [66, 137]).take 4) → Q .next { s with heap := h', toks := tk' }) :
    wpAny (model PySem.Challenge.rw_pe0269_01.row.prog w) ((arC dp un gd outer).deeper (lawEnv L)) (exec (lst 3) (lawEnv L)) Q E s := by
  revert X
  k_fill
  intro X
  have q2 : lawScope = lawScope := rfl
  conv at q2 => rhs; whnf
  (try dsimp only at q2)
  have q3 : lst 3 = lst 3 := rfl
  conv at q3 => rhs; whnf
  (try dsimp only at q3)
  unfold lawEnv
  rw [q2, q3]
  clear q2 q3
  have F9 := Mine.Fr.pin F m1
  clear F
  have hvl := IntsAre.length hI
  k_with_none
  k_dflt (refine LCg.Assign_ListComp_U (cl := []) (F₀ := by k_asm) (by rfl) (by with_unfolding_all rfl) (by with_unfolding_all rfl) (by decide) (by rfl) (by decide) (by rfl) (by rfl) (by rfl) ?_)
  (k_with "call builtin:sum" => (k_here; k_dflt (refine' sum_N rfl ?F ?N ?hl ?hi ?_; (case F => k_asm); (case N => k_asm); (case hl => exact News.isList (by k_asm) (by k_mem)); (case hi => assumption)); intro h' tk' t' F' N'))
  (k_with "call ref" => (k_here; k_dflt (refine' useC (t_lead _ _ _) ?B ?F ?X ?N ?T ?hA ?hf ?hke ?hp ?hd ?hu ?_; (case B => assumption); (case F => k_asm); (case X => assumption); (case N => k_asm); (case T => assumption); (case hA => exact rfl); (case hf => exact rfl); (case hke => exact rfl); (case hp => exact trivial); (case hd => ((try dsimp only [arC]); omega)); (case hu => (have hcL9 := cLine_is; (try dsimp only [arC]); omega))); intro v' h' tk' F' N' kp' sz' q'; obtain ⟨t', q'⟩ := q'; subst q'; clear kp' sz'))
  k_steps
  all_goals (try k_data)
  unfold Stop9
  (rename IntsAre _ (List.take _ _) => hT)
  (rename News _ _ _ _ => NE)
  (rename Fr _ _ _ _ => FE)
  have hTm : (List.take 4 (marks ++ [66, 137])).length ≤ 4 := by rw [List.length_take]; omega
  refine comp_ints (fun zs ys => LeadsAre ys zs) ⟨[], rfl, rfl⟩ rfl FE NE hT (by omega) ?_ ?_
  · intro x t zs I oI C oC D m₂ ys h1 tk1 E' hx hys hC hmx F' N' off ne
    k_steps
    all_goals (try k_data)
    exact compInv_end (by k_asm) (by k_asm) off ⟨rfl, hys.snoc⟩
  · intro g1 ys hys D h2 tk2 F2 N2 off2
    exact h D ys h2 tk2 (unpin F2 m1) (fun q hq => N2 q (by
      rcases List.mem_cons.mp hq with h | hq
      · rw [h]; exact .head _
      · exact .tail _ (.tail _ (.tail _ (.tail _ hq))))) hys
end
section
theorem flush_Lz : (1 : Nat) = 1 := by
  w_top off
  k_with_none
  first | walk1 | rfl
def outTarget : Expr := match lst 4 with | .For t _ _ _ _ => t | _ => .Constant .none 0 ⟨0, 0, 0, 0⟩
def outBody : List Stmt := match lst 4 with | .For _ _ b _ _ => b | _ => []
theorem out_body : outBody = turnBody := by with_unfolding_all rfl
/-- the two cells are written -/
theorem seg_tgt (w : World) (dp un : Nat) (gd : Option (List Code)) (outer : List Env) (g : Heap) (L : Addr) (s : Shared) (m : Str → Option Value) (nw : List (Addr × Obj)) (Q : Unit → Shared → Prop) (E : Value → Shared → Prop)
    (T : Addr) (one two : Str) (t u : Tok) (o1 o2 : Obj) (v1 v2 : Option Value) (F : Fr g L s.heap m) (N : News g L s.heap ((L + 1, o1) :: (L + 1 + 1, o2) :: nw)) (d1 : o1.data = .cell v1) (d2 : o2.data = .cell v2) (f1 : ∀ q ∈ nw, q.1 ≠ L + 1) (f2 : ∀ q ∈ nw, q.1 ≠ L + 1 + 1) (hT : IsTup s.heap T #[.str one t, .str two u])
    (h : ∀ h' tk' o1' o2', Fr g L h' m → News g L h' ((L + 1, o1') :: (L + 1 + 1, o2') :: nw) → o1'.data = .cell (some (.str one t)) → o2'.data = .cell (some (.str two u)) → Q () { s with heap := h', toks := tk' }) :
    wpAny (model PySem.Challenge.rw_pe0269_01.row.prog w) ((arC dp un gd outer).deeper (lawEnv L)) (assign outTarget (lawEnv L) (.ref T)) Q E s := by
  have q5 : lawScope = lawScope := rfl
  conv at q5 => rhs; whnf
  (try dsimp only at q5)
  have q6 : outTarget = outTarget := rfl
  conv at q6 => rhs; whnf
  (try dsimp only at q6)
  unfold lawEnv
  rw [q5, q6]
  clear q5 q6
  have n21 : @Ne Nat (L + 1) (L + 1 + 1) := neN (by omega)
  have n12 : @Ne Nat (L + 1 + 1) (L + 1) := neN (by omega)
  have f3 : ∀ p ∈ (L + 1 + 1, o2) :: nw, p.1 ≠ L + 1 := List.forall_mem_cons.mpr ⟨n12, f1⟩
  k_with_none
  k_steps
  all_goals (try k_data)
  (rename Fr _ _ _ _ => F1; rename News _ _ _ _ => N1)
  k_dflt (refine' storeX_C (c := L + 1) (v₀ := v1) F1 N1 ?c (UpdF.head f3) d1 ?_ ?a ?b; (case a => rfl); (case b => rfl); (case c => rfl))
  intro h2 o1' F2 N2 e1
  (try dsimp only at N2)
  k_steps
  all_goals (try k_data)
  (rename Fr _ _ _ _ => F3; rename News _ _ _ _ => N3)
  k_dflt (refine' storeX_C (c := L + 1 + 1) (v₀ := v2) F3 N3 ?c (UpdF.tail n21 (UpdF.head f2)) d2 ?_ ?a ?b; (case a => rfl); (case b => rfl); (case c => rfl))
  intro h4 o2' F4 N4 e2
  (try dsimp only at N4)
  k_steps
  all_goals (try k_data)
  (rename Fr _ _ _ _ => F5; rename News _ _ _ _ => N5)
  exact h _ _ _ _ F5 N5 e1 e2
theorem TabsOk.pick {nw nw' : List (Addr × Obj)} (h : TabsOk nw) (k37 : ∀ o, (37, o) ∈ nw → (37, o) ∈ nw') (k30 : ∀ o, (30, o) ∈ nw → (30, o) ∈ nw') (k124 : ∀ o, (124, o) ∈ nw → (124, o) ∈ nw') (hc : ∀ (c : Addr) (oc : Obj) vs qual t, (c, oc) ∈ nw → oc.data = .fields vs → vs[1]? = some (.str qual t) → (c, oc) ∈ nw') : TabsOk nw' := by
  obtain ⟨p1, p2, p3, t37, t30, t124, L37, L30, L124⟩ := h
  refine ⟨p1, p2, p3, k37 _ t37, k30 _ t30, k124 _ t124, ?_, ?_, L124⟩
  · rcases L37 with e | ⟨c', oc, vs, t, e, m, h1, h2⟩
    · exact .inl e
    · exact .inr ⟨c', oc, vs, t, e, hc _ _ _ _ _ m h1 h2, h1, h2⟩
  · rcases L30 with e | ⟨c', oc, vs, t, e, m, h1, h2⟩
    · exact .inl e
    · exact .inr ⟨c', oc, vs, t, e, hc _ _ _ _ _ m h1 h2, h1, h2⟩
theorem news_same {g h : Heap} {L a : Addr} {o o' : Obj} {nw : List (Addr × Obj)} (N : News g L h nw) (h1 : (a, o) ∈ nw) (h2 : (a, o') ∈ nw) : o = o' := by
  have e1 := (N _ h1).1
  have e2 := (N _ h2).1
  exact Option.some.inj (e1.symm.trans e2)
theorem cell_not_tab {o : Obj} {v : Option Value} (h : o.data = .cell v) : ¬ IsTabO o := not_tab_data h fun vs e => by cases e
/-- a ledger with the two cells ahead -/
def CellsL (L : Addr) (nw tl : List (Addr × Obj)) (o1 o2 : Obj) : Prop := nw = (L + 1, o1) :: (L + 1 + 1, o2) :: tl ∧ (∀ q ∈ tl, q.1 ≠ L + 1) ∧ (∀ q ∈ tl, q.1 ≠ L + 1 + 1)
theorem cells_front {g h : Heap} {L : Addr} {o1 o2 : Obj} {v1 v2 : Option Value} {nw : List (Addr × Obj)} {wr : List Addr} (N : News g L h nw) (c1 : (L + 1, o1) ∈ nw) (c2 : (L + 1 + 1, o2) ∈ nw) (d1 : o1.data = .cell v1) (d2 : o2.data = .cell v2) (T : TabsOk nw)
    (w37 : (37 : Addr) ∉ wr) (w30 : (30 : Addr) ∉ wr) (w124 : (124 : Addr) ∉ wr) (hc : ∀ (c : Addr) (oc : Obj) vs qual t, (c, oc) ∈ nw → oc.data = .fields vs → vs[1]? = some (.str qual t) → c ∉ wr) :
    ∃ tl, News g L h ((L + 1, o1) :: (L + 1 + 1, o2) :: tl) ∧ (∀ q ∈ tl, q.1 ≠ L + 1) ∧ (∀ q ∈ tl, q.1 ≠ L + 1 + 1) ∧ (∀ q ∈ tl, q.1 ∉ wr) ∧ TabsOk tl ∧ (∀ q ∈ nw, q.1 ∉ wr → (∀ v, q.2.data ≠ .cell v) → q ∈ tl) := by
  have pk : ∀ q ∈ nw, q.1 ∉ wr → (∀ v, q.2.data ≠ .cell v) → q ∈ nw.filter fun q => decide (q.1 ∉ wr ∧ @Ne Nat q.1 (L + 1) ∧ @Ne Nat q.1 (L + 1 + 1)) := fun q hq hw hd => List.mem_filter.mpr ⟨hq, decide_eq_true ⟨hw, fun e => by
    have e' : (L + 1, q.2) ∈ nw := by have : q = (L + 1, q.2) := Prod.ext e rfl
                                      rw [← this]; exact hq
    exact hd v1 (by rw [news_same N e' c1]; exact d1), fun e => by
    have e' : (L + 1 + 1, q.2) ∈ nw := by have : q = (L + 1 + 1, q.2) := Prod.ext e rfl
                                          rw [← this]; exact hq
    exact hd v2 (by rw [news_same N e' c2]; exact d2)⟩⟩
  refine ⟨nw.filter fun q => decide (q.1 ∉ wr ∧ @Ne Nat q.1 (L + 1) ∧ @Ne Nat q.1 (L + 1 + 1)), ?_, fun q hq => (of_decide_eq_true (List.mem_filter.mp hq).2).2.1, fun q hq => (of_decide_eq_true (List.mem_filter.mp hq).2).2.2, fun q hq => (of_decide_eq_true (List.mem_filter.mp hq).2).1, ?_, pk⟩
  · refine List.forall_mem_cons.mpr ⟨N _ c1, List.forall_mem_cons.mpr ⟨N _ c2, fun q hq => N q (List.mem_filter.mp hq).1⟩⟩
  · obtain ⟨p1, p2, p3, t37, t30, t124, -, -, -⟩ := id T
    refine T.pick (fun o m => pk _ m w37 fun v e => ?_) (fun o m => pk _ m w30 fun v e => ?_) (fun o m => pk _ m w124 fun v e => ?_) fun c oc vs qual t m h1 h2 => pk _ m (hc _ _ _ _ _ m h1 h2) fun v e => ?_
    · rw [news_same N m t37] at e; cases e
    · rw [news_same N m t30] at e; cases e
    · rw [news_same N m t124] at e; cases e
    · have e9 : oc.data = .cell v := e
      rw [h1] at e9; cases e9
def JLaw (L : Addr) (m : Str → Option Value) (_ : Nat) (m₁ : Str → Option Value) (nw : List (Addr × Obj)) : Prop :=
  Agree m m₁ ∧ ∃ o1 o2 v1 v2 tl, CellsL L nw tl o1 o2 ∧ o1.data = .cell v1 ∧ o2.data = .cell v2 ∧ TabsOk tl
theorem out_turn (w : World) (p : Program) (loose : List Str) (mean : ExcName → Option Value) (mg mb : Str → Option Value) (dp un : Nat) (gd : Option (List Code)) (outer : List Env) (A₀ : Around) (base g : Heap) (L : Addr) (s : Shared) (m m₁ : Str → Option Value) (news₁ own : List (Addr × Obj)) (wr : List Addr) (i T9 : Nat) (E : Value → Shared → Prop)
    (hE : PassesOwn (model PySem.Challenge.rw_pe0269_01.row.prog w) ((arC dp un gd outer).deeper (lawEnv L)) (lawEnv L) E)
    (one two : Str) (k : Nat) (n H : Int) (tn tH t u : Tok) (h₁ : Heap) (tk₁ : Nat) (gs₁ : Array GenState)
    (B : Below A₀ base outer g) (X : (Mine.hd.heap_1 w.params).In g) (T : Top p loose mean mg mb g) (hd : dp + 60 < recursionLimit) (hu : un + 600 < cLine)
    (P : PairOk one two k) (hP : PairH n H) (m1 : m (Str.ofString "width") = some (.int n tn)) (m2 : m (Str.ofString "half") = some (.int H tH))
    (J : JLaw L m i m₁ news₁) (hG : AllBare gs₁) (hoff : ∀ q ∈ news₁, q.1 ∉ wr) (hwr : ∀ b ∈ wr, ∃ o, (b, o) ∈ own) (hown : ∀ q ∈ own, OwnOk q.2) (o1off : ∀ q ∈ own, q.1 ≠ L + 1) (o2off : ∀ q ∈ own, q.1 ≠ L + 1 + 1)
    (F : Fr g L h₁ m₁) (N : News g L h₁ (own ++ news₁)) (hT : IsTup h₁ T9 #[.str one t, .str two u]) :
    wpAny (model PySem.Challenge.rw_pe0269_01.row.prog w) ((arC dp un gd outer).deeper (lawEnv L)) (assign outTarget (lawEnv L) (.ref T9)) (fun _ s₂ => wpAny (model PySem.Challenge.rw_pe0269_01.row.prog w) ((arC dp un gd outer).deeper (lawEnv L)) (execs outBody (lawEnv L)) (GStep g L wr own (JLaw L m (i + 1)) s) E s₂) E { s with heap := h₁, toks := tk₁, gens := gs₁ } := by
  obtain ⟨ag, o1, o2, v1, v2, tl, ⟨rfl, f1, f2⟩, d1, d2, tabs⟩ := J
  have N1 : News g L h₁ ((L + 1, o1) :: (L + 1 + 1, o2) :: (own ++ tl)) := fun q hq => N q (by
    rcases List.mem_cons.mp hq with h | hq
    · rw [h]; exact List.mem_append_right _ (.head _)
    rcases List.mem_cons.mp hq with h | hq
    · rw [h]; exact List.mem_append_right _ (.tail _ (.head _))
    rcases List.mem_append.mp hq with hq | hq
    · exact List.mem_append_left _ hq
    · exact List.mem_append_right _ (.tail _ (.tail _ hq)))
  refine seg_tgt w dp un gd outer g L _ m₁ (own ++ tl) _ E T9 one two t u o1 o2 v1 v2 F N1 d1 d2 (fun q hq => (List.mem_append.mp hq).elim (o1off q) (f1 q)) (fun q hq => (List.mem_append.mp hq).elim (o2off q) (f2 q)) hT ?_
  intro h2 tk2 o1' o2' F2 N2 e1 e2
  rw [out_body]
  have not37 : (37 : Addr) ∉ wr := by obtain ⟨p1, p2, p3, t37, -⟩ := tabs; exact hoff (37, _) (.tail _ (.tail _ t37))
  have not30 : (30 : Addr) ∉ wr := by obtain ⟨p1, p2, p3, _, t30, -⟩ := tabs; exact hoff (30, _) (.tail _ (.tail _ t30))
  have not124 : (124 : Addr) ∉ wr := by obtain ⟨p1, p2, p3, _, _, t124, -⟩ := tabs; exact hoff (124, _) (.tail _ (.tail _ t124))
  have tabs2 : TabsOk ((L + 1, o1') :: (L + 1 + 1, o2') :: (own ++ tl)) := by
    have up : ∀ q ∈ tl, q ∈ (L + 1, o1') :: (L + 1 + 1, o2') :: (own ++ tl) := fun q hq => .tail _ (.tail _ (List.mem_append_right _ hq))
    exact tabs.pick (fun o m => up _ m) (fun o m => up _ m) (fun o m => up _ m) fun c oc vs qual t m _ _ => up _ m
  refine t_turn w p loose mean mg mb dp un gd outer A₀ base g L _ m₁ _ _ E hE one two k n H tn tH t u o1' o2' B X T (by omega) (by omega) hG P hP F2 N2 tabs2 (by rw [ag _ (by decide), m1]) (by rw [ag _ (by decide), m2]) (.head _) e1 (.tail _ (.head _)) e2 ?_
  intro h3 tk3 gs3 m3 nw3 hG3 F3 ag3 N3 K3 tabs3
  have c1 := K3 _ (.head _) (cell_not_tab e1)
  have c2 := K3 _ (.tail _ (.head _)) (cell_not_tab e2)
  have kown : ∀ q ∈ own, q ∈ nw3 := fun q hq => K3 _ (.tail _ (.tail _ (List.mem_append_left _ hq))) fun ⟨ps, _, e⟩ => (hown q hq).1 (by rw [e])
  obtain ⟨tl3, N4, g1, g2, g3, tabs4, -⟩ := cells_front (wr := wr) N3 c1 c2 e1 e2 tabs3 not37 not30 not124 fun c oc vs qual t mc h1 h2 hw => by
    obtain ⟨o, ho⟩ := hwr c hw
    have e := news_same N3 (kown _ ho) mc
    exact (hown _ ho).2 vs qual t (by rw [show (c, o).2 = oc from e]; exact h1) h2
  refine ⟨rfl, h3, tk3, gs3, m3, (L + 1, o1') :: (L + 1 + 1, o2') :: tl3, rfl, hG3, F3, fun q hq => ?_, ?_, ag.trans ag3, o1', o2', _, _, tl3, ⟨rfl, g1, g2⟩, e1, e2, tabs4⟩
  · rcases List.mem_append.mp hq with hq | hq
    · exact N3 q (kown q hq)
    · exact N4 q hq
  · intro q hq
    rcases List.mem_cons.mp hq with h | hq
    · rw [h]; exact hoff (L + 1, o1) (.head _)
    rcases List.mem_cons.mp hq with h | hq
    · rw [h]; exact hoff (L + 1 + 1, o2) (.tail _ (.head _))
    · exact g3 q hq
theorem seg_outer (w : World) (p : Program) (loose : List Str) (mean : ExcName → Option Value) (mg mb : Str → Option Value) (dp un : Nat) (gd : Option (List Code)) (outer : List Env) (A₀ : Around) (base g : Heap) (L : Addr) (s : Shared) (m : Str → Option Value) (nw : List (Addr × Obj)) (Q : Flow → Shared → Prop) (E : Value → Shared → Prop)
    (hE : PassesOwn (model PySem.Challenge.rw_pe0269_01.row.prog w) ((arC dp un gd outer).deeper (lawEnv L)) (lawEnv L) E)
    (D : Addr) (zs : List Value) (ns : List Int) (n H : Int) (tn tH : Tok) (o1 o2 : Obj) (v1 v2 : Option Value)
    (B : Below A₀ base outer g) (X : (Mine.hd.heap_1 w.params).In g) (T : Top p loose mean mg mb g) (hd : dp + 60 < recursionLimit) (hu : un + 600 < cLine) (hG : AllBare s.gens)
    (HP : ∀ x y : Int, 0 ≤ x → 0 ≤ y → ∃ k, PairOk (leadS x) (leadS y) k) (hP : PairH n H) (hz : LeadsAre zs ns) (hn : ns.length ≤ 4) (hns : ∀ x ∈ ns, 0 ≤ x)
    (F : Fr g L s.heap m) (N : News g L s.heap nw) (m1 : m (Str.ofString "leads") = some (.ref D)) (m2 : m (Str.ofString "width") = some (.int n tn)) (m3 : m (Str.ofString "half") = some (.int H tH)) (hD : (D, LCg.lst zs) ∈ nw)
    (c1 : (L + 1, o1) ∈ nw) (c2 : (L + 1 + 1, o2) ∈ nw) (d1 : o1.data = .cell v1) (d2 : o2.data = .cell v2) (tabs : TabsOk nw)
    (h : ∀ h' tk' gs' m' nw', AllBare gs' → Fr g L h' m' → News g L h' nw' → TabsOk nw' → Q .next { s with heap := h', toks := tk', gens := gs' }) :
    wpAny (model PySem.Challenge.rw_pe0269_01.row.prog w) ((arC dp un gd outer).deeper (lawEnv L)) (exec (lst 4) (lawEnv L)) Q E s := by
  have hzl := hz.len
  have key : ∀ (D2 : Addr) (s' : Shared) (m₀ : Str → Option Value) (nw0 : List (Addr × Obj)), (∃ h₁ tk₁, s' = { s with heap := h₁, toks := tk₁ }) → Fr g L s'.heap m₀ → Agree m m₀ → News g L s'.heap nw0 → nw0 = ((D2, PySem.W.listOf (zs.drop 1).toArray 0) :: nw) →
      ∀ (elts : List Expr) (kk : Nat) (pos : Pos), outTarget = .Tuple elts kk pos →
      wpAny (model PySem.Challenge.rw_pe0269_01.row.prog w) ((arC dp un gd outer).deeper (lawEnv L)) (call (.type "zip") [.ref D, .ref D2]) (fun xv s₁ => wpAny (model PySem.Challenge.rw_pe0269_01.row.prog w) ((arC dp un gd outer).deeper (lawEnv L)) (pyIter xv) (fun it s₂ => LoopC PySem.Challenge.rw_pe0269_01.row.prog w ((arC dp un gd outer).deeper (lawEnv L)) (lawEnv L) (.Tuple elts kk pos) outBody Q E it s₂) E s₁) E s' := by
    rintro D2 s' m₀ nw0 ⟨h₁, tk₁, rfl⟩ F0 ag0 N0 rfl elts kk pos et
    have up : ∀ q ∈ nw, q ∈ (D2, PySem.W.listOf (zs.drop 1).toArray 0) :: nw := fun q hq => .tail _ hq
    obtain ⟨tl, N1, f1, f2, -, tabs1, pk⟩ := cells_front (wr := []) N0 (up _ c1) (up _ c2) d1 d2 (tabs.pick (fun o m => up _ m) (fun o m => up _ m) (fun o m => up _ m) fun c oc vs qual t m _ _ => up _ m) (by simp) (by simp) (by simp) (fun _ _ _ _ _ _ _ _ => by simp)
    have hD1 : (D, LCg.lst zs) ∈ tl := pk _ (up _ hD) (by simp) (fun v e => by cases e)
    have hD2 : (D2, PySem.W.listOf (zs.drop 1).toArray 0) ∈ tl := pk _ (.head _) (by simp) (fun v e => by cases e)
    refine zip2_G hE rfl F0 N1 (.tail _ (.tail _ hD1)) rfl rfl (.tail _ (.tail _ hD2)) rfl rfl hG (JLaw L m) ⟨ag0, o1, o2, v1, v2, tl, ⟨rfl, f1, f2⟩, d1, d2, tabs1⟩ ?_ ?_
    · intro i T9 x y m₁ news₁ h₂ tk₂ gs₂ own wr hx hy hJ hgs hoff hwr hown hfar F1 N2 hT
      obtain ⟨a, ta, ha, rfl⟩ := hz.get hx
      rw [List.getElem?_drop] at hy
      obtain ⟨b, tb, hb, rfl⟩ := hz.get hy
      obtain ⟨k, P⟩ := HP a b (hns _ (List.mem_of_getElem? ha)) (hns _ (List.mem_of_getElem? hb))
      have ne1 : (L + 1 : Nat) ≠ D := fun e => f1 _ hD1 e.symm
      have ne2 : (L + 1 : Nat) ≠ D2 := fun e => f1 _ hD2 e.symm
      have ne3 : (L + 1 + 1 : Nat) ≠ D := fun e => f2 _ hD1 e.symm
      have ne4 : (L + 1 + 1 : Nat) ≠ D2 := fun e => f2 _ hD2 e.symm
      rw [← et]
      exact out_turn w p loose mean mg mb dp un gd outer A₀ base g L _ m m₁ news₁ own wr i T9 E hE (leadS a) (leadS b) k n H tn tH ta tb h₂ tk₂ gs₂ B X T hd hu P hP m2 m3 hJ hgs hoff hwr hown (hfar _ _ (.head _) ne1 ne2) (hfar _ _ (.tail _ (.head _)) ne3 ne4) F1 N2 hT
    · rintro h' tk gs m' news' hgs F' N' ⟨-, p1, p2, u1, u2, tl9, ⟨rfl, -, -⟩, -, -, tabs9⟩
      have up9 : ∀ q ∈ tl9, q ∈ (L + 1, p1) :: (L + 1 + 1, p2) :: tl9 := fun q hq => .tail _ (.tail _ hq)
      exact h h' tk gs m' _ hgs F' N' (tabs9.pick (fun o m => up9 _ m) (fun o m => up9 _ m) (fun o m => up9 _ m) fun c oc vs qual t m _ _ => up9 _ m)
  have k1 : outTarget = outTarget := rfl
  conv at k1 => rhs; whnf
  have key2 := fun D2 s' m₀ nw0 a1 a2 a3 a4 a5 => key D2 s' m₀ nw0 a1 a2 a3 a4 a5 _ _ _ k1
  clear key
  have ef : ∃ it pos, lst 4 = .For outTarget it outBody [] pos ∧ it = (match lst 4 with | .For _ it _ _ _ => it | _ => .Constant .none 0 ⟨0, 0, 0, 0⟩) := ⟨_, _, rfl, rfl⟩
  obtain ⟨it, pos, ef, ei⟩ := ef
  rw [ef, k1]
  conv at ei => rhs; whnf
  refine For_C ?_ (by subst ei; intro _; rfl)
  subst ei
  generalize outBody = bd9 at key2 ⊢
  revert X
  k_fill
  intro X
  have q5 : lawScope = lawScope := rfl
  conv at q5 => rhs; whnf
  (try dsimp only at q5)
  unfold lawEnv at key2 hE ⊢
  rw [q5] at key2 hE ⊢
  clear q5
  have F9 := Mine.Fr.pin F m1
  clear F
  k_with_none
  (k_with "callWith" => refine stop9 ?_)
  (k_with "call type:zip" => refine stop9 ?_)
  (k_with "subscriptTail Name Slice ref ref" => (k_here; k_dflt (refine' kms_slice_lit ?F ?N ?l ?p ?q (pick1 _) ?_ ?s ?t ?z; (case F => k_asm); (case N => k_asm); (case l => exact News.isList (by k_asm) (by k_mem)); (case p => kmk_part); (case q => kmk_part); (case s => with_unfolding_all rfl); (case t => kmk_pure); (case z => (rw [sizeLine_eq]; simp only [List.size_toArray]; omega))); intro D' h' F' N' l1))
  k_steps
  unfold Stop9
  (rename Fr _ _ _ _ => FE; rename News _ _ _ _ => NE)
  exact key2 _ _ m _ ⟨_, _, rfl⟩ (unpin0' FE m1) Agree.refl NE rfl
end
section
theorem flush_Ma : (1 : Nat) = 1 := by
  w_top off
  k_with_none
  first | walk1 | rfl
theorem law_list : lawBody = [lst 0, lst 1, lst 2, lst 3, lst 4, lst 5] := by with_unfolding_all rfl
def lawPre (a : Addr) (script : List Int) (g h : Heap) : Prop := (∃ vs, g.IsList a vs.toArray ∧ IntsAre vs script) ∧ (h.get? 37 = some (tabObj #[]) ∧ g.get? 37 = none) ∧ (h.get? 30 = some (tabObj #[]) ∧ g.get? 30 = none) ∧ (h.get? 124 = some (tabObj #[]) ∧ g.get? 124 = none)
def lawTabs : List (Addr × Addr) := [(41, 37), (34, 30), (128, 124)]
def lawPost : Heap → Heap → Heap → Value → Prop := fun _ _ h' v => v = .bool true ∧ GrownAll lawTabs h'
theorem grown_of {g h : Heap} {L : Addr} {nw : List (Addr × Obj)} (N : News g L h nw) (T : TabsOk nw) : GrownAll lawTabs h := by
  obtain ⟨p1, p2, p3, t37, t30, t124, -⟩ := T
  exact ⟨GrownAt.of N t37, GrownAt.of N t30, GrownAt.of N t124, trivial⟩
/-- the body of the law, walked -/
theorem law_body (w : World) (p : Program) (loose : List Str) (mean : ExcName → Option Value) (mg mb : Str → Option Value) (dp un : Nat) (gd : Option (List Code)) (outer : List Env) (A₀ : Around) (base g : Heap) (L : Addr) (s : Shared) (m : Str → Option Value) (nw : List (Addr × Obj)) (Q : Flow → Shared → Prop) (E : Value → Shared → Prop)
    (hE : PassesOwn (model PySem.Challenge.rw_pe0269_01.row.prog w) ((arC dp un gd outer).deeper (lawEnv L)) (lawEnv L) E)
    (a : Addr) (vs : List Value) (script : List Int) (o1 o2 : Obj) (v1 v2 : Option Value)
    (B : Below A₀ base outer g) (X : (Mine.hd.heap_1 w.params).In g) (T : Top p loose mean mg mb g) (hd : dp + 60 < recursionLimit) (hu : un + 600 < cLine) (hG : AllBare s.gens)
    (HP : ∀ x y : Int, 0 ≤ x → 0 ≤ y → ∃ k, PairOk (leadS x) (leadS y) k) (hl : g.IsList a vs.toArray) (hI : IntsAre vs script) (hn : script.length ≤ 63)
    (F : Fr g L s.heap m) (N : News g L s.heap nw) (m1 : m (Str.ofString "script") = some (.ref a))
    (c1 : (L + 1, o1) ∈ nw) (c2 : (L + 1 + 1, o2) ∈ nw) (d1 : o1.data = .cell v1) (d2 : o2.data = .cell v2) (tabs : TabsOk nw)
    (h : ∀ h' tk' gs' m', AllBare gs' → Fr g L h' m' → GrownAll lawTabs h' → Q (.ret (.bool true)) { s with heap := h', toks := tk', gens := gs' }) :
    wpAny (model PySem.Challenge.rw_pe0269_01.row.prog w) ((arC dp un gd outer).deeper (lawEnv L)) (execs lawBody (lawEnv L)) Q E s := by
  rw [law_list]
  refine wpAny_execs_cons (seg_marks w p loose mean mg mb dp un gd outer A₀ base g L s m nw _ E a vs script B X T hd hu hl hI hn F N m1 ?_)
  intro D ys h1 tk1 F1 N1 iM
  show wpAny _ _ (execs _ _) Q E _
  have hml : ((script.take 4).map fun x => x.fmod (10 ^ Int.toNat 6)).length ≤ 4 := by rw [List.length_map, List.length_take]; omega
  have hmb : ∀ x ∈ ((script.take 4).map fun x => x.fmod (10 ^ Int.toNat 6)), 0 ≤ x ∧ x < 1000000 := by
    intro x hx
    obtain ⟨y, hy, rfl⟩ := List.mem_map.mp hx
    have e : (10 : Int) ^ Int.toNat 6 = 1000000 := by decide
    rw [e]
    exact ⟨Int.fmod_nonneg_of_pos _ (by decide), Int.fmod_lt_of_pos _ (by decide)⟩
  generalize ((script.take 4).map fun x => x.fmod (10 ^ Int.toNat 6)) = marks at *
  refine wpAny_execs_cons (seg_width w p loose mean mg mb dp un gd outer A₀ base g L _ _ _ _ E D ys marks B X T hd hu iM hml hmb F1 N1 rfl (.head _) ?_)
  intro n tn h2 tk2 hn2 F2 N2
  show wpAny _ _ (execs _ _) Q E _
  refine wpAny_execs_cons (seg_half w p loose mean mg mb dp un gd outer A₀ base g L _ _ _ _ E n tn B X T hd hu hn2 F2 N2 rfl ?_)
  intro H tH h3 tk3 hP F3 N3
  show wpAny _ _ (execs _ _) Q E _
  refine wpAny_execs_cons (seg_leads w p loose mean mg mb dp un gd outer A₀ base g L _ _ _ _ E D ys marks B X T hd hu iM hml F3 N3 rfl (.head _) ?_)
  intro D' zs h4 tk4 F4 N4 hz
  show wpAny _ _ (execs _ _) Q E _
  have up : ∀ q ∈ nw, q ∈ (D', LCg.lst zs) :: (D, LCg.lst ys) :: nw := fun q hq => .tail _ (.tail _ hq)
  refine wpAny_execs_cons (seg_outer w p loose mean mg mb dp un gd outer A₀ base g L _ _ _ _ E hE D' zs _ n H tn tH o1 o2 v1 v2 B X T hd hu hG HP hP hz (by rw [List.length_take]; omega) ?_ F4 N4 rfl rfl rfl (.head _) (up _ c1) (up _ c2) d1 d2 (tabs.pick (fun o m => up _ m) (fun o m => up _ m) (fun o m => up _ m) fun c oc vs qual t m _ _ => up _ m) ?_)
  · intro x hx
    rcases List.mem_append.mp (List.mem_of_mem_take hx) with hx | hx
    · exact (hmb x hx).1
    · simp only [List.mem_cons, List.not_mem_nil, or_false] at hx
      rcases hx with rfl | rfl <;> decide
  · intro h5 tk5 gs5 m5 nw5 hG5 F5 N5 T5
    have gr5 := grown_of N5 T5
    show wpAny _ _ (execs _ _) Q E _
    revert X
    k_fill
    intro X
    have q2 : lawScope = lawScope := rfl
    conv at q2 => rhs; whnf
    (try dsimp only at q2)
    have q3 : lst 5 = lst 5 := rfl
    conv at q3 => rhs; whnf
    (try dsimp only at q3)
    clear hE
    unfold lawEnv
    rw [q2, q3]
    clear q2 q3
    k_with_none
    k_steps
    all_goals (try k_data)
    all_goals exact h _ _ _ _ hG5 F5 gr5
theorem t_law (w : World) (a : Addr) (script : List Int) (hn : script.length ≤ 63) (HP : ∀ x y : Int, 0 ≤ x → 0 ≤ y → ∃ k, PairOk (leadS x) (leadS y) k) : CtG w 167 [.ref a] 62 660 (lawPre a script) lawPost := by
  unfold CtG
  k_fill
  intro p loose mean mg mb dp un gd outer A₀ base g s R B X T kp sz hG hp hd hu ret
  obtain ⟨⟨vs, hl, hI⟩, t37, t30, t124⟩ := hp
  k_dflt (refine' enterNC (news := [(37, tabObj #[]), (30, tabObj #[]), (124, tabObj #[])]) ?k1 ?k2 ?k3 ?k4 ?k5 ?k6 ?k7 ?k8 ?k9 ?kB ?kD ?c2 ?c3 ?c4 ?kR; (case k1 => assumption); (case k2 => assumption); (case k3 => assumption); (case k4 => assumption); (case k5 => exact List.forall_mem_cons.mpr ⟨t37, List.forall_mem_cons.mpr ⟨t30, List.forall_mem_cons.mpr ⟨t124, List.forall_mem_nil _⟩⟩⟩); (case k6 => k_is); (case k7 => k_is); (case k8 => omega); (case k9 => exact BindsTo.of_eq rfl); (case kB => exact rfl); (case kD => decide +kernel); (case c2 => exact rfl); (case c3 => exact rfl); (case c4 => exact rfl))
  k_whole
  intro L' h₁ tk₁ cells F' hL hk₁ N' Y' lN'
  k_cells Y'
  (try simp only [List.cons_append, List.nil_append] at N')
  refine law_body w p loose mean mg mb dp un gd outer A₀ base g L' _ _ _ _ _ PassesOwn.leaving a vs script _ _ _ _ B X T (by omega) (by omega) hG HP hl hI hn F' N' rfl (.tail _ (.head _)) (.head _) (by assumption) (by assumption) ⟨#[], #[], #[], .tail _ (.tail _ (.head _)), .tail _ (.tail _ (.tail _ (.head _))), .tail _ (.tail _ (.tail _ (.tail _ (.head _)))), .inl rfl, .inl rfl, .inl rfl⟩ ?_
  intro h' tk' gs' m' hG' F2 gr
  exact backG (s := s) (g := g) (post := lawPost) ret hG' F2 hL ⟨rfl, gr⟩
end
section
theorem flush_Sp : (1 : Nat) = 1 := by
  w_top off
  k_with_none
  first | walk1 | rfl
open PySem.StrLaws PySem.Builtin PySem.Builtin.Str
/-- the lengths of the runs between tabs -/
def lensL : List Nat → Nat → List Nat
  | [], n => [n]
  | c :: r, n => if c = 9 then n :: lensL r 0 else lensL r (n + 1)
theorem lensL_append : ∀ (a b : List Nat) (n : Nat), lensL (a ++ 9 :: b) n = lensL a n ++ lensL b 0
  | [], b, n => by simp [lensL]
  | c :: r, b, n => by
    by_cases h : c = 9
    · simp [lensL, h, lensL_append r b 0]
    · simp [lensL, h, lensL_append r b (n + 1)]
def posL : Nat → List Nat → List Nat
  | _, [] => []
  | a, c :: r => if c = 9 then a :: posL (a + 1) r else posL (a + 1) r
def lensF (n : Nat) : Nat → List Nat → List Nat
  | p, [] => [n - p]
  | p, c :: r => (c - p) :: lensF n (c + 1) r
theorem lensF_pos : ∀ (L : List Nat) (a p : Nat), p ≤ a → lensF (a + L.length) p (posL a L) = lensL L (a - p)
  | [], a, p, _ => rfl
  | c :: r, a, p, h => by
    have e : a + (c :: r).length = (a + 1) + r.length := by simp only [List.length_cons]; omega
    rw [e]
    by_cases hc : c = 9
    · simp only [posL, lensL, if_pos hc, lensF]
      rw [lensF_pos r (a + 1) (a + 1) (Nat.le_refl _), Nat.sub_self]
    · simp only [posL, lensL, if_neg hc]
      rw [lensF_pos r (a + 1) p (by omega)]
      congr 1; omega
theorem occ_all (s sub : Str) (hi limit : Nat) (hs : sub.length = 1) : ∀ (m a : Nat) (arr : Array Nat) (pos : Nat), pos ≤ a → arr.size ≤ a → a + m ≤ limit →
    (forIn (List.range' a m) (arr, pos) (occBody s sub hi limit)).run.fst.toList = arr.toList ++ (List.range' a m).filter fun i => decide (i + 1 ≤ hi) && subAt s sub i
  | 0, a, arr, pos, _, _, _ => by simp
  | m + 1, a, arr, pos, h1, h2, h3 => by
    rw [List.range'_succ, List.forIn_cons]
    unfold occBody
    rw [hs]
    by_cases hc : a + 1 ≤ hi ∧ subAt s sub a = true
    · rw [if_pos ⟨⟨⟨(by show arr.size < limit; omega), h1⟩, hc.1⟩, hc.2⟩]
      have ih := occ_all s sub hi limit hs m (a + 1) (arr.push a) (a + 1) (Nat.le_refl _) (by simp; omega) (by omega)
      unfold occBody at ih
      rw [hs] at ih
      rw [List.filter_cons, if_pos (by simp [hc.1, hc.2])]
      refine Eq.trans ih ?_
      simp
    · rw [if_neg (fun h => hc ⟨h.1.2, h.2⟩)]
      have ih := occ_all s sub hi limit hs m (a + 1) arr pos (by omega) (by omega) (by omega)
      unfold occBody at ih
      rw [hs] at ih
      rw [List.filter_cons, if_neg (by simp only [Bool.and_eq_true, decide_eq_true_eq]; exact hc)]
      exact ih
theorem filter_pos (L : List Nat) : ∀ (R : List Nat) (a : Nat), (∀ j, L[a + j]? = R[j]?) → (List.range' a (R.length + 1)).filter (fun i => decide (i + 1 ≤ L.length) && ((L.drop i).take 1 == [9])) = posL a R
  | [], a, h => by
    have : L[a]? = none := h 0
    rw [List.getElem?_eq_none_iff] at this
    simp [posL, List.range'_succ]
    omega
  | c :: r, a, h => by
    have h0 : L[a]? = some c := h 0
    obtain ⟨hlt, hget⟩ := List.getElem?_eq_some_iff.mp h0
    have ih := filter_pos L r (a + 1) fun j => by
      have := h (j + 1)
      rw [show a + (j + 1) = a + 1 + j by omega] at this
      exact this
    have e : (L.drop a).take 1 = [c] := by
      rw [List.drop_eq_getElem_cons hlt, hget]; rfl
    rw [List.length_cons, List.range'_succ, List.filter_cons, ih, e]
    by_cases hc : c = 9
    · rw [if_pos (by simp [hc]; omega)]; simp [posL, hc]
    · rw [if_neg (by simp [hc])]; simp [posL, hc]
theorem posL_le : ∀ (L : List Nat) (a : Nat), ∀ c ∈ posL a L, a ≤ c ∧ c < a + L.length
  | [], _, c, h => by cases h
  | x :: r, a, c, h => by
    unfold posL at h
    have ih := posL_le r (a + 1) c
    simp only [List.length_cons]
    by_cases hx : x = 9
    · rw [if_pos hx] at h
      rcases List.mem_cons.mp h with h | h
      · omega
      · have := ih h; omega
    · rw [if_neg hx] at h
      have := ih h; omega
theorem sub_len (x : Str) (a c : Nat) (h : c ≤ x.length) : (strSub x a c).length = c - a := by
  have e := congrArg List.length (strSub_toList x a c)
  have hn : x.cps.toList.length = x.length := by simp [Str.length]
  rw [List.length_take, List.length_drop, hn] at e
  have h2 : (strSub x a c).length = (strSub x a c).cps.toList.length := by simp [Str.length]
  omega
theorem parts_len (x : Str) : ∀ (cuts : List Nat) (a : Nat), (∀ c ∈ cuts, c ≤ x.length) → (partsFrom x 1 a cuts).map (·.length) = lensF x.length a cuts
  | [], a, _ => by simp [partsFrom, lensF, sub_len x a x.length (Nat.le_refl _)]
  | c :: r, a, h => by
    have h1 := sub_len x a c (h c (.head _))
    simp only [partsFrom, lensF, List.map_cons, h1, parts_len x r (c + 1) fun d hd => h d (.tail _ hd)]
theorem kind_tab : Builtin.Str.strKind (Str.ofString "\t") = 1 := by decide +kernel
theorem kind_ge (x : Str) : 1 ≤ Builtin.Str.strKind x := by unfold Builtin.Str.strKind; split; exact Nat.le_refl _; split <;> decide
theorem split_lens (x : Str) : (Txt.split x (Str.ofString "\t")).map (·.length) = lensL x.cps.toList 0 := by
  have hs : (Str.ofString "\t").length = 1 := by decide +kernel
  have ht : (Str.ofString "\t").cps.toList = [9] := by decide +kernel
  have hn : x.cps.toList.length = x.length := by simp [Str.length]
  have ho : occurrences x (Str.ofString "\t") 0 x.length (x.length + 1) = posL 0 x.cps.toList := by
    rw [occ_eq, occ_all x _ _ _ hs (x.length + 1 - 0) 0 #[] 0 (Nat.le_refl _) (Nat.le_refl _) (by omega)]
    have h := filter_pos x.cps.toList x.cps.toList 0 (fun j => by rw [Nat.zero_add])
    rw [hn] at h
    rw [← h, Nat.sub_zero]
    simp only [subAt_eq, hs, ht]
    simp
  have hl := lensF_pos x.cps.toList 0 0 (Nat.le_refl _)
  rw [Nat.zero_add, hn, Nat.sub_zero] at hl
  unfold Txt.split
  have hk := kind_ge x
  rw [hs, kind_tab, ho]
  by_cases h0 : x.length = 0
  · have : x.cps.toList = [] := List.length_eq_zero_iff.mp (by omega)
    rw [this, if_pos (by simp; omega)]
    simp [lensL, h0]
  · rw [if_neg (by simp; omega)]
    by_cases he : (posL 0 x.cps.toList).isEmpty = true
    · rw [if_pos he, ← hl, List.isEmpty_iff.mp he]
      simp [lensF]
    · rw [if_neg he, partsBetween_eq, parts_len x _ 0 fun c hc => by have := posL_le _ _ c hc; omega]
      exact hl
end
section
theorem flush_Pw : (1 : Nat) = 1 := by
  w_top off
  k_with_none
  first | walk1 | rfl
structure LD where
  cnt : List Int
  b : Int
  n : Int
  nt : Int
  mx : Int
  c1 : Int
  c2 : Int
  c3 : Int
  c4 : Int
def LD.col (D : LD) (t : Int) : Int := if t = 1 then D.c1 else if t = 2 then D.c2 else if t = 3 then D.c3 else D.c4
def leadF (c : Nat) (a b d : Int) : Str := leadJ ([runTab a, runTab b].take c) d
def colOk (u : Str) (D : LD) (t : Int) : Bool := colS u t == D.col t && indentS (wOne u) t == D.col t && decide (0 ≤ D.col t ∧ D.col t < 16)
def leadB (u : Str) (D : LD) : Bool :=
  decide (u.length ≤ 11) && decide ((wOne u).cnt = D.cnt) && (wOne u).b == D.b && (wOne u).n == D.n && (wOne u).nt == D.nt &&
  decide ((wTwo u).cnt = D.cnt) && (wTwo u).b == D.b && (wTwo u).n == D.n && (wTwo u).nt == D.nt &&
  colOk u D 1 && colOk u D 2 && colOk u D 3 && colOk u D 4 &&
  decide (max ((D.cnt.length : Int) - 1) D.b = D.mx) && decide (0 ≤ D.mx ∧ D.mx ≤ 3) &&
  decide (D.mx.toNat ∈ lensL u.cps.toList 0) && (lensL u.cps.toList 0).all (fun r => decide (r ≤ D.mx.toNat)) && decide ((lensL u.cps.toList 0).length ≤ 4)
def leadTab0 : List (Str × LD) := [(leadF 0 0 0 0, ⟨[], 0, 0, 0, 0, 0, 0, 0, 0⟩),
  (leadF 0 0 0 1, ⟨[], 1, 1, 0, 1, 1, 1, 1, 1⟩),
  (leadF 0 0 0 2, ⟨[], 2, 2, 0, 2, 2, 2, 2, 2⟩),
  (leadF 0 0 0 3, ⟨[], 3, 3, 0, 3, 3, 3, 3, 3⟩),
  (leadF 1 0 0 0, ⟨[1], 0, 1, 1, 0, 1, 2, 3, 4⟩),
  (leadF 1 0 0 1, ⟨[1], 1, 2, 1, 1, 2, 3, 4, 5⟩),
  (leadF 1 0 0 2, ⟨[1], 2, 3, 1, 2, 3, 4, 5, 6⟩),
  (leadF 1 0 0 3, ⟨[1], 3, 4, 1, 3, 4, 5, 6, 7⟩),
  (leadF 1 1 0 0, ⟨[0, 1], 0, 2, 1, 1, 2, 2, 3, 4⟩),
  (leadF 1 1 0 1, ⟨[0, 1], 1, 3, 1, 1, 3, 3, 4, 5⟩),
  (leadF 1 1 0 2, ⟨[0, 1], 2, 4, 1, 2, 4, 4, 5, 6⟩),
  (leadF 1 1 0 3, ⟨[0, 1], 3, 5, 1, 3, 5, 5, 6, 7⟩)]
def leadTab1 : List (Str × LD) := [(leadF 1 2 0 0, ⟨[0, 0, 1], 0, 3, 1, 2, 3, 4, 3, 4⟩),
  (leadF 1 2 0 1, ⟨[0, 0, 1], 1, 4, 1, 2, 4, 5, 4, 5⟩),
  (leadF 1 2 0 2, ⟨[0, 0, 1], 2, 5, 1, 2, 5, 6, 5, 6⟩),
  (leadF 1 2 0 3, ⟨[0, 0, 1], 3, 6, 1, 3, 6, 7, 6, 7⟩),
  (leadF 1 3 0 0, ⟨[0, 0, 0, 1], 0, 4, 1, 3, 4, 4, 6, 4⟩),
  (leadF 1 3 0 1, ⟨[0, 0, 0, 1], 1, 5, 1, 3, 5, 5, 7, 5⟩),
  (leadF 1 3 0 2, ⟨[0, 0, 0, 1], 2, 6, 1, 3, 6, 6, 8, 6⟩),
  (leadF 1 3 0 3, ⟨[0, 0, 0, 1], 3, 7, 1, 3, 7, 7, 9, 7⟩),
  (leadF 2 0 0 0, ⟨[2], 0, 2, 2, 0, 2, 4, 6, 8⟩),
  (leadF 2 0 0 1, ⟨[2], 1, 3, 2, 1, 3, 5, 7, 9⟩),
  (leadF 2 0 0 2, ⟨[2], 2, 4, 2, 2, 4, 6, 8, 10⟩),
  (leadF 2 0 0 3, ⟨[2], 3, 5, 2, 3, 5, 7, 9, 11⟩)]
def leadTab2 : List (Str × LD) := [(leadF 2 0 1 0, ⟨[1, 1], 0, 3, 2, 1, 3, 4, 6, 8⟩),
  (leadF 2 0 1 1, ⟨[1, 1], 1, 4, 2, 1, 4, 5, 7, 9⟩),
  (leadF 2 0 1 2, ⟨[1, 1], 2, 5, 2, 2, 5, 6, 8, 10⟩),
  (leadF 2 0 1 3, ⟨[1, 1], 3, 6, 2, 3, 6, 7, 9, 11⟩),
  (leadF 2 0 2 0, ⟨[1, 0, 1], 0, 4, 2, 2, 4, 6, 6, 8⟩),
  (leadF 2 0 2 1, ⟨[1, 0, 1], 1, 5, 2, 2, 5, 7, 7, 9⟩),
  (leadF 2 0 2 2, ⟨[1, 0, 1], 2, 6, 2, 2, 6, 8, 8, 10⟩),
  (leadF 2 0 2 3, ⟨[1, 0, 1], 3, 7, 2, 3, 7, 9, 9, 11⟩),
  (leadF 2 0 3 0, ⟨[1, 0, 0, 1], 0, 5, 2, 3, 5, 6, 9, 8⟩),
  (leadF 2 0 3 1, ⟨[1, 0, 0, 1], 1, 6, 2, 3, 6, 7, 10, 9⟩),
  (leadF 2 0 3 2, ⟨[1, 0, 0, 1], 2, 7, 2, 3, 7, 8, 11, 10⟩),
  (leadF 2 0 3 3, ⟨[1, 0, 0, 1], 3, 8, 2, 3, 8, 9, 12, 11⟩)]
def leadTab3 : List (Str × LD) := [(leadF 2 1 0 0, ⟨[1, 1], 0, 3, 2, 1, 3, 4, 6, 8⟩),
  (leadF 2 1 0 1, ⟨[1, 1], 1, 4, 2, 1, 4, 5, 7, 9⟩),
  (leadF 2 1 0 2, ⟨[1, 1], 2, 5, 2, 2, 5, 6, 8, 10⟩),
  (leadF 2 1 0 3, ⟨[1, 1], 3, 6, 2, 3, 6, 7, 9, 11⟩),
  (leadF 2 1 1 0, ⟨[0, 2], 0, 4, 2, 1, 4, 4, 6, 8⟩),
  (leadF 2 1 1 1, ⟨[0, 2], 1, 5, 2, 1, 5, 5, 7, 9⟩),
  (leadF 2 1 1 2, ⟨[0, 2], 2, 6, 2, 2, 6, 6, 8, 10⟩),
  (leadF 2 1 1 3, ⟨[0, 2], 3, 7, 2, 3, 7, 7, 9, 11⟩),
  (leadF 2 1 2 0, ⟨[0, 1, 1], 0, 5, 2, 2, 5, 6, 6, 8⟩),
  (leadF 2 1 2 1, ⟨[0, 1, 1], 1, 6, 2, 2, 6, 7, 7, 9⟩),
  (leadF 2 1 2 2, ⟨[0, 1, 1], 2, 7, 2, 2, 7, 8, 8, 10⟩),
  (leadF 2 1 2 3, ⟨[0, 1, 1], 3, 8, 2, 3, 8, 9, 9, 11⟩)]
def leadTab4 : List (Str × LD) := [(leadF 2 1 3 0, ⟨[0, 1, 0, 1], 0, 6, 2, 3, 6, 6, 9, 8⟩),
  (leadF 2 1 3 1, ⟨[0, 1, 0, 1], 1, 7, 2, 3, 7, 7, 10, 9⟩),
  (leadF 2 1 3 2, ⟨[0, 1, 0, 1], 2, 8, 2, 3, 8, 8, 11, 10⟩),
  (leadF 2 1 3 3, ⟨[0, 1, 0, 1], 3, 9, 2, 3, 9, 9, 12, 11⟩),
  (leadF 2 2 0 0, ⟨[1, 0, 1], 0, 4, 2, 2, 4, 6, 6, 8⟩),
  (leadF 2 2 0 1, ⟨[1, 0, 1], 1, 5, 2, 2, 5, 7, 7, 9⟩),
  (leadF 2 2 0 2, ⟨[1, 0, 1], 2, 6, 2, 2, 6, 8, 8, 10⟩),
  (leadF 2 2 0 3, ⟨[1, 0, 1], 3, 7, 2, 3, 7, 9, 9, 11⟩),
  (leadF 2 2 1 0, ⟨[0, 1, 1], 0, 5, 2, 2, 5, 6, 6, 8⟩),
  (leadF 2 2 1 1, ⟨[0, 1, 1], 1, 6, 2, 2, 6, 7, 7, 9⟩),
  (leadF 2 2 1 2, ⟨[0, 1, 1], 2, 7, 2, 2, 7, 8, 8, 10⟩),
  (leadF 2 2 1 3, ⟨[0, 1, 1], 3, 8, 2, 3, 8, 9, 9, 11⟩)]
def leadTab5 : List (Str × LD) := [(leadF 2 2 2 0, ⟨[0, 0, 2], 0, 6, 2, 2, 6, 8, 6, 8⟩),
  (leadF 2 2 2 1, ⟨[0, 0, 2], 1, 7, 2, 2, 7, 9, 7, 9⟩),
  (leadF 2 2 2 2, ⟨[0, 0, 2], 2, 8, 2, 2, 8, 10, 8, 10⟩),
  (leadF 2 2 2 3, ⟨[0, 0, 2], 3, 9, 2, 3, 9, 11, 9, 11⟩),
  (leadF 2 2 3 0, ⟨[0, 0, 1, 1], 0, 7, 2, 3, 7, 8, 9, 8⟩),
  (leadF 2 2 3 1, ⟨[0, 0, 1, 1], 1, 8, 2, 3, 8, 9, 10, 9⟩),
  (leadF 2 2 3 2, ⟨[0, 0, 1, 1], 2, 9, 2, 3, 9, 10, 11, 10⟩),
  (leadF 2 2 3 3, ⟨[0, 0, 1, 1], 3, 10, 2, 3, 10, 11, 12, 11⟩),
  (leadF 2 3 0 0, ⟨[1, 0, 0, 1], 0, 5, 2, 3, 5, 6, 9, 8⟩),
  (leadF 2 3 0 1, ⟨[1, 0, 0, 1], 1, 6, 2, 3, 6, 7, 10, 9⟩),
  (leadF 2 3 0 2, ⟨[1, 0, 0, 1], 2, 7, 2, 3, 7, 8, 11, 10⟩),
  (leadF 2 3 0 3, ⟨[1, 0, 0, 1], 3, 8, 2, 3, 8, 9, 12, 11⟩)]
def leadTab6 : List (Str × LD) := [(leadF 2 3 1 0, ⟨[0, 1, 0, 1], 0, 6, 2, 3, 6, 6, 9, 8⟩),
  (leadF 2 3 1 1, ⟨[0, 1, 0, 1], 1, 7, 2, 3, 7, 7, 10, 9⟩),
  (leadF 2 3 1 2, ⟨[0, 1, 0, 1], 2, 8, 2, 3, 8, 8, 11, 10⟩),
  (leadF 2 3 1 3, ⟨[0, 1, 0, 1], 3, 9, 2, 3, 9, 9, 12, 11⟩),
  (leadF 2 3 2 0, ⟨[0, 0, 1, 1], 0, 7, 2, 3, 7, 8, 9, 8⟩),
  (leadF 2 3 2 1, ⟨[0, 0, 1, 1], 1, 8, 2, 3, 8, 9, 10, 9⟩),
  (leadF 2 3 2 2, ⟨[0, 0, 1, 1], 2, 9, 2, 3, 9, 10, 11, 10⟩),
  (leadF 2 3 2 3, ⟨[0, 0, 1, 1], 3, 10, 2, 3, 10, 11, 12, 11⟩),
  (leadF 2 3 3 0, ⟨[0, 0, 0, 2], 0, 8, 2, 3, 8, 8, 12, 8⟩),
  (leadF 2 3 3 1, ⟨[0, 0, 0, 2], 1, 9, 2, 3, 9, 9, 13, 9⟩),
  (leadF 2 3 3 2, ⟨[0, 0, 0, 2], 2, 10, 2, 3, 10, 10, 14, 10⟩),
  (leadF 2 3 3 3, ⟨[0, 0, 0, 2], 3, 11, 2, 3, 11, 11, 15, 11⟩)]
def leadTab : List (Str × LD) := leadTab0 ++ leadTab1 ++ leadTab2 ++ leadTab3 ++ leadTab4 ++ leadTab5 ++ leadTab6
def kD (D E : LD) : Nat := (max D.mx E.mx + 1).toNat
def selD (P : Int → Int → Bool) (D E : LD) : List Int := (rangeKs 1 (kD D E)).filter fun t => P (D.col t) (E.col t)
def lessD (D E : LD) : Bool := if D.n ≥ E.n then false else if D.cnt.length ≤ 1 ∧ E.cnt.length ≤ 1 then decide (D.nt ≤ E.nt) else (rangeKs 2 (max D.mx E.mx + 1 - 1).toNat).all fun t => decide (D.col t < E.col t)
def pairD (D E : LD) : Bool := (decide (D.cnt = E.cnt ∧ D.b = E.b) == decide (selD neB D E = [])) && (lessD D E == decide (selD geB D E = []))
theorem pairs_0 : (leadTab0.all fun q => leadTab.all fun r => pairD q.2 r.2) = true := by decide +kernel
theorem pairs_1 : (leadTab1.all fun q => leadTab.all fun r => pairD q.2 r.2) = true := by decide +kernel
theorem pairs_2 : (leadTab2.all fun q => leadTab.all fun r => pairD q.2 r.2) = true := by decide +kernel
theorem pairs_3 : (leadTab3.all fun q => leadTab.all fun r => pairD q.2 r.2) = true := by decide +kernel
theorem pairs_4 : (leadTab4.all fun q => leadTab.all fun r => pairD q.2 r.2) = true := by decide +kernel
theorem pairs_5 : (leadTab5.all fun q => leadTab.all fun r => pairD q.2 r.2) = true := by decide +kernel
theorem pairs_6 : (leadTab6.all fun q => leadTab.all fun r => pairD q.2 r.2) = true := by decide +kernel
theorem pairs_ok (q : Str × LD) (hq : q ∈ leadTab) : (leadTab.all fun r => pairD q.2 r.2) = true := by
  have h : q ∈ leadTab0 ++ leadTab1 ++ leadTab2 ++ leadTab3 ++ leadTab4 ++ leadTab5 ++ leadTab6 := hq
  clear hq
  rcases List.mem_append.mp h with h | h
  · rcases List.mem_append.mp h with h | h
    · rcases List.mem_append.mp h with h | h
      · rcases List.mem_append.mp h with h | h
        · rcases List.mem_append.mp h with h | h
          · rcases List.mem_append.mp h with h | h
            · exact List.all_eq_true.mp pairs_0 q h
            · exact List.all_eq_true.mp pairs_1 q h
          · exact List.all_eq_true.mp pairs_2 q h
        · exact List.all_eq_true.mp pairs_3 q h
      · exact List.all_eq_true.mp pairs_4 q h
    · exact List.all_eq_true.mp pairs_5 q h
  · exact List.all_eq_true.mp pairs_6 q h
def levOkB (x y : Str) (m : Int) : Bool := decide (x.length ≤ 40) && decide (y.length ≤ 40) && decide (x.length ≤ y.length) && (decide ((levA x y).length = 0 ∨ (levB x y).length = 0) || (List.range (levB x y).length).all fun j => decide ((inS (Txt.item (levB x y) j) (levA x y) j (rowS (levA x y) (levB x y) j).2 (levA x y).length).2.2.1 ≤ m)) &&
  decide (((levB x y).length : Int) - (levA x y).length ≤ m - ((levB x y).length - (levA x y).length)) && decide (levS x y = m)
theorem levOk_of {x y : Str} {m : Int} (h : levOkB x y m = true) : LevOk x y m := by
  unfold levOkB at h
  simp only [Bool.and_eq_true, Bool.or_eq_true, decide_eq_true_eq, List.all_eq_true, List.mem_range] at h
  obtain ⟨⟨⟨⟨⟨h1, h2⟩, h3⟩, h4⟩, h5⟩, h6⟩ := h
  exact ⟨h1, h2, h3, fun hn j hj => (h4.resolve_left hn) j hj, h5, h6⟩
def selL (b : List Bool) : List Int → List Int
  | [] => []
  | t :: r => match b with
    | [] => []
    | c :: b' => if c = true then t :: selL b' r else selL b' r
theorem selL_filter (P : Int → Bool) : ∀ l : List Int, l.filter P = selL (l.map P) l
  | [] => rfl
  | t :: r => by
    rw [List.map_cons, List.filter_cons]
    show _ = if P t = true then t :: selL (r.map P) r else selL (r.map P) r
    rw [selL_filter P r]
def levSel (k : Nat) (l : List Int) : Bool := levOkB (fmtS (l.map fun t => (t, 0, 0))) (fmtS (allS k)) (2 * (lengthS k - lengthS l.length))
theorem lev_1 : ∀ a : Bool, levSel 1 (selL [a] [1]) = true := by decide +kernel
theorem lev_2 : ∀ a b : Bool, levSel 2 (selL [a, b] [1, 2]) = true := by decide +kernel
theorem lev_3 : ∀ a b c : Bool, levSel 3 (selL [a, b, c] [1, 2, 3]) = true := by decide +kernel
theorem lev_4 : ∀ a b c d : Bool, levSel 4 (selL [a, b, c, d] [1, 2, 3, 4]) = true := by decide +kernel
theorem lev_sel (k : Nat) (hk : 1 ≤ k ∧ k ≤ 4) (P : Int → Bool) : levSel k ((rangeKs 1 k).filter P) = true := by
  rw [selL_filter]
  have : k = 1 ∨ k = 2 ∨ k = 3 ∨ k = 4 := by omega
  rcases this with rfl | rfl | rfl | rfl
  · exact lev_1 (P 1)
  · exact lev_2 (P 1) (P 2)
  · exact lev_3 (P 1) (P 2) (P 3)
  · exact lev_4 (P 1) (P 2) (P 3) (P 4)
theorem fmtS_fst (l : List (Int × Int × Int)) : fmtS l = fmtS ((l.map (·.1)).map fun t => (t, 0, 0)) := by
  simp [fmtS, List.map_map, Function.comp_def]
theorem rowLev_of {k : Nat} (hk : 1 ≤ k ∧ k ≤ 4) (P : Int → Int → Bool) (W V : Ws) : RowLev k (witS P W V k) := by
  have h := levOk_of (lev_sel k hk fun t => P (indentS W t) (indentS V t))
  have e : (witS P W V k).map (·.1) = (rangeKs 1 k).filter fun t => P (indentS W t) (indentS V t) := by
    unfold witS; rw [List.map_map]; exact List.map_id'' (fun _ => rfl) _
  unfold RowLev
  rw [fmtS_fst, e]
  have e2 : (witS P W V k).length = ((rangeKs 1 k).filter fun t => P (indentS W t) (indentS V t)).length := by rw [← e, List.length_map]
  rw [e2]
  exact h
theorem tab_ok : (leadTab.all fun q => leadB q.1 q.2) = true := by decide +kernel
def leadIdx (c a b d : Nat) : Nat := if c = 0 then d else if c = 1 then 4 + 4 * a + d else 20 + 16 * a + 4 * b + d
theorem idx_ok : ∀ (c : Fin 3) (a b d : Fin 4), decide (leadTab[leadIdx c.val a.val b.val d.val]?.map (·.1) = some (leadF c.val a.val b.val d.val)) = true := by decide +kernel
theorem lead_row (x : Int) : ∃ q ∈ leadTab, leadS x = q.1 := by
  have b4 : ∀ x : Int, 0 ≤ x.fmod 4 ∧ x.fmod 4 < 4 := fun x => ⟨Int.fmod_nonneg_of_pos _ (by decide), Int.fmod_lt_of_pos _ (by decide)⟩
  have b3 : 0 ≤ (x.fdiv 64).fmod 3 ∧ (x.fdiv 64).fmod 3 < 3 := ⟨Int.fmod_nonneg_of_pos _ (by decide), Int.fmod_lt_of_pos _ (by decide)⟩
  have a1 := b4 x
  have a2 := b4 (x.fdiv 4)
  have a3 := b4 (x.fdiv 16)
  have h := of_decide_eq_true (idx_ok ⟨((x.fdiv 64).fmod 3).toNat, by omega⟩ ⟨(x.fmod 4).toNat, by omega⟩ ⟨((x.fdiv 4).fmod 4).toNat, by omega⟩ ⟨((x.fdiv 16).fmod 4).toNat, by omega⟩)
  obtain ⟨q, hq, e⟩ := Option.map_eq_some_iff.mp h
  refine ⟨q, List.mem_of_getElem? hq, ?_⟩
  rw [e]
  show leadS x = leadF _ _ _ _
  unfold leadS leadF
  rw [Int.toNat_of_nonneg a1.1, Int.toNat_of_nonneg a2.1, Int.toNat_of_nonneg a3.1]
structure LeadP (u : Str) (D : LD) : Prop where
  len : u.length ≤ 11
  w1 : wOne u = ⟨D.n, D.nt, D.cnt, D.b⟩
  w2 : wTwo u = ⟨D.n, D.nt, D.cnt, D.b⟩
  col : ∀ t : Int, 1 ≤ t → t ≤ 4 → colS u t = D.col t ∧ indentS (wOne u) t = D.col t ∧ 0 ≤ D.col t ∧ D.col t < 16
  mx : max ((D.cnt.length : Int) - 1) D.b = D.mx
  mb : 0 ≤ D.mx ∧ D.mx ≤ 3
  mem : D.mx.toNat ∈ lensL u.cps.toList 0
  le : ∀ r ∈ lensL u.cps.toList 0, r ≤ D.mx.toNat
  cnt : (lensL u.cps.toList 0).length ≤ 4
theorem ws_eta {W : Ws} {c : List Int} {b n nt : Int} (h1 : W.cnt = c) (h2 : W.b = b) (h3 : W.n = n) (h4 : W.nt = nt) : W = ⟨n, nt, c, b⟩ := by
  cases W; simp only at h1 h2 h3 h4; subst h1; subst h2; subst h3; subst h4; rfl
theorem leadP_of {u : Str} {D : LD} (h : leadB u D = true) : LeadP u D := by
  unfold leadB colOk at h
  simp only [Bool.and_eq_true, decide_eq_true_eq, beq_iff_eq, List.all_eq_true] at h
  obtain ⟨⟨⟨⟨⟨⟨⟨⟨⟨⟨⟨⟨⟨⟨⟨⟨⟨h1, h2⟩, h3⟩, h4⟩, h5⟩, h6⟩, h7⟩, h8⟩, h9⟩, k1⟩, k2⟩, k3⟩, k4⟩, m1⟩, m2⟩, l1⟩, l2⟩, l3⟩ := h
  refine ⟨h1, ws_eta h2 h3 h4 h5, ws_eta h6 h7 h8 h9, fun t a b => ?_, m1, m2, l1, l2, l3⟩
  have : t = 1 ∨ t = 2 ∨ t = 3 ∨ t = 4 := by omega
  rcases this with rfl | rfl | rfl | rfl
  · exact ⟨k1.1.1, k1.1.2, k1.2⟩
  · exact ⟨k2.1.1, k2.1.2, k2.2⟩
  · exact ⟨k3.1.1, k3.1.2, k3.2⟩
  · exact ⟨k4.1.1, k4.1.2, k4.2⟩
theorem wit_sel {u v : Str} {D E : LD} (hu : LeadP u D) (hv : LeadP v E) (P : Int → Int → Bool) : decide (witS P (wOne u) (wTwo v) (kD D E) = []) = decide (selD P D E = []) := by
  have m1 := hu.mb
  have m2 := hv.mb
  have hk : kD D E ≤ 4 := by unfold kD; omega
  have e : (rangeKs 1 (kD D E)).filter (fun t => P (indentS (wOne u) t) (indentS (wTwo v) t)) = selD P D E := by
    refine List.filter_congr fun t ht => ?_
    obtain ⟨j, hj, rfl⟩ := List.mem_map.mp ht
    have := List.mem_range.mp hj
    rw [(hu.col _ (by omega) (by omega)).2.1, hv.w2, ← hv.w1, (hv.col _ (by omega) (by omega)).2.1]
  unfold witS
  rw [e]
  simp only [List.map_eq_nil_iff]
theorem less_sel {u v : Str} {D E : LD} (hu : LeadP u D) (hv : LeadP v E) : lessS (wOne u) (wTwo v) = lessD D E := by
  have m1 := hu.mb
  have m2 := hv.mb
  have e1 : longS (wOne u) = D.mx := by rw [hu.w1]; exact hu.mx
  have e2 : longS (wTwo v) = E.mx := by rw [hv.w2]; exact hv.mx
  have ea : (rangeKs 2 (max D.mx E.mx + 1 - 1).toNat).all (fun t => decide (indentS (wOne u) t < indentS (wTwo v) t)) = (rangeKs 2 (max D.mx E.mx + 1 - 1).toNat).all fun t => decide (D.col t < E.col t) := by
    rw [Bool.eq_iff_iff]
    simp only [List.all_eq_true]
    have key : ∀ t ∈ rangeKs 2 (max D.mx E.mx + 1 - 1).toNat, decide (indentS (wOne u) t < indentS (wTwo v) t) = decide (D.col t < E.col t) := by
      intro t ht
      obtain ⟨j, hj, rfl⟩ := List.mem_map.mp ht
      have := List.mem_range.mp hj
      rw [(hu.col _ (by omega) (by omega)).2.1, hv.w2, ← hv.w1, (hv.col _ (by omega) (by omega)).2.1]
    exact ⟨fun h t ht => (key t ht) ▸ h t ht, fun h t ht => (key t ht).symm ▸ h t ht⟩
  unfold lessS lessD mostS
  rw [e1, e2, ea, hu.w1, hv.w2]
theorem pair_of {u v : Str} {D E : LD} (hu : LeadP u D) (hv : LeadP v E) (p1 : pairD D E = true) (p2 : pairD E D = true) : PairOk u v (kD D E) := by
  have m1 := hu.mb
  have m2 := hv.mb
  have hk : 1 ≤ kD D E ∧ kD D E ≤ 4 := by unfold kD; omega
  have hkI : (kD D E : Int) = max D.mx E.mx + 1 := by unfold kD; omega
  have hsym : kD E D = kD D E := by unfold kD; rw [Int.max_comm]
  unfold pairD at p1 p2
  simp only [Bool.and_eq_true, beq_iff_eq] at p1 p2
  have l1 : longS (wOne u) = D.mx := by rw [hu.w1]; exact hu.mx
  have l2 : longS (wTwo v) = E.mx := by rw [hv.w2]; exact hv.mx
  have hs : (u ++ Str.ofString "\t" ++ v).cps.toList = u.cps.toList ++ 9 :: v.cps.toList := by
    have ht : (Str.ofString "\t").cps.toList = [9] := by decide +kernel
    simp only [Str.cps_append, Array.toList_append, ht, List.append_assoc, List.cons_append, List.nil_append]
  have lens : (Txt.split (u ++ Str.ofString "\t" ++ v) (Str.ofString "\t")).map (·.length) = lensL u.cps.toList 0 ++ lensL v.cps.toList 0 := by rw [split_lens, hs, lensL_append]
  refine ⟨Nat.le_trans hu.len (by decide), Nat.le_trans hv.len (by decide), hk.1, hk.2, ⟨_, rfl, ?_, ?_, ?_, ?_⟩, ?_, ?_, ?_, ?_, ?_, ?_, rowLev_of hk _ _ _, rowLev_of hk _ _ _, rowLev_of hk _ _ _⟩
  · have hl : (Txt.split (u ++ Str.ofString "\t" ++ v) (Str.ofString "\t")).length ≤ 10 := by
      rw [← List.length_map (f := fun a : Str => a.length), lens, List.length_append]
      have := hu.cnt
      have := hv.cnt
      omega
    exact hl
  · intro a ha
    have h9 : a.length ∈ (Txt.split (u ++ Str.ofString "\t" ++ v) (Str.ofString "\t")).map (·.length) := List.mem_map_of_mem ha
    rw [lens] at h9
    rcases List.mem_append.mp h9 with h9 | h9
    · have := hu.le _ h9; omega
    · have := hv.le _ h9; omega
  · intro e
    have h9 := lens
    rw [e] at h9
    have := hu.mem
    rw [(List.append_eq_nil_iff.mp h9.symm).1] at this
    cases this
  · intro M hM hall
    obtain ⟨a, ha, rfl⟩ := List.mem_map.mp hM
    have h9 : a.length ∈ (Txt.split (u ++ Str.ofString "\t" ++ v) (Str.ofString "\t")).map (·.length) := List.mem_map_of_mem ha
    have up : ∀ r : Nat, r ∈ lensL u.cps.toList 0 ++ lensL v.cps.toList 0 → r ≤ a.length := by
      intro r hr
      rw [← lens] at hr
      obtain ⟨b, hb, rfl⟩ := List.mem_map.mp hr
      have := hall _ (List.mem_map_of_mem hb)
      omega
    have u1 := up _ (List.mem_append_left _ hu.mem)
    have u2 := up _ (List.mem_append_right _ hv.mem)
    rw [lens] at h9
    have u3 : a.length ≤ max D.mx.toNat E.mx.toNat := by
      rcases List.mem_append.mp h9 with h9 | h9
      · have := hu.le _ h9; omega
      · have := hv.le _ h9; omega
    omega
  · unfold mostS kD; rw [l1, l2]
  · have x1 : wTwo v = wOne v := by rw [hv.w1, hv.w2]
    have x2 : wOne u = wTwo u := by rw [hu.w1, hu.w2]
    rw [x1, x2]
    rw [x1] at l2
    rw [x2] at l1
    unfold mostS kD; rw [l1, l2, Int.max_comm]
  · intro t a b
    have c1 := hu.col t a (by omega)
    have c2 := hv.col t a (by omega)
    refine ⟨c1.1.trans c1.2.1.symm, ?_, ?_, ?_, ?_, ?_⟩
    · rw [hv.w2, ← hv.w1]; exact c2.1.trans c2.2.1.symm
    all_goals omega
  · rw [wit_sel hu hv, hu.w1, hv.w2]; exact p1.1
  · rw [wit_sel hu hv, less_sel hu hv]; exact p1.2
  · have a1 := wit_sel hv hu geB
    have a2 := less_sel hv hu
    rw [hsym] at a1
    have x1 : wTwo v = wOne v := by rw [hv.w1, hv.w2]
    have x2 : wOne u = wTwo u := by rw [hu.w1, hu.w2]
    rw [x1, x2, a1, a2]; exact p2.2
theorem pair_all (x y : Int) : ∃ k, PairOk (leadS x) (leadS y) k := by
  obtain ⟨q, hq, e1⟩ := lead_row x
  obtain ⟨r, hr, e2⟩ := lead_row y
  have tq := List.all_eq_true.mp tab_ok q hq
  have tr := List.all_eq_true.mp tab_ok r hr
  have p1 := List.all_eq_true.mp (pairs_ok q hq) r hr
  have p2 := List.all_eq_true.mp (pairs_ok r hr) q hq
  rw [e1, e2]
  exact ⟨_, pair_of (leadP_of tq) (leadP_of tr) p1 p2⟩
end
section
theorem flush_Fz : (1 : Nat) = 1 := by
  w_top off
  k_with_none
  first | walk1 | rfl
theorem fin_post {M : Model} {A : Around} {cd : Code} {s s₁ : Shared} {cw : ClaimW} {cl : Str → Option Addr} {mean : ExcName → Option Value} {args : List WData} {tabs : List (Addr × Addr)} (hT : TabsAt tabs s₁.heap) (hr : ∀ x, cw.raises args x = false) (hp : cw.post args (.bool true) args = true)
    (h : codeAny M A cd (fun r s' => r = .ok (.ret (.bool true)) ∧ (∀ b o, (ghostOf s₁.heap tabs).get? b = some o → s'.heap.get? b = some o) ∧ GrownAll tabs s'.heap ∧ s'.os = s₁.os ∧ AllBare s'.gens) s) : codeAny M A cd (GoodWG cw cl mean args s₁) s :=
  codeAny_mono h fun r s' ⟨hc, hk, hgr, hos, hg⟩ => by
    have keep : ∀ b o, b ∉ tabs.map (·.2) → s₁.heap.get? b = some o → s'.heap.get? b = some o := fun b o hb e => hk b o (ghost_ne e hb)
    have grown : ∀ b o, b ∈ tabs.map (·.2) → s₁.heap.get? b = some o → isCodeTable s₁.heap b ∧ o = tabObj #[] ∧ ∃ ps, s'.heap.get? b = some (tabObj ps) := fun b o hb e => by
      obtain ⟨q, hq, rfl⟩ := List.mem_map.mp hb
      have e2 := (hT q hq).2
      rw [e] at e2
      exact ⟨((hT q hq).1.tab (hT q hq).2).isCodeTable, Option.some.inj e2, hgr.get q hq⟩
    refine ⟨.inl ⟨.bool true, .bool true, [], hc, hr, .bool true, hp, unshared_nil⟩, ⟨fun b o e => ?_, fun b o e => ?_⟩, hos, hg⟩
    · by_cases hb : b ∈ tabs.map (·.2)
      · obtain ⟨ht, rfl, ps, hP⟩ := grown b o hb e
        exact .inr (.inl ⟨ht, rfl, #[], ps, rfl, by rw [Array.empty_append]; exact hP⟩)
      · exact .inl (keep b o hb e)
    · by_cases hb : b ∈ tabs.map (·.2)
      · obtain ⟨_, _, ps, hP⟩ := grown b o hb e
        exact ⟨_, hP⟩
      · exact ⟨o, keep b o hb e⟩
theorem law_end (w : World) (a : Addr) (vs : List Value) (script : List Int) (p : Program) (loose : List Str) (mean mean' : ExcName → Option Value) (mg mb : Str → Option Value) (s₁ : Shared) (cw : ClaimW) (cl : Str → Option Addr) (args : List WData) (hT : TabsAt lawTabs s₁.heap) (hn : script.length ≤ 63)
    (X : (Mine.hd.heap_1 w.params).In s₁.heap) (T : Top p loose mean mg mb s₁.heap) (hl : s₁.heap.IsList a vs.toArray) (hI : IntsAre vs script) (hg : s₁.gens = #[]) (hr : ∀ x, cw.raises args x = false) (hp : cw.post args (.bool true) args = true) :
    codeAny (model PySem.Challenge.rw_pe0269_01.row.prog w) callerA (.call (.ref 167) ⟨[.ref a], []⟩) (GoodWG cw cl mean' args s₁) s₁ := by
  refine fin_post hT hr hp ?_
  have gh : ∀ q ∈ lawTabs, s₁.heap.get? q.2 = some (tabObj #[]) ∧ (ghostOf s₁.heap lawTabs).get? q.2 = none := fun q hq => ⟨(hT q hq).2, hideAll_none _ (List.mem_map_of_mem hq)⟩
  have hcL := cLine_is
  refine t_law w a script hn (fun x y _ _ => pair_all x y) topProg _ mean mg mb (1 + claimMargin) 4 (some []) [] callerA _ (ghostOf s₁.heap lawTabs) s₁ _ (ghost_below hT) (ghost_K hT X (by kernel_rfl)) (ghost_top hT T) (fun b o e => of_hideAll _ e) (Nat.le_of_eq (hideAll_size _ _)) (.of_eq hg)
    ⟨⟨vs, ghost_list hT hl, hI⟩, gh (41, 37) (by decide), gh (34, 30) (by decide), gh (128, 124) (by decide)⟩ (by decide) (by omega) ?_
  intro v h' tk' gs' hG' k z q
  exact ⟨by rw [q.1], k, q.2, rfl, hG'⟩
end
end
end Mine
theorem PySem.Challenge.cw_pe0269_01_holds : PySem.Challenge.rw_pe0269_01.Holds :=
  Mine.hd (by
    refine holds_open (q := Mine.hdview) (loose := [PySem.Str.ofString "Whitespace"]) (Xt := Mine.hdX) (XP := XL Mine.hdview []) (Yf := Hook.obs Mine.hdH) (Ya := Hook.val Mine.hdH) (YP := Hook.says Mine.hdH) (N := 2118) Mine.hdleft (Hook.of Mine.hdH) (Hook.keeps Mine.hdH) (fun s e => xl_of s (Bool.and_eq_true_iff.mp e).1) XL.keeps (by rfl) (by rfl) (by rfl) (fun s e => recFacts_of (Bool.and_eq_true_iff.mp e).2) rfl Mine.row_well (by decide +kernel) ⟨rfl, rfl, rfl, rfl, rfl, by decide +kernel⟩ ?hw ?hc
    (case hw => w_witness2)
    k_fill
    intro w s₀ s₁ mg mb G Y fa o pm cd doc dV kV ho hd hcd hD hmg hg args vals as hpre hlay hrd hwl hlo
    have KX := km_in_of Y
    have hT8 := km_tabs_of Y
    have X := (Ground.X G).1
    have V := (Ground.X G).2
    refine Ground.open G ?_
    intro T B D TE TW
    try (refine guard_noD D (by decide +kernel) ?_; clear D)
    have ht := tab_of (x := PySem.Str.ofString "format_witnesses") (c := 128) (P := 124) T KX rfl (by kernel_rfl)
    have hT9 : TabsAt Mine.lawTabs s₁.heap := List.forall_mem_cons.mpr ⟨⟨Mine.codeHd_d2i KX, hT8 37 (by decide)⟩, List.forall_mem_cons.mpr ⟨⟨Mine.codeHd_i2d KX, hT8 30 (by decide)⟩, List.forall_mem_cons.mpr ⟨ht, List.forall_mem_nil _⟩⟩⟩
    have e9 : some (Value.ref fa) = some (Value.ref 167) := hmg.symm.trans (mg_of (n := PySem.Str.ofString "law") KX (Top.g T) (by kernel_rfl))
    have e8 : fa = 167 := by injection e9 with e9; injection e9
    subst e8
    clear hmg e9 ht B TE TW V X Y hT8 ho hd hcd hD
    wrow_args hpre hlay hrd hwl hlo
    all_goals (first | refine callC_kw (enter_call ?_) | refine enter_call ?_)
    rename IntsAre _ _ => hI9
    rename Heap.IsList _ _ _ => hL9
    refine Mine.law_end w _ _ _ _ _ _ _ mg mb s₁ _ _ _ hT9 ?_ KX T hL9 hI9 hg (raisesW_false (by wrow_none_raised)) (postW_of (by wrow_shape) (by wtm_val) (by str_meet; first | done | w_fin))
    omega)
