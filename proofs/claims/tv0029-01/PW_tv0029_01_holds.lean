import PyProof.Rows.All
import Wide.All
import OpenK.AllK
import Wide.FinOn
import Lean
import PySem.Challenge.RW_tv0029_01
open PySem PySem.W PyProof.Rows PySem.Calls PySem.Spec
set_option Elab.async false
set_option compiler.extract_closed false
set_option maxRecDepth 100000
set_option maxHeartbeats 4000000

namespace Mine
-- The head in one check. open_top runs the kit's own piecewise proof of the text's top when the premise of the head theorem reads LeftO, and the equations of its string twins alone
-- are 13 MB of the compiled file. Here the head theorem is stated for this row with that premise written out (TopOk: from the boot's state on, in the library's quick twins):
-- then open_top closes the premise by one kernel check (some 16 s), and the file stays under 32 MiB. open_top finds this theorem by name resolution inside the namespace Mine.
theorem boot_pw {N : Nat} (hN : Nat.ble 600 N = true) : ∀ w : World, (fencedOpening treeTable PySem.Challenge.pw_tv0029_01 w N).map (fun s => (s.heap, s.gens, s.drawn, s.toks)) = some (boot_heap w.params, Array.mk [], boot_drawn, boot_toks) :=
  boot_open rfl hN fun _ => rfl
abbrev TopOk (q : Program) (loose : List Str) (Xt : Shared → Bool) {α : Type} (Yf : Shared → α) (Ya : World → α) (N : Nat) : Prop :=
  ∀ w : World, (fun os : OsState => (PySem.W.Fast.tw14082659384304107361 PySem.W.Fast.tw14364793385576792824 PySem.Challenge.pw_tv0029_01 w 11 (some (.ref 6)) N ⟨boot_heap w.params, #[], boot_drawn, boot_toks, os⟩ (topStub PySem.Challenge.pw_tv0029_01)).map fun s =>
      ((staticsOk (importedModules PySem.Challenge.pw_tv0029_01.main.body) (boot_heap w.params) s.heap && namesBound PySem.Challenge.pw_tv0029_01 s.heap && gensDone s && laidKept (boot_heap w.params) s.heap),
        PySem.W.Fast.tw4187177175401517315 q loose (importedModules PySem.Challenge.pw_tv0029_01.main.body) Xt true s, Yf s)) = fun _ => some (true, openGood q loose, Ya w)
theorem left_of {q : Program} {loose : List Str} {Xt : Shared → Bool} {α : Type} {Yf : Shared → α} {Ya : World → α} {N : Nat} (hN : Nat.ble 600 N = true) (left : TopOk q loose Xt Yf Ya N) :
    LeftO PySem.Challenge.pw_tv0029_01 q loose Xt Yf Ya N := fun w => by
  obtain ⟨⟨h, gs, d, k, os⟩, e, e'⟩ := Option.map_eq_some_iff.mp (boot_pw hN w)
  obtain ⟨rfl, rfl, rfl, rfl⟩ : h = boot_heap w.params ∧ gs = #[] ∧ d = boot_drawn ∧ k = boot_toks := by simpa using e'
  have l := congrFun (left w) os
  rw [← PySem.W.Fast.te14082659384304107361, ← PySem.W.Fast.te14364793385576792824, ← PySem.W.Fast.te4187177175401517315] at l
  obtain ⟨s₁, r, l'⟩ := Option.map_eq_some_iff.mp l
  obtain ⟨l1, l2, l3⟩ : _ ∧ _ ∧ _ := by simpa only [Prod.mk.injEq] using l'
  have z1 : ((boot_heap w.params).isNs mainGlobals && (#[] : Array GenState).size == 0) = true := by kernel_rfl
  have z2 : (boot_heap w.params).objs.size = 11 := by kernel_rfl
  have z3 : (boot_heap w.params).nsMap mainGlobals "__annotations__" = some (.ref 6) := by kernel_rfl
  have t : topFrom treeTable PySem.Challenge.pw_tv0029_01 w N ⟨boot_heap w.params, #[], boot_drawn, boot_toks, os⟩ = some s₁ := by
    unfold topFrom
    dsimp only
    rw [z1, z2, z3, r]
    show (match staticsOk (importedModules PySem.Challenge.pw_tv0029_01.main.body) (boot_heap w.params) s₁.heap && namesBound PySem.Challenge.pw_tv0029_01 s₁.heap && gensDone s₁ && laidKept (boot_heap w.params) s₁.heap with | true => _ | false => _) = _
    rw [l1]
  unfold openEnds
  rw [e]
  show (topFrom treeTable PySem.Challenge.pw_tv0029_01 w N ⟨boot_heap w.params, #[], boot_drawn, boot_toks, os⟩).map _ = _
  rw [t]
  show some (_, _) = some (_, _)
  rw [l2, l3]
end Mine
namespace Mine.PySem.W
theorem holds_open {q : Program} {loose : List Str} {Xt : Shared → Bool} {XP : (Str → Option Value) → Heap → Prop} {α : Type} {Yf : Shared → α} {Ya : World → α} {YP : World → Heap → Prop} {d : DefRec} {kwd : List (Str × PySem.Expr)} {N : Nat}
    (left : TopOk q loose Xt Yf Ya (600 + N)) :
    type_of% (_root_.PySem.W.holds_open (r := PySem.Challenge.rw_tv0029_01.row) (q := q) (XP := XP) (YP := YP) (d := d) (kwd := kwd) (left_of (Nat.ble_eq_true_of_le (Nat.le_add_right ..)) left)) :=
  _root_.PySem.W.holds_open (left_of (Nat.ble_eq_true_of_le (Nat.le_add_right ..)) left)
end Mine.PySem.W
namespace Mine
set_option maxHeartbeats 8000000 in
open_top hd for PySem.Challenge.rw_tv0029_01
-- open_top leaves the walk's switch for rows with a class at the top on; the parts were walked with it off
theorem off_top : True := by
  w_top off
  trivial

abbrev aA (dp : Nat) (fr : Option (List Env)) (gd : Option (List Code)) (un : Nat) : Around := { handled := none, depth := dp, frames := fr, guards := gd, units := un }

section
variable {prog : Program} {w : World} {K : Frag} {mg mb : Str → Option Value} {p : Program} {loose : List Str} {mean : ExcName → Option Value}
  {dp un : Nat} {fr : Option (List Env)} {gd : Option (List Code)} {s : Shared} {Q E : Value → Shared → Prop}
  {name qual : Str} {params : Arguments} {body : List Stmt} {scope : Scope} {dV kV doc pm cdv ct oc : Value} {an od : Option Addr} {osl : Array (Option Value)} {f : Addr} {args : List Value} {binds : List (Str × Value)}

/-- a def is entered, the whole heap being the base -/
theorem enter (X : K.In s.heap) (T : Top p loose mean mg mb s.heap)
    (ho : K.lookup f = some ⟨oc, od, .func (fnOf name qual params body scope dV kV doc pm an cdv ct), osl⟩) (hcd : codeIn K cdv qual = true) (hroom : dp < recursionLimit)
    (hbind : BindsTo s (fnOf name qual params body scope dV kV doc pm an cdv ct) ⟨args, []⟩ binds) (hloc : ∀ y ∈ binds, scope.names.lookup y.1 = some .local)
    (h : ∀ h₁ tk, Fr s.heap s.heap.objs.size h₁ (fun y => binds.reverse.lookup y) → News s.heap s.heap.objs.size h₁ [] →
      wpAny (model prog w) (aA (dp + 1) (fr.map (envOf qual scope s.heap.objs.size f cdv :: ·)) gd (un + 3)) (execs body (envOf qual scope s.heap.objs.size f cdv))
        (fun fl s' => Q (match fl with | .ret v => v | _ => .none) s') (fun _ _ => False) { s with heap := h₁, toks := tk })
    (hco : scope.isCoroutine = false) (hgen : scope.isGenerator = false) (hk : scope.kind = .function) (hcell : ∀ x ∈ scope.names, x.2 ≠ .cell) :
    wpAny (model prog w) (aA dp fr gd un) (call (.ref f) args) Q E s := by
  refine wpAny_call (codeAny_call_def (fd := fnOf name qual params body scope dV kV doc pm an cdv ct) (body := body) (binds := binds) hroom (X _ _ ho) rfl T.nolimit (codeRec_of X hcd) rfl hbind hcell hloc (fun h₁ hns hk₁ => ?_) hco hgen hk)
  exact wpAny_mono (h h₁ _ ⟨hns, hk₁, Nat.le_refl _⟩ (fun _ hp => nomatch hp)) (fun fl s' hl => hl) fun _ _ y => y.elim

/-- the same, the ledger's objects not being of the base -/
theorem enterN {h₀ : Heap} {L : Addr} {m : Str → Option Value} {news : List (Addr × Obj)} {R : Result → Shared → Prop} (F : Fr h₀ L s.heap m) (N : News h₀ L s.heap news) (X₀ : K.In h₀) (T : Top p loose mean mg mb h₀)
    (ho : K.lookup f = some ⟨oc, od, .func (fnOf name qual params body scope dV kV doc pm an cdv ct), osl⟩) (hcd : codeIn K cdv qual = true) (hroom : dp < recursionLimit)
    (hbind : BindsTo s (fnOf name qual params body scope dV kV doc pm an cdv ct) ⟨args, []⟩ binds) (hloc : ∀ y ∈ binds, scope.names.lookup y.1 = some .local)
    (h : ∀ g h₁ tk, Fr h₀ L g m → Fr g s.heap.objs.size h₁ (fun y => binds.reverse.lookup y) → News g s.heap.objs.size h₁ news → K.In g → Top p loose mean mg mb g → (∀ b o, s.heap.get? b = some o → b ∉ news.map (·.1) → g.get? b = some o) →
      wpAny (model prog w) (aA (dp + 1) (fr.map (envOf qual scope s.heap.objs.size f cdv :: ·)) gd (un + 3)) (execs body (envOf qual scope s.heap.objs.size f cdv))
        (fun fl s' => LeaveK h₀ L m g R (match fl with | .ret v => v | _ => .none) s') (fun _ _ => False) { s with heap := h₁, toks := tk })
    (hco : scope.isCoroutine = false) (hgen : scope.isGenerator = false) (hk : scope.kind = .function) (hcell : ∀ x ∈ scope.names, x.2 ≠ .cell) :
    codeAny (model prog w) (aA dp fr gd un) (.call (.ref f) ⟨args, []⟩) R s := by
  have nm : ∀ b o, h₀.get? b = some o → b ∉ news.map (·.1) := fun b o e q => by
    obtain ⟨p, hp, rfl⟩ := List.mem_map.mp q
    rw [(N p hp).2.2] at e; cases e
  have st : h₀.StaysIn (hideAll s.heap (news.map (·.1))) := fun b o e => hideAll_get _ (F.keep b o e) (nm b o e)
  obtain ⟨oL, es, ep, hL, hLd, hLk, hLf⟩ := F.ns
  have nL : L ∉ news.map (·.1) := fun q => by
    obtain ⟨p, hp, e⟩ := List.mem_map.mp q
    exact (N p hp).2.1 e
  have hLg := hideAll_get (news.map (·.1)) hL nL
  refine codeAny_call_def (fd := fnOf name qual params body scope dV kV doc pm an cdv ct) (body := body) (binds := binds) hroom ((X₀.keeps F.keep) _ _ ho) rfl (T.nolimit.keeps F.keep) (codeRec_of (X₀.keeps F.keep) hcd) rfl hbind hcell hloc (fun h₁ hns hk₁ => ?_) hco hgen hk
  refine wpAny_mono (h _ h₁ _ ⟨⟨oL, es, ep, hLg, hLd, hLk, hLf⟩, st, F.above⟩ ⟨hns, fun b o e => hk₁ b o (of_hideAll _ e), Nat.le_of_eq (hideAll_size _ _)⟩
    (fun p hp => ⟨hk₁ _ _ (N p hp).1, Nat.ne_of_lt (Heap.lt_size (N p hp).1), hideAll_none _ (List.mem_map_of_mem hp)⟩) (X₀.keeps st) (T.keeps st) fun b o e hb => hideAll_get _ e hb) (fun fl s' hl => ?_) fun _ _ y => y.elim
  obtain ⟨L', m', news', F', N', k⟩ := hl
  refine k ⟨⟨oL, es, ep, F'.keep L oL hLg, hLd, hLk, hLf⟩, fun b o e => F'.keep b o (st b o e), F.above⟩ fun p hp => ⟨(N' p hp).1, fun q => ?_, ?_⟩
  · have := (N' p hp).2.2; rw [q, hLg] at this; cases this
  · cases q : h₀.get? p.1 with
    | none => rfl
    | some o => have := (N' p hp).2.2; rw [st _ _ q] at this; cases this
end

/-- what a call has made stands apart from the ledger -/
def Apart (news fz : List (Addr × Obj)) : Prop := ∀ q ∈ news, ∀ p ∈ fz, p.1 ≠ q.1
theorem Apart.out {news fz : List (Addr × Obj)} {d : Addr} {o : Obj} (h : Apart news fz) (hm : (d, o) ∈ news) : ∀ p ∈ fz, p.1 ≠ d := h _ hm
theorem all_app {fz r : List (Addr × Obj)} {d : Addr} (h1 : ∀ p ∈ fz, p.1 ≠ d) (h2 : ∀ p ∈ r, p.1 ≠ d) : ∀ p ∈ fz ++ r, p.1 ≠ d := fun p hp => (List.mem_append.mp hp).elim (h1 p) (h2 p)
theorem upd_app {d : Addr} {o o' : Obj} {r r' : List (Addr × Obj)} : ∀ {fz : List (Addr × Obj)}, (∀ p ∈ fz, p.1 ≠ d) → Upd d o o' r r' → Upd d o o' (fz ++ r) (fz ++ r')
  | [], _, u => u
  | _ :: _, h, u => .tail (h _ (.head _)) (upd_app (fun p hp => h p (.tail _ hp)) u)
theorem updF_app {d : Addr} {o : Obj} {r : List (Addr × Obj)} {g : Obj → List (Addr × Obj)} : ∀ {fz : List (Addr × Obj)}, (∀ p ∈ fz, p.1 ≠ d) → UpdF d o r g → UpdF d o (fz ++ r) (fun o' => fz ++ g o')
  | [], _, u => u
  | _ :: _, h, u => .tail (h _ (.head _)) (updF_app (fun p hp => h p (.tail _ hp)) u)

theorem back {h₀ h h' : Heap} {L L' : Addr} {m m' : Str → Option Value} {news new : List (Addr × Obj)} (F : Fr h₀ L h m) (N : News h₀ L h news) (F' : Fr h L' h' m') (N' : News h L' h' new) :
    Fr h₀ L h' m ∧ News h₀ L h' (new ++ news) ∧ Apart news new := by
  refine ⟨F.keeps F'.keep, fun p hp => ?_, fun q hq p hp e => ?_⟩
  · rcases List.mem_append.mp hp with hp | hp
    · have n := N' p hp
      refine ⟨n.1, fun e => ?_, ?_⟩
      · obtain ⟨oL, _, _, hL, _⟩ := F.ns
        rw [← e, n.2.2] at hL; cases hL
      · cases q : h₀.get? p.1 with
        | none => rfl
        | some o => rw [F.keep _ _ q] at n; cases n.2.2
    · exact ⟨F'.keep _ _ (N p hp).1, (N p hp).2⟩
  · have n := N' p hp
    rw [e, (N q hq).1] at n
    cases n.2.2

local macro_rules | `(tactic| k_mem) => `(tactic| first | assumption | (refine' List.mem_append_left _ ?_; k_mem) | (refine' List.mem_append_right _ ?_; k_mem))
local macro_rules | `(tactic| k_all) => `(tactic| first | (refine' Apart.out ?a ?b; (case a => assumption); (case b => k_mem)) | (refine' all_app ?a ?b; (case a => k_all); (case b => k_all)))
local macro_rules | `(tactic| k_upd) => `(tactic| (refine' upd_app ?a ?b; (case a => k_all); (case b => k_upd)))
local macro_rules | `(tactic| k_updF) => `(tactic| (refine' updF_app ?a ?b; (case a => k_all); (case b => k_updF)))

-- a hole that a failing rule leaves open: met at once (the library's own 154 lines for it cost half a second)
theorem m_len0 : Str.length (Str.mk #[]) ≤ sizeLine := by decide
local macro_rules | `(tactic| size_fits) => `(tactic| exact m_len0)
-- two addresses apart: the fact itself, ahead of omega (whose proofs are long)
local macro_rules | `(tactic| k_ne) => `(tactic| first | exact Nat.ne_of_lt (by assumption) | exact Nat.ne_of_gt (by assumption))

/-- an Entry's own dict, made by its __init__ -/
abbrev entD (P : Params) (t1 t2 t3 t4 : Tok) (u r : Addr) : List DictEntry :=
  [⟨PyData.keyHash P (Str.ofString "useragents"), .str (Str.ofString "useragents") t1, .ref u⟩, ⟨PyData.keyHash P (Str.ofString "rulelines"), .str (Str.ofString "rulelines") t2, .ref r⟩,
   ⟨PyData.keyHash P (Str.ofString "delay"), .str (Str.ofString "delay") t3, .none⟩, ⟨PyData.keyHash P (Str.ofString "req_rate"), .str (Str.ofString "req_rate") t4, .none⟩]

section
variable {prog : Program} {A : Around} {w : World} {E : Value → Shared → Prop} {s : Shared} {h₀ : Heap} {L D b : Addr} {m : Str → Option Value} {news : List (Addr × Obj)} {its its2 : Array Value} {n n2 : Nat} {g : Obj → List (Addr × Obj)}
theorem m_extend {Q : Value → Shared → Prop} (F : Fr h₀ L s.heap m) (N : News h₀ L s.heap news) (hb : s.heap.get? b = some (PySem.W.listOf its2 n2)) (U : UpdF D (PySem.W.listOf its n) news g)
    (h : ∀ h' n', Fr h₀ L h' m → News h₀ L h' (g (PySem.W.listOf (its ++ its2) n')) → Q .none { s with heap := h' }) (hsz : its.size + its2.size ≤ sizeLine) :
    wpAny (model prog w) A (call (.builtin "list.extend") [.ref D, .ref b]) Q E s := by
  obtain ⟨pre, post, rfl, hg, a, c⟩ := U.split
  obtain ⟨ys⟩ := its
  refine extend_in F N a c hb (fun h' n' F' N' => h h' n' F' ?_) hsz
  rw [hg]
  have e : ys.toArray ++ its2 = (ys ++ its2.toList).toArray := by simp
  rw [e]
  exact N'
end

section
variable {w : World} {mg mb : Str → Option Value} {p : Program} {loose : List Str} {mean : ExcName → Option Value}
  {dp un : Nat} {fr : Option (List Env)} {gd : Option (List Code)} {s : Shared} {Q E : Value → Shared → Prop} {h₀ : Heap} {L : Addr} {m : Str → Option Value} {news : List (Addr × Obj)}

theorem entry_new (F : Fr h₀ L s.heap m) (N : News h₀ L s.heap news) (X : (hd.heap_39 w.params).In h₀) (T : Top p loose mean mg mb h₀) (hdp : dp + 1 < recursionLimit)
   (h : ∀ u r x dx t1 t2 t3 t4 h' tk', Fr h₀ L h' m → News h₀ L h' ((r, PySem.W.listOf #[] 0) :: (u, PySem.W.listOf #[] 0) :: (x, instObj 52 dx) :: (dx, dictOf (entD w.params t1 t2 t3 t4 u r) 4) :: news) →
     (∀ p ∈ news, p.1 < dx) → dx < x → x < u → u < r → Q (.ref x) { s with heap := h', toks := tk' }) :
   wpAny (model PySem.Challenge.pw_tv0029_01 w) (aA dp fr gd un) (call (.ref 52) []) Q E s := by
  refine wpAny_call ?_
  refine make_K (fI := 28) F N (X.keeps F.keep) (by k_is) (by k_is) (by k_is) ?_
  intro x dx h₁ F₁ N₁ l1 l2
  have l1' := allLt_of l1
  k_lt2 l2
  refine enterN (dp := dp + 1) (fr := fr) (gd := gd) (un := un + 1) F₁ N₁ X T (by k_is) (by k_is) hdp (BindsTo.of_eq rfl) (locs rfl) ?_ rfl rfl rfl (by decide)
  intro g h₂ tk₂ FG F₂ N₂ X₂ T₂ _
  k_steps
  exact h _ _ x dx _ _ _ _ _ _ (by k_asm) (by k_asm) l1 l2 (ltN (by omega)) (ltN (by omega))
end

local macro_rules | `(tactic| walk_at "call ref") => `(tactic| ((with_reducible show wpAny _ _ (call (Value.ref 52) _) _ _ _); k_dflt (refine' entry_new ?F ?N ?X ?T ?d ?_; (case F => k_asm); (case N => k_asm); (case X => k_asm); (case T => k_asm); (case d => omega); k_whole); intro u' r' x' dx' t1' t2' t3' t4' h' tk' F' N' l1 l2 l3 l4; (try k_lt l1); k_lt2 l2; k_lt2 l3; k_lt2 l4; (try dsimp only); (try k_sweep)))
local macro_rules | `(tactic| walk_at "call builtin:list.extend") => `(tactic| (k_here; (with_reducible show wpAny _ _ (call (Value.builtin _) [Value.ref _, Value.ref _]) _ _ _); k_dflt (refine' m_extend ?F ?N ?b ?U ?_ ?z; (case F => k_asm); (case N => k_asm); (case b => first | exact News.get (by k_asm) (by k_mem) | exact Fr.keep (by k_asm) _ _ (by assumption)); (case U => k_updF); (case z => first | (simp only [List.size_toArray, sizeLine_eq]; omega) | (simp only [sizeLine_eq]; omega) | size_fits)); intro h' n' F' N'; (try dsimp only at N'); (try k_sweep)))

section
variable {w : World} {mg mb : Str → Option Value} {p : Program} {loose : List Str} {mean : ExcName → Option Value}
  {dp un : Nat} {fr : Option (List Env)} {gd : Option (List Code)} {s : Shared} {Q E : Value → Shared → Prop} {h₀ : Heap} {L : Addr} {m : Str → Option Value} {news : List (Addr × Obj)}
theorem record_new {l : Addr} {n : Nat} {vs : List Value} (F₀ : Fr h₀ L s.heap m) (N₀ : News h₀ L s.heap news) (X₀ : (hd.heap_39 w.params).In h₀) (T₀ : Top p loose mean mg mb h₀) (hdp : dp + 3 < recursionLimit) (hl : s.heap.get? l = some (PySem.W.listOf vs.toArray n)) (hsz : vs.length ≤ 100)
   (h : ∀ u r x dx t1 t2 t3 t4 c fz h' tk', Fr h₀ L h' m → News h₀ L h' (fz ++ news) → Apart news fz → (x, instObj 52 dx) ∈ fz → (dx, dictOf (entD w.params t1 t2 t3 t4 u r) 4) ∈ fz → (u, PySem.W.listOf vs.toArray c) ∈ fz → (r, PySem.W.listOf #[] 0) ∈ fz →
      Q (.ref x) { s with heap := h', toks := tk' }) :
   wpAny (model PySem.Challenge.pw_tv0029_01 w) (aA dp fr gd un) (call (.ref 129) [.ref l]) Q E s := by
  have X := X₀.keeps F₀.keep
  have T := T₀.keeps F₀.keep
  refine enter X T (by k_is) (by k_is) (by omega) (BindsTo.of_eq rfl) (locs rfl) ?_ rfl rfl rfl (by decide)
  intro h₁ tk F N
  clear X₀ T₀
  k_steps
  dsimp only
  rename_i F' N'
  rw [show (#[] : Array Value) ++ vs.toArray = vs.toArray from by simp] at N'
  obtain ⟨F'', N'', A''⟩ := back F₀ N₀ F' N'
  exact h _ _ _ _ _ _ _ _ _ _ _ _ F'' N'' A'' (by k_mem) (by k_mem) (by k_mem) (by k_mem)
end

theorem strs_at : ∀ {vs : List Value} {ss : List Str}, StrsAre vs ss → ∀ (i : Nat) (x : Str), ss[i]? = some x → ∃ t, vs[i]? = some (.str x t)
  | _, _, .nil, i, x, h => by simp at h
  | _, _, .cons y t hr, 0, x, h => by simp at h; exact ⟨t, by rw [← h]; rfl⟩
  | _, _, .cons y t hr, i + 1, x, h => by
    simp only [List.getElem?_cons_succ] at h ⊢
    exact strs_at hr i x h
theorem strs_len : ∀ {vs : List Value} {ss : List Str}, StrsAre vs ss → vs.length = ss.length
  | _, _, .nil => rfl
  | _, _, .cons _ _ hr => by rw [List.length_cons, List.length_cons, strs_len hr]

section
variable {prog : Program} {w : World} {A : Around} {E : Value → Shared → Prop} {R : Result → Shared → Prop}
theorem set_loop {I S l : Addr} {items : Array Value} {ss : List Str} (hh : A.in1.handled = none) (hi : StrsAre items.toList ss) (hlI : l ≠ I) (hSI : S ≠ I) (hSl : S ≠ l) (hb : ss.length + 1 < scanBound) :
    ∀ (k i n : Nat) (s : Shared), ss.length - i = k → i ≤ ss.length → s.heap.IsListIter I l i → s.heap.IsList l items → n ≤ i → s.heap.SetOf (PySem.strKind prog w) S (fun x => decide (x ∈ ss.take i)) n →
      (∀ h' tk n', (∀ b o, b ≠ S → b ≠ I → s.heap.get? b = some o → h'.get? b = some o) → h'.SetOf (PySem.strKind prog w) S (fun x => decide (x ∈ ss)) n' → R (.ok (.ret .none)) { s with heap := h', toks := tk }) →
      codeAny (model prog w) A (.builtin "set.update.loop" ⟨[.ref S, .ref I], []⟩) R s := by
  have hsz : items.size = ss.length := by rw [← Array.length_toList]; exact strs_len hi
  intro k
  induction k with
  | zero =>
    intro i n s hk hle hit hl hn hS hR
    have hin : i = ss.length := by omega
    refine codeAny_builtin PyProof.Rows.F.entry_set_update_loop ?_
    rw [Around.under_plainId PyProof.Rows.F.plain_set_update_loop _]
    show wpAny _ A.in1 (pyNext (.ref I) >>= _) _ _ s
    refine wpAny_bind (wpAny_pyNext_list_end hh hit hl (by rw [hin, ← hsz]; simp) fun h₁ he => ?_)
    show wpAny _ A.in1 (ret Value.none) _ _ _
    subst hin
    rw [List.take_length] at hS
    obtain ⟨o, es, ep, t, ho, rest⟩ := hS
    exact wpAny_pure (hR h₁ s.toks n (fun b o' _ h2 e => he b o' h2 e) ⟨o, es, ep, t, he _ _ hSI ho, rest⟩)
  | succ k ih =>
    intro i n s hk hle hit hl hn hS hR
    have hlt : i < ss.length := by omega
    refine codeAny_builtin PyProof.Rows.F.entry_set_update_loop ?_
    rw [Around.under_plainId PyProof.Rows.F.plain_set_update_loop _]
    show wpAny _ A.in1 (pyNext (.ref I) >>= _) _ _ s
    obtain ⟨t, hx⟩ := strs_at hi i ss[i] (by simp [hlt])
    refine wpAny_bind (wpAny_pyNext_list_item hit hl (x := .str ss[i] t) (by rw [← Array.getElem?_toList]; exact hx) fun h₁ hit₁ hs₁ => ?_)
    have hS₁ : h₁.SetOf (PySem.strKind prog w) S (fun x => decide (x ∈ ss.take i)) n := by
      obtain ⟨o, es, ep, tb, ho, rest⟩ := hS
      exact ⟨o, es, ep, tb, hs₁.extBut _ _ hSI ho, rest⟩
    show wpAny _ A.in1 (holding [Value.str ss[i] t] (setAdd S (.str ss[i] t)) >>= _) _ _ _
    refine wpAny_bind (wpAny_holding ?_)
    unfold setAdd
    refine wpAny_holding ?_
    refine wpAny_bind ((PySem.strKind prog w).pyHash (k := ss[i]) (PySem.strKind_is _ _ _ _) ?_)
    refine wpAny_setAddHashed_of (knd := PySem.strKind prog w) (s := { s with heap := h₁, toks := s.toks + 1 }) (PySem.strKind_is _ _ _ _) rfl hS₁ (by omega) fun h₂ hsb hS₂ => ?_
    have e1 : (fun k' => decide (k' ∈ ss.take i) || decide (k' = ss[i])) = fun k' => decide (k' ∈ ss.take (i + 1)) := by
      funext k'
      have e : ss.take (i + 1) = ss.take i ++ [ss[i]] := by rw [List.take_add_one]; simp [hlt]
      rw [e]
      simp only [List.mem_append, List.mem_singleton, Bool.decide_or]
    rw [e1] at hS₂
    refine wpAny_pure ⟨plainId_quiet PyProof.Rows.F.plain_set_update_loop _, ih (i + 1) _ _ (by omega) hlt (hit₁.extBut hsb.extBut (Ne.symm hSI)) ((hl.extBut hs₁.extBut hlI).extBut hsb.extBut (Ne.symm hSl)) ?_ hS₂ fun h' tk n' hk' hS' => ?_⟩
    · split <;> omega
    · exact hR h' tk n' (fun b o h1 h2 e => hk' b o h1 h2 (hsb.extBut _ _ h1 (hs₁.extBut _ _ h2 e))) hS'

set_option maxHeartbeats 6400000 in
theorem call_set_strs {s : Shared} {l : Addr} {items : Array Value} {ss : List Str} {Q : Value → Shared → Prop}
    (hh : A.handled = none) (hl : s.heap.IsList l items) (hi : StrsAre items.toList ss) (hb : ss.length + 1 < scanBound)
    (h : ∀ (h' : Heap) (tk n : Nat), h'.SetOf (PySem.strKind prog w) s.heap.objs.size (fun x => decide (x ∈ ss)) n →
      (∀ b o, b < s.heap.objs.size → s.heap.get? b = some o → h'.get? b = some o) → Q (.ref s.heap.objs.size) { s with heap := h', toks := tk }) :
    wpAny (model prog w) A (call (.type "set") [.ref l]) Q E s := by
  obtain ⟨c, tl, hmro⟩ := PySem.F.called_set.mro
  have hmade := PySem.F.called_set.made
  have hsub := PySem.F.called_set.sub
  refine wpAny_call (codeAny_of_tree ?_)
  show wpAny _ _ (callAny (.type "set") _) _ _ _
  refine wpAny_pure ⟨Code.quiet_builtin _ (by decide +kernel), codeAny_builtin PySem.F.entry_type_call ?_⟩
  rw [Around.under_plain (weight_type_call_type "set" [.ref l] []) rfl]
  have h1 := PySem.F.called_set.notType
  have h2 := PySem.F.called_set.canCreate
  have hct := PySem.F.typeCall_set_1 (.ref l)
  repeat (any_goals (first | assumption | wp_step))
  refine codeAny_mono (code_set_new_1 (.ref l) (E := E) (Q₁ := fun obj s₁ => ∃ led : Bool, obj = .ref s.heap.objs.size ∧ s₁ = { s with heap := s.heap.push { cls := .type "set", dict := none, data := .set #[] 0 (.fresh 0 0 led) } }) fun led => ⟨led, rfl, rfl⟩) fun r s₁ hr => ?_
  cases r with
  | error e => exact hr
  | ok fl =>
    cases fl with
    | ret obj =>
      obtain ⟨led, rfl, rfl⟩ := hr
      have hS : (s.heap.push { cls := .type "set", dict := none, data := .set #[] 0 (.fresh 0 0 led) }).get? s.heap.objs.size = some { cls := .type "set", dict := none, data := .set #[] 0 (.fresh 0 0 led) } := Heap.get?_push_size _ rfl
      have hT : Shared.TypeIs { s with heap := s.heap.push { cls := .type "set", dict := none, data := .set #[] 0 (.fresh 0 0 led) } } (.ref s.heap.objs.size) "set" := ⟨_, hS, rfl⟩
      have hli := PySem.F.called_set.init.lookup
      have hbi := PySem.F.called_set.init.bind (.ref s.heap.objs.size)
      repeat (any_goals (first | assumption | wp_step))
      refine codeAny_mono (codeAny_call_builtin (R := wants (fun r s₂ => r = .none ∧ ∃ h' tk n, s₂ = { s with heap := h', toks := tk } ∧ h'.SetOf (PySem.strKind prog w) s.heap.objs.size (fun x => decide (x ∈ ss)) n ∧
          (∀ b o, b < s.heap.objs.size → s.heap.get? b = some o → h'.get? b = some o)) E) PySem.F.called_set.init.plain PySem.F.entry_set_init (check_set_init_1 hT ?_)) fun r₂ s₂ hr₂ => ?_
      · obtain ⟨ol, hol, hcl, nl, hdl⟩ := hl
        obtain ⟨ocls, odict, odata, oslots⟩ := ol
        simp only at hcl hdl
        subst hcl; subst hdl
        have hol' : (s.heap.push { cls := .type "set", dict := none, data := .set #[] 0 (.fresh 0 0 led) }).get? l = some { cls := .type "list", dict := odict, data := .seq items nl, slots := oslots } := Heap.get?_push_of_some _ hol
        have hsls := PySem.F.sub_list_set
        have hslf := PySem.F.sub_list_frozenset
        have hne : (Value.type "list" == Value.type "dict") = false := by decide
        have hl1 : (s.heap.push { cls := .type "set", dict := none, data := .set #[] 0 (.fresh 0 0 led) }).IsList l items := ⟨_, hol', rfl, nl, rfl⟩
        unfold Builtin.«set.__init__» noKeywords Builtin.Frozenset.updateFrom
        generalize hPI : pyIter = PI
        wp_walk
        subst hPI
        refine wpAny_pyIter_list hl1 ?_
        refine wpAny_bind (wpAny_runValue ?_)
        have hlS : l < s.heap.objs.size := Heap.lt_size hol
        have hh3 : A.in1.in1.in1.handled = none := by simp [hh]
        have hIs : (s.heap.push { cls := .type "set", dict := none, data := .set #[] 0 (.fresh 0 0 led) }).objs.size = s.heap.objs.size + 1 := Heap.size_push ..
        refine set_loop (I := (s.heap.push { cls := .type "set", dict := none, data := .set #[] 0 (.fresh 0 0 led) }).objs.size) (S := s.heap.objs.size) (n := 0) hh3 hi (by rw [hIs]; exact Nat.ne_of_lt (Nat.lt_succ_of_lt hlS)) (by rw [hIs]; exact Nat.ne_of_lt (Nat.lt_succ_self _)) (Nat.ne_of_gt hlS) hb (ss.length - 0) 0 _ rfl (Nat.zero_le _)
          ?hit ?hl (Nat.le_refl _) ?hS0 ?hR
        case hit => exact ⟨_, Heap.get?_push_size _ rfl, rfl, rfl⟩
        case hl => exact hl1.push _
        case hS0 =>
          have hget : ((s.heap.push { cls := .type "set", dict := none, data := .set #[] 0 (.fresh 0 0 led) }).push { cls := .type "list_iterator", data := .fields #[.ref l, .int 0 0] }).get? s.heap.objs.size
              = some { cls := .type "set", dict := none, data := .set #[] 0 (.fresh 0 0 led) } := Heap.get?_push_of_some _ hS
          exact PyProof.Rows.SetOf_congr ((PyProof.Rows.setObjOf_fresh (knd := PySem.strKind prog w) led).setOf hget (by unfold scanBound; omega)) (fun _ => by simp) rfl
        case hR =>
          intro h' tk n' hk' hS'
          show wpAny _ _ _ _ _ _
          refine wpAny_pure ?_
          show wpAny _ _ (ret Value.none) _ _ _
          refine wpAny_pure ⟨rfl, h', tk, n', rfl, hS', fun b o hb e => ?_⟩
          exact hk' b o (Nat.ne_of_lt hb) (by rw [hIs]; exact Nat.ne_of_lt (Nat.lt_succ_of_lt hb)) (Heap.get?_push_of_some _ (Heap.get?_push_of_some _ e))
      · cases r₂ with
        | error e => exact hr₂
        | ok fl₂ =>
          cases fl₂ with
          | ret r =>
            obtain ⟨rfl, h', tk, n, rfl, hS', hk'⟩ := hr₂
            repeat (any_goals (first | assumption | wp_step))
            exact h _ _ _ hS' hk'
          | _ => exact hr₂.elim
    | _ => exact hr.elim
end

namespace G
theorem slot_md_get : Slot "method_descriptor" "__get__" "method_descriptor.__get__" :=
  .of (owner := "method_descriptor") (n := "__get__") (by rw [typeLookup_type, builtinLookup_eq_fast]; kernel_rfl) (by decide +kernel) (by decide +kernel) (by decide +kernel)
    (by first | exact .inl (by decide +kernel) | exact .inr (by decide +kernel)) (by rw [isSubtype_type]; kernel_rfl)
theorem none_md_set : typeLookup (.type "method_descriptor") "__set__" = pure none := by rw [typeLookup_type, builtinLookup_eq_fast]; kernel_rfl
theorem none_md_del : typeLookup (.type "method_descriptor") "__delete__" = pure none := by rw [typeLookup_type, builtinLookup_eq_fast]; kernel_rfl
theorem entry_md_get : entryFor table "method_descriptor.__get__" = some Builtin.«method_descriptor.__get__» := entryFor_of_tree (by kernel_rfl)
theorem args_md_get (a b c : Value) : argsOk "method_descriptor.__get__" ⟨[a, b, c], []⟩ := by unfold argsOk; kernel_rfl
theorem owner_contains : (".".intercalate ("set.__contains__".cutAt '.').dropLast) = "set" := by
  have e0 : "set.__contains__".cutAt '.' = ["set", "__contains__"] := by first | rfl | decide +kernel
  rw [e0]; decide +kernel
theorem sub_set_owner : isSubtype (.type "set") (.type (".".intercalate ("set.__contains__".cutAt '.').dropLast)) = pure true := by rw [owner_contains]; exact sub_set_self
theorem told_contains : Manifest.toldItsClass.contains "set.__contains__" = false := by decide +kernel
end G
abbrev boundC (S : Addr) : Obj := { cls := .type "builtin_function_or_method", data := .fields #[.builtin "set.__contains__", .ref S] }
section
variable {prog : Program} {w : World} {A : Around} {E : Value → Shared → Prop} {h : Heap} {g : Array GenState} {d : Drawn} {t : Nat} {os : OsState} {a : Addr} {o : Obj}
theorem contains_get {R : Result → Shared → Prop} (hx : h.get? a = some o) (hc : o.cls = .type "set") (hq : R (.ok (.ret (.ref h.objs.size))) ⟨h.push (boundC a), g, d, t, os⟩) :
    codeAny (model prog w) A (.call (.builtin "method_descriptor.__get__") ⟨[.builtin "set.__contains__", .ref a, .type "set"], []⟩) R ⟨h, g, d, t, os⟩ := by
  have hT : (⟨h, g, d, t, os⟩ : Shared).TypeIs (.ref a) "set" := ⟨_, hx, hc⟩
  have hT5 : (⟨h, g, d, t, os⟩ : Shared).TypeIs (.builtin "set.__contains__") "method_descriptor" := PySem.F.type_set_contains
  have f8 := G.sub_set_owner
  have f9 := G.told_contains
  refine codeAny_call_builtin G.slot_md_get.plain G.entry_md_get (G.slot_md_get.check _ _ _ _ _ _ _ _ hT5 (G.args_md_get _ _ _) ?_)
  repeat (any_goals (first | assumption | wp_step))
theorem contains_entry {tk : Tok} {es : Array (Int × Value)} {ep : Nat} {tb : SetTable} {Q : Fin → Shared → Prop} (hx : h.get? a = some ⟨.type "set", none, .set es ep tb, #[]⟩) (hq : Q (.done (.ret (.ref h.objs.size))) ⟨h.push (boundC a), g, d, t, os⟩) :
    wpAny (model prog w) A (Builtin.«object.__getattribute__» ⟨[.ref a, .str "__contains__" tk], []⟩) Q E ⟨h, g, d, t, os⟩ := by
  have hT : (⟨h, g, d, t, os⟩ : Shared).TypeIs (.ref a) "set" := ⟨_, hx, rfl⟩
  have hT5 : (⟨h, g, d, t, os⟩ : Shared).TypeIs (.builtin "set.__contains__") "method_descriptor" := PySem.F.type_set_contains
  have f4 := PySem.F.slot_set_contains.lookup
  have f5 := PySem.F.type_set_contains
  have f6 := G.slot_md_get.lookup
  have f7 := G.none_md_set
  have f8 := G.none_md_del
  repeat (any_goals (first | assumption | wp_step))
  refine contains_get hx rfl ?_
  repeat (any_goals (first | assumption | wp_step))

theorem contains_call {tk : Tok} {es : Array (Int × Value)} {ep : Nat} {tb : SetTable} {R : Result → Shared → Prop} (hx : h.get? a = some ⟨.type "set", none, .set es ep tb, #[]⟩) (hq : R (.ok (.ret (.ref h.objs.size))) ⟨h.push (boundC a), g, d, t, os⟩) :
    codeAny (model prog w) A (.call (.builtin "set.__getattribute__") ⟨[.ref a, .str "__contains__" tk], []⟩) R ⟨h, g, d, t, os⟩ :=
  codeAny_call_builtin PySem.F.slot_set_getattribute.plain PySem.F.entry_set_ga (PySem.F.slot_set_getattribute.check _ _ _ _ _ _ _ _ (show (⟨h, g, d, t, os⟩ : Shared).TypeIs (.ref a) "set" from ⟨_, hx, rfl⟩) (PySem.F.args_set_getattribute_2 _ _) (contains_entry hx hq))

theorem contains_attr {es : Array (Int × Value)} {ep : Nat} {tb : SetTable} {ex : Bool} {Q : Value → Shared → Prop} (hx : h.get? a = some ⟨.type "set", none, .set es ep tb, #[]⟩) (hq : Q (.ref h.objs.size) ⟨h.push (boundC a), g, d, t + 1, os⟩) :
    wpAny (model prog w) A (getAttr (.ref a) "__contains__" ex) Q E ⟨h, g, d, t, os⟩ := by
  have hT : (⟨h, g, d, t + 1, os⟩ : Shared).TypeIs (.ref a) "set" := ⟨_, hx, rfl⟩
  have f2 := PySem.F.slot_set_getattribute.lookup
  have f3 := PySem.F.slot_set_getattribute.bind (.ref a)
  unfold getAttr
  have hb : (ex && onTheHeap (Value.builtin "set.__getattribute__")) = false := by cases ex <;> rfl
  repeat (any_goals (first | assumption | wp_step))
  refine contains_call hx ?_
  repeat (any_goals (first | assumption | wp_step))
end

namespace G
theorem sig_contains : Manifest.signature? "set.__contains__" = some ⟨.oneArg, "set.__contains__", "__contains__", .self, [⟨"object", .posOnly, true⟩]⟩ := by
  rw [signature?_of (id := "set.__contains__") (n := ['_', '_', 's', 'n', 'i', 'a', 't', 'n', 'o', 'c', '_', '_']) (o := ['t', 'e', 's']) (by kernel_rfl) PySem.F.owner_set]; kernel_rfl
theorem kind_contains : builtinKind "set.__contains__" = some .method := by kernel_rfl
theorem varargs_contains : Manifest.varargsMethods.contains "set.__contains__" = false := by decide +kernel
theorem last_contains : Bind.lastOf "set.__contains__" = "__contains__" := by first | rfl | decide +kernel
theorem last_set : Bind.lastOf "set" = "set" := by first | rfl | decide +kernel
theorem sub_set_module : isSubtype (.type "set") (.type "module") = pure false := by rw [isSubtype_type]; kernel_rfl
theorem sub_set_type : isSubtype (.type "set") (.type "type") = pure false := by rw [isSubtype_type]; kernel_rfl
end G
section
variable {prog : Program} {w : World} {A : Around} {E : Value → Shared → Prop} {s : Shared}
theorem check_bound {S : Addr} {x : Value} {es : Array (Int × Value)} {ep : Nat} {tb : SetTable} {Q : Unit → Shared → Prop} (hx : s.heap.get? S = some ⟨.type "set", none, .set es ep tb, #[]⟩) (hQ : Q () s) : wpAny (model prog w) A (checkBoundCall "set.__contains__" ⟨[.ref S, x], []⟩) Q E s := by
  have hT : s.TypeIs (.ref S) "set" := ⟨_, hx, rfl⟩
  have f1 := G.sub_set_module
  have hn : toString (Bind.lastOf "set") ++ toString "." ++ toString "__contains__" = "set.__contains__" := by rw [G.last_set]; decide +kernel
  simp only [checkBoundCall, G.sig_contains, G.kind_contains, G.varargs_contains, G.last_contains]
  generalize hB : Bind.checkArgs = CA
  repeat (any_goals (first | assumption | wp_step))
  subst hB
  rw [hn]
  unfold Bind.checkArgs
  dsimp only
  refine wpAny_bind (m := Bind.printed "set.__contains__" true _ _) (PyProof.Rows.printed_name (by decide) ?_)
  refine wpAny_bind (m := Bind.printed "__contains__" false _ _) (PyProof.Rows.printed_name (by decide) ?_)
  have hrn : (Manifest.Receiver.self == Manifest.Receiver.none) = false := by decide
  have hn' : (if (Manifest.Receiver.self == Manifest.Receiver.none) = true then [Value.ref S, x].length else [Value.ref S, x].length - 1) = 1 := by simp [hrn]
  rw [hn']
  simp only [List.map_nil]
  have hc : Bind.check ⟨.oneArg, "set.__contains__", "__contains__", .self, [⟨"object", .posOnly, true⟩]⟩ "set.__contains__" "__contains__" 1 [] = pure () := by
    first | rfl | kernel_rfl | simp [Bind.check]
  rw [hc]
  exact wpAny_pure hQ
end

namespace G
theorem plain_contains : plainId "set.__contains__" = true := by decide +kernel
end G
section
variable {prog : Program} {w : World} {A : Around} {E : Value → Shared → Prop} {s : Shared}
theorem contains_body {S : Addr} {x : Str} {u : Tok} {P : Str → Bool} {n : Nat} {R : Result → Shared → Prop} (hS : s.heap.SetOf (PySem.strKind prog w) S P n) (h : R (.ok (.ret (.bool (P x)))) { s with toks := s.toks + 1 }) :
    codeAny (model prog w) A (.builtin "set.__contains__" ⟨[.ref S, .str x u], []⟩) R s := by
  refine codeAny_builtin entry_set_contains ?_
  rw [Around.under_plainId G.plain_contains _]
  unfold Builtin.«frozenset.__contains__» Builtin.Frozenset.oneOther
  simp only [List.isEmpty_nil, bind_assoc]
  unfold Builtin.Frozenset.addrOf Builtin.Frozenset.withSetAsKey setContains
  refine wpAny_bind (wpAny_pure ?_)
  try dsimp only
  refine wpAny_bind (wpAny_pure ?_)
  try dsimp only
  refine wpAny_bind (wpAny_tryCatch ?_)
  refine wpAny_holding ?_
  refine wpAny_bind ((PySem.strKind prog w).pyHash (PySem.strKind_is prog w x u) ?_)
  refine wpAny_bind (wpAny_setFind_of (s := { s with toks := s.toks + 1 }) (PySem.strKind_is prog w x u) rfl hS fun r hr => ?_)
  refine wpAny_pure ?_
  show wpAny _ _ (ret (Value.bool r.isSome)) _ _ _
  rw [hr]
  exact wpAny_pure h

theorem bound_call {q S : Addr} {x : Str} {u : Tok} {P : Str → Bool} {n : Nat} {Q : Value → Shared → Prop} (hq : s.heap.get? q = some (boundC S)) (hS : s.heap.SetOf (PySem.strKind prog w) S P n) (h : Q (.bool (P x)) { s with toks := s.toks + 1 }) :
    wpAny (model prog w) A (call (.ref q) [.str x u]) Q E s := by
  obtain ⟨o, es, ep, t, ho, hex, hd, rest⟩ := id hS
  obtain ⟨oc, od, oda, osl⟩ := o
  obtain ⟨e1, e2, e3⟩ := hex
  dsimp only at e1 e2 e3 hd
  subst e1 e2 e3 hd
  refine wpAny_call (codeAny_of_tree ?_)
  show wpAny _ _ (callAny (.ref q) _) _ _ _
  simp only [callAny]
  refine wpAny_bind (wpAny_load hq ?_)
  dsimp only [boundC]
  have c1 : (Value.type "builtin_function_or_method" == Value.type "method" || Value.type "builtin_function_or_method" == Value.type "builtin_function_or_method" || Value.type "builtin_function_or_method" == Value.type "method-wrapper") = true := by decide
  have c2 : (Value.type "builtin_function_or_method" != Value.type "method") = true := by decide
  rw [if_pos c1]
  show wpAny _ _ (if (Value.type "builtin_function_or_method" != Value.type "method") = true then _ else _) _ _ _
  rw [if_pos c2]
  refine wpAny_bind (check_bound ho ?_)
  exact wpAny_bind (wpAny_pure (wpAny_pure ⟨plainId_quiet G.plain_contains _, contains_body hS h⟩))
end

namespace G
theorem owner_filter : Manifest.owners.lookup (String.ofList ['r', 'e', 't', 'l', 'i', 'f'].reverse) = some Manifest.sig_filter := by kernel_rfl
theorem slot_filter_init : Slot "filter" "__init__" "object.__init__" :=
  .of (owner := "object") (n := "__init__") (by rw [typeLookup_type, builtinLookup_eq_fast]; kernel_rfl) (by decide +kernel) (by decide +kernel) (by decide +kernel)
    (by first | exact .inl (by decide +kernel) | exact .inr (by decide +kernel)) (by rw [isSubtype_type]; kernel_rfl)
theorem slot_filter_iter : Slot "filter" "__iter__" "filter.__iter__" :=
  .of (owner := "filter") (n := "__iter__") (by rw [typeLookup_type, builtinLookup_eq_fast]; kernel_rfl) (by decide +kernel) (by decide +kernel) (by decide +kernel)
    (by first | exact .inl (by decide +kernel) | exact .inr (by decide +kernel)) (by rw [isSubtype_type]; kernel_rfl)
theorem slot_filter_next : Slot "filter" "__next__" "filter.__next__" :=
  .of (owner := "filter") (n := "__next__") (by rw [typeLookup_type, builtinLookup_eq_fast]; kernel_rfl) (by decide +kernel) (by decide +kernel) (by decide +kernel)
    (by first | exact .inl (by decide +kernel) | exact .inr (by decide +kernel)) (by rw [isSubtype_type]; kernel_rfl)
theorem args_filter_iter_1 (a : Value) : argsOk "filter.__iter__" ⟨[a], []⟩ := by
  unfold argsOk; rw [signature?_of (id := "filter.__iter__") (n := ['_', '_', 'r', 'e', 't', 'i', '_', '_']) (o := ['r', 'e', 't', 'l', 'i', 'f']) (by kernel_rfl) owner_filter]; kernel_rfl
theorem args_filter_next_1 (a : Value) : argsOk "filter.__next__" ⟨[a], []⟩ := by
  unfold argsOk; rw [signature?_of (id := "filter.__next__") (n := ['_', '_', 't', 'x', 'e', 'n', '_', '_']) (o := ['r', 'e', 't', 'l', 'i', 'f']) (by kernel_rfl) owner_filter]; kernel_rfl
theorem entry_filter_iter : entryFor table "filter.__iter__" = some Builtin.«dict_keyiterator.__iter__» :=
  entryFor_alias (id' := "dict_keyiterator.__iter__") (by kernel_rfl) (by first | rfl | decide +kernel | (unfold String.splitOn; simp +decide [String.splitOnAux])) (by decide +kernel) (by kernel_rfl)
theorem entry_filter_next : entryFor table "filter.__next__" = some Builtin.«filter.__next__» := entryFor_of_tree (by kernel_rfl)
theorem mro_filter : mroOf (.type "filter") = pure [.type "filter", .type "object"] := by rw [mroOf_type]; kernel_rfl
theorem lookup_filter_new : typeLookup (.type "filter") "__new__" = pure (some (.builtin "filter.__new__")) := by rw [typeLookup_type, builtinLookup_eq_fast]; kernel_rfl
theorem called_filter : TypeCalled "filter" "filter.__new__" "object.__init__" :=
  ⟨by decide +kernel, by decide +kernel, ⟨_, _, mro_filter⟩, madeBy_type mro_filter lookup_filter_new (by decide +kernel), by decide +kernel, by rw [isSubtype_type]; kernel_rfl, slot_filter_init⟩
theorem typeCall_filter_2 (a b : Value) : checkTypeCall "filter" ⟨[a, b], []⟩ = pure () := by kernel_rfl
theorem newCall_filter_2 (a b : Value) : checkBuiltinCall "filter.__new__" ⟨[.type "filter", a, b], []⟩ = pure () := by kernel_rfl
theorem entry_filter_new : entryFor table "filter.__new__" = some Builtin.«filter.__new__» := entryFor_of_tree (by kernel_rfl)
theorem sub_filter : isSubtype (.type "filter") (.type "filter") = pure true := by rw [isSubtype_type]; kernel_rfl
theorem plain_filter_next : plainId "filter.__next__" = true := by decide +kernel
theorem no_len : typeLookup (.type "filter") "__len__" = pure none := by rw [typeLookup_type, builtinLookup_eq_fast]; kernel_rfl
theorem no_hint : typeLookup (.type "filter") "__length_hint__" = pure none := by rw [typeLookup_type, builtinLookup_eq_fast]; kernel_rfl
end G

theorem meets_filter_new (f : Value) (l : Addr) (xs : Array Value) :
    Meets (Builtin.«filter.__new__» ⟨[.type "filter", f, .ref l], []⟩) (fun _ R s => s.heap.IsList l xs ∧
      R (.ok (.ret (.ref (s.heap.push { cls := .type "list_iterator", data := .fields #[.ref l, .int 0 0] }).objs.size)))
        { s with heap := (s.heap.push { cls := .type "list_iterator", data := .fields #[.ref l, .int 0 0] }).push { cls := .type "filter", data := .fields #[f, .ref s.heap.objs.size] } }) :=
  .of_wp fun prog w A R s h => by
    obtain ⟨hp, g, d, tk, os⟩ := s; obtain ⟨hl1, h⟩ := h
    have hsub := G.sub_filter
    have hL1 : Heap.IsList (Shared.heap ⟨hp, g, d, tk, os⟩) l xs := hl1
    wp_walk using wpAny_pyIter_list hL1
    exact ⟨_, rfl, h⟩

section
variable {prog : Program} {w : World} {A : Around} {E : Value → Shared → Prop} {s : Shared}
theorem call_filter {f : Value} {l : Addr} {xs : Array Value} {Q : Value → Shared → Prop} (hl : s.heap.IsList l xs)
    (h : ∀ h', h'.get? (s.heap.objs.size + 1) = some { cls := .type "filter", data := .fields #[f, .ref s.heap.objs.size] } → h'.IsListIter s.heap.objs.size l 0 →
      (∀ c o, s.heap.get? c = some o → h'.get? c = some o) → h'.objs.size = s.heap.objs.size + 2 → Q (.ref (s.heap.objs.size + 1)) { s with heap := h' }) :
    wpAny (model prog w) A (call (.type "filter") [f, .ref l]) Q E s := by
  refine callType_new G.called_filter (by decide) (G.typeCall_filter_2 _ _) (G.newCall_filter_2 _ _) (fun obj => PySem.F.args_object_init_3 obj _ _) G.entry_filter_new (meets_filter_new f l xs) ⟨hl, ?_⟩
  have z1 : (s.heap.push { cls := .type "list_iterator", data := .fields #[.ref l, .int 0 0] }).objs.size = s.heap.objs.size + 1 := Heap.size_push ..
  have g1 : ((s.heap.push { cls := .type "list_iterator", data := .fields #[.ref l, .int 0 0] }).push { cls := .type "filter", data := .fields #[f, .ref s.heap.objs.size] }).get? (s.heap.push { cls := .type "list_iterator", data := .fields #[.ref l, .int 0 0] }).objs.size = some _ := Heap.get?_push_size _ rfl
  have g0 : ((s.heap.push { cls := .type "list_iterator", data := .fields #[.ref l, .int 0 0] }).push { cls := .type "filter", data := .fields #[f, .ref s.heap.objs.size] }).get? s.heap.objs.size = some _ := Heap.get?_push_of_some _ (Heap.get?_push_size _ rfl)
  show _ ∧ _
  rw [z1] at g1 ⊢
  exact ⟨⟨_, g1, rfl⟩, h _ g1 ⟨_, g0, rfl, rfl⟩ (fun c o e => Heap.get?_push_of_some _ (Heap.get?_push_of_some _ e)) (by rw [Heap.size_push, z1])⟩

theorem special_next_item {it l : Addr} {i : Nat} {items : Array Value} {x : Value} {Q : Option Value → Shared → Prop} (hit : s.heap.IsListIter it l i) (hl : s.heap.IsList l items) (hx : items[i]? = some x)
    (hQ : ∀ h', h'.IsListIter it l (i + 1) → Heap.SameBut it s.heap h' → Q (some x) { s with heap := h' }) : wpAny (model prog w) A (callSpecial? (.ref it) "__next__") Q E s := by
  obtain ⟨o, ho, hc, hd⟩ := id hit
  obtain ⟨ol, hol, _, nl, hdl⟩ := hl
  refine wpAny_callSpecial?_slot (name := Str.ofString "__next__") hit.typeIs slot_listiter_next (wpAny_call_entry slot_listiter_next hit.typeIs entry_listiter_next ?_ (args_listiter_next _))
  show wpAny _ _ (field (.ref it) 0 >>= _) _ _ s
  refine wpAny_bind (wpAny_field ho hd (x := .ref l) rfl ?_)
  show wpAny _ _ (if (Value.ref l == Value.none) = true then _ else _) _ _ s
  rw [if_neg (show ¬ ((Value.ref l == Value.none) = true) from Bool.false_ne_true)]
  show wpAny _ _ (field (.ref it) 1 >>= _) _ _ s
  refine wpAny_bind (wpAny_field ho hd (x := .int i 0) rfl ?_)
  show wpAny _ _ (seqItems? (.ref l) >>= _) _ _ s
  refine wpAny_bind (wpAny_seqItems hol hdl ?_)
  simp only [Int.toNat_natCast, hx]
  refine wpAny_bind (wpAny_setField ho hd (by simp) (wpAny_pure ⟨x, rfl, hQ _ ?_ (Heap.SameBut.update ..)⟩))
  exact ⟨_, Heap.get?_update_self _ ho (Obj.isFreed_of_fields (Obj.data_mapFields hd _)), (Obj.cls_mapFields ..).trans hc, by rw [Obj.data_mapFields hd]; simp [rawInt]⟩

theorem special_next_end {it l : Addr} {i : Nat} {items : Array Value} {Q : Option Value → Shared → Prop} (hh : A.handled = none) (hit : s.heap.IsListIter it l i) (hl : s.heap.IsList l items) (hx : items[i]? = none)
    (hE : ∀ h' e, Heap.ExtBut it s.heap h' → (∃ o, h'.get? e = some o ∧ o.cls = .type "StopIteration") → E (.ref e) { s with heap := h' }) : wpAny (model prog w) A (callSpecial? (.ref it) "__next__") Q E s := by
  obtain ⟨o, ho, hc, hd⟩ := id hit
  obtain ⟨ol, hol, _, nl, hdl⟩ := hl
  refine wpAny_callSpecial?_slot (name := Str.ofString "__next__") hit.typeIs slot_listiter_next (wpAny_call_entry slot_listiter_next hit.typeIs entry_listiter_next ?_ (args_listiter_next _))
  show wpAny _ _ (field (.ref it) 0 >>= _) _ _ s
  refine wpAny_bind (wpAny_field ho hd (x := .ref l) rfl ?_)
  show wpAny _ _ (if (Value.ref l == Value.none) = true then _ else _) _ _ s
  rw [if_neg (show ¬ ((Value.ref l == Value.none) = true) from Bool.false_ne_true)]
  show wpAny _ _ (field (.ref it) 1 >>= _) _ _ s
  refine wpAny_bind (wpAny_field ho hd (x := .int i 0) rfl ?_)
  show wpAny _ _ (seqItems? (.ref l) >>= _) _ _ s
  refine wpAny_bind (wpAny_seqItems hol hdl ?_)
  simp only [Int.toNat_natCast, hx]
  refine wpAny_bind (wpAny_rule (wpAny_bind (wpAny_setField ho hd (by simp) ?_)))
  show wpAny _ _ (newExc (.type "StopIteration") [] >>= _) _ _ _
  refine wpAny_bind ?_
  simp only [newExc, newTuple]
  refine wpAny_bind (wpAny_newObj_type ?_ (by size_fits))
  refine wpAny_bind (m := firstArgMember _ _) (wpAny_of_eq (a := Value.none) (by first | rfl | (simp only [firstArgMember]; rfl)) ?_)
  refine wpAny_newObj_type ?_ (by size_fits)
  simp only [raiseNew]
  refine wpAny_bind (wpAny_handled ?_)
  rw [show A.in1.handled = none from hh]
  refine wpAny_bind (wpAny_pure (wpAny_throw ?_))
  exact hE _ _ (((Heap.SameBut.update ..).extBut.push _).push _) ⟨_, Heap.get?_push_size _ rfl, rfl⟩
end

/-- the parts of a filter over a list of strs by a set's __contains__ -/
structure FiltAt (prog : Program) (w : World) (h : Heap) (fl q S it l : Addr) (items : Array Value) (P : Str → Bool) (n i : Nat) : Prop where
  fl : h.get? fl = some { cls := .type "filter", data := .fields #[.ref q, .ref it] }
  q : h.get? q = some (boundC S)
  S : h.SetOf (PySem.strKind prog w) S P n
  it : h.IsListIter it l i
  l : h.IsList l items
structure FiltApart (fl q S it l : Addr) : Prop where
  fl : fl ≠ it
  q : q ≠ it
  S : S ≠ it
  l : l ≠ it
section
variable {prog : Program} {w : World} {A : Around} {E : Value → Shared → Prop}
theorem FiltAt.step {h h' : Heap} {fl q S it l : Addr} {items : Array Value} {P : Str → Bool} {n i j : Nat} (x : FiltAt prog w h fl q S it l items P n i) (a : FiltApart fl q S it l) (hit : h'.IsListIter it l j) (hk : ∀ b o, b ≠ it → h.get? b = some o → h'.get? b = some o) :
    FiltAt prog w h' fl q S it l items P n j := by
  obtain ⟨h1, h2, ⟨o, es, ep, t, ho, rest⟩, _, ⟨ol, hl, r⟩⟩ := x
  exact ⟨hk _ _ a.fl h1, hk _ _ a.q h2, ⟨o, es, ep, t, hk _ _ a.S ho, rest⟩, hit, ⟨ol, hk _ _ a.l hl, r⟩⟩
theorem FiltAt.keep {h h' : Heap} {fl q S it l : Addr} {items : Array Value} {P : Str → Bool} {n i : Nat} (x : FiltAt prog w h fl q S it l items P n i) (hk : ∀ b o, b = fl ∨ b = q ∨ b = S ∨ b = it ∨ b = l → h.get? b = some o → h'.get? b = some o) :
    FiltAt prog w h' fl q S it l items P n i := by
  obtain ⟨h1, h2, ⟨o, es, ep, t, ho, rest⟩, ⟨oi, hi, ri⟩, ⟨ol, hl, r⟩⟩ := x
  exact ⟨hk _ _ (.inl rfl) h1, hk _ _ (.inr (.inl rfl)) h2, ⟨o, es, ep, t, hk _ _ (.inr (.inr (.inl rfl))) ho, rest⟩, ⟨oi, hk _ _ (.inr (.inr (.inr (.inl rfl)))) hi, ri⟩, ⟨ol, hk _ _ (.inr (.inr (.inr (.inr rfl)))) hl, r⟩⟩

theorem filter_tree {fl q S it l : Addr} {items : Array Value} {ss : List Str} {P : Str → Bool} {n : Nat} {R : Result → Shared → Prop} (hh : A.handled = none) (a : FiltApart fl q S it l) (hi : StrsAre items.toList ss) :
    ∀ (k i : Nat) (s : Shared), ss.length - i = k → i ≤ ss.length → FiltAt prog w s.heap fl q S it l items P n i →
      (∀ j x t h' tk, i ≤ j → ss[j]? = some x → P x = true → (ss.drop i).filter P = x :: (ss.drop (j + 1)).filter P → FiltAt prog w h' fl q S it l items P n (j + 1) → (∀ b o, b ≠ it → s.heap.get? b = some o → h'.get? b = some o) →
        R (.ok (.ret (.str x t))) { s with heap := h', toks := tk }) →
      ((ss.drop i).filter P = [] → ∀ h' tk e, (∀ b o, b ≠ it → s.heap.get? b = some o → h'.get? b = some o) → (∃ o, h'.get? e = some o ∧ o.cls = .type "StopIteration") → R (.error (.ref e)) { s with heap := h', toks := tk }) →
      wpAny (model prog w) A.in1 (Builtin.«filter.__next__» ⟨[.ref fl], []⟩)
        (fun fin s' => match fin with | .done f => R (.ok f) s' | .again c' => c'.quiet = true ∧ codeAny (model prog w) A c' R s') (fun e s' => R (.error e) s') s := by
  have hsz : items.size = ss.length := by rw [← Array.length_toList]; exact strs_len hi
  intro k
  induction k with
  | zero =>
    intro i s hk hle x hitem hend
    have hin : i = ss.length := by omega
    show wpAny _ A.in1 (field (.ref fl) 0 >>= _) _ _ s
    refine wpAny_bind (wpAny_field x.fl rfl (x := .ref q) rfl ?_)
    show wpAny _ A.in1 (field (.ref fl) 1 >>= _) _ _ s
    refine wpAny_bind (wpAny_field x.fl rfl (x := .ref it) rfl ?_)
    refine wpAny_bind (special_next_end (A := A.in1) hh x.it x.l (by rw [hin, ← hsz]; simp) fun h' e hx he => ?_)
    exact hend (by rw [hin]; simp) h' s.toks e hx he
  | succ k ih =>
    intro i s hk hle x hitem hend
    have hlt : i < ss.length := by omega
    show wpAny _ A.in1 (field (.ref fl) 0 >>= _) _ _ s
    refine wpAny_bind (wpAny_field x.fl rfl (x := .ref q) rfl ?_)
    show wpAny _ A.in1 (field (.ref fl) 1 >>= _) _ _ s
    refine wpAny_bind (wpAny_field x.fl rfl (x := .ref it) rfl ?_)
    obtain ⟨t, hx⟩ := strs_at hi i ss[i] (by simp [hlt])
    refine wpAny_bind (special_next_item (A := A.in1) x.it x.l (x := .str ss[i] t) (by rw [← Array.getElem?_toList]; exact hx) fun h₁ hit₁ hs₁ => ?_)
    have x₁ := x.step a hit₁ hs₁.extBut
    refine wpAny_bind (wpAny_holding ?_)
    rw [if_neg (show ¬ ((Value.ref q == Value.none || Value.ref q == Value.type "bool") = true) from Bool.false_ne_true)]
    refine wpAny_bind (bound_call (s := { s with heap := h₁ }) x₁.q x₁.S ?_)
    refine wpAny_holding (wpAny_truthy_bool ?_)
    have hd : ss.drop i = ss[i] :: ss.drop (i + 1) := List.drop_eq_getElem_cons hlt
    cases hP : P ss[i] with
    | true =>
      refine wpAny_pure ?_
      exact hitem i ss[i] t h₁ (s.toks + 1) (Nat.le_refl _) (by simp [hlt]) hP (by rw [hd, List.filter_cons_of_pos hP]) x₁ hs₁.extBut
    | false =>
      refine wpAny_pure ⟨plainId_quiet G.plain_filter_next _, codeAny_builtin G.entry_filter_next ?_⟩
      rw [Around.under_plainId G.plain_filter_next _]
      refine ih (i + 1) { s with heap := h₁, toks := s.toks + 1 } (by omega) hlt x₁ (fun j y u h' tk hij hy hPy hf x' hk' => ?_) fun hf h' tk e hk' he => ?_
      · exact hitem j y u h' tk (by omega) hy hPy (by rw [hd, List.filter_cons_of_neg (by rw [hP]; decide)]; exact hf) x' fun b o hb e => hk' b o hb (hs₁.extBut b o hb e)
      · exact hend (by rw [hd, List.filter_cons_of_neg (by rw [hP]; decide)]; exact hf) h' tk e (fun b o hb e => hk' b o hb (hs₁.extBut b o hb e)) he

theorem filter_call {fl q S it l : Addr} {items : Array Value} {ss : List Str} {P : Str → Bool} {n : Nat} {R : Result → Shared → Prop} (hh : A.handled = none) (a : FiltApart fl q S it l) (hi : StrsAre items.toList ss) :
    ∀ (i : Nat) (s : Shared), i ≤ ss.length → FiltAt prog w s.heap fl q S it l items P n i →
      (∀ j x t h' tk, i ≤ j → ss[j]? = some x → P x = true → (ss.drop i).filter P = x :: (ss.drop (j + 1)).filter P → FiltAt prog w h' fl q S it l items P n (j + 1) → (∀ b o, b ≠ it → s.heap.get? b = some o → h'.get? b = some o) →
        R (.ok (.ret (.str x t))) { s with heap := h', toks := tk }) →
      ((ss.drop i).filter P = [] → ∀ h' tk e, (∀ b o, b ≠ it → s.heap.get? b = some o → h'.get? b = some o) → (∃ o, h'.get? e = some o ∧ o.cls = .type "StopIteration") → R (.error (.ref e)) { s with heap := h', toks := tk }) →
      codeAny (model prog w) A (.call (.builtin "filter.__next__") ⟨[.ref fl], []⟩) R s := by
  intro i s hle x hitem hend
  have hT : s.TypeIs (.ref fl) "filter" := ⟨_, x.fl, rfl⟩
  exact codeAny_call_builtin G.slot_filter_next.plain G.entry_filter_next (G.slot_filter_next.check _ _ _ _ _ _ _ _ hT (G.args_filter_next_1 _) (filter_tree hh a hi _ i s rfl hle x hitem hend))

theorem filter_next {fl q S it l : Addr} {items : Array Value} {ss : List Str} {P : Str → Bool} {n i : Nat} {s : Shared} {Q : Option Value → Shared → Prop} (hh : A.handled = none) (a : FiltApart fl q S it l) (hi : StrsAre items.toList ss) (hle : i ≤ ss.length)
    (x : FiltAt prog w s.heap fl q S it l items P n i)
    (hitem : ∀ j y t h' tk, i ≤ j → j < ss.length → (ss.drop i).filter P = y :: (ss.drop (j + 1)).filter P → FiltAt prog w h' fl q S it l items P n (j + 1) → (∀ b o, b ≠ it → s.heap.get? b = some o → h'.get? b = some o) → Q (some (.str y t)) { s with heap := h', toks := tk })
    (hend : (ss.drop i).filter P = [] → ∀ h' tk, (∀ b o, b ≠ it → s.heap.get? b = some o → h'.get? b = some o) → Q none { s with heap := h', toks := tk }) :
    wpAny (model prog w) A (pyNext (.ref fl)) Q E s := by
  have hT : s.TypeIs (.ref fl) "filter" := ⟨_, x.fl, rfl⟩
  unfold pyNext
  refine wpAny_bind (wpAny_attempt (wpAny_callSpecial?_slot (name := Str.ofString "__next__") hT G.slot_filter_next ?_))
  refine wpAny_call (filter_call hh a hi i s hle x (fun j y t h' tk hij hy hPy hf x' hk => ?_) fun hf h' tk e hk he => ?_)
  · exact wpAny_pure (hitem j y t h' tk hij (by rcases Nat.lt_or_ge j ss.length with g | g; exact g; rw [List.getElem?_eq_none g] at hy; cases hy) hf x' hk)
  · obtain ⟨o, ho, hc⟩ := he
    refine wpAny_bind (wpAny_isInstance (T := "StopIteration") (b := true) ⟨o, ho, hc⟩ isSubtype_stop ?_)
    exact wpAny_pure (hend hf h' tk hk)
end

theorem strs_of_items {P : Nat → Value → Prop} {ys : List Str} (hP : ∀ i v, P i v → ∃ t, ∃ y, ys[i]? = some y ∧ v = .str y t) {acc : Array Value} (h : ItemsOf P acc ys.length) : StrsAre acc.toList ys := by
  obtain ⟨hn, hi⟩ := h
  have key : ∀ (vs : List Value) (zs : List Str), vs.length = zs.length → (∀ (j : Nat) (v : Value), vs[j]? = some v → ∃ t, ∃ y, zs[j]? = some y ∧ v = Value.str y t) → StrsAre vs zs := by
    intro vs
    induction vs with
    | nil => intro zs hl _; cases zs with
      | nil => exact .nil
      | cons => cases hl
    | cons v vs ih => intro zs hl hj; cases zs with
      | nil => cases hl
      | cons z zs =>
        obtain ⟨t, y, hy, rfl⟩ := hj 0 v rfl
        cases hy
        exact .cons _ _ (ih zs (by simpa using hl) fun j u hu => by simpa using hj (j + 1) u (by simpa using hu))
  refine key _ _ (by simpa using hn) fun j v hv => ?_
  exact hP j v (hi j v (by simpa using hv))

theorem filter_walks {prog : Program} {w : World} {A : Around} {fl q S it l : Addr} {items : Array Value} {ss : List Str} {P : Str → Bool} {n : Nat} (hh : A.handled = none) (a : FiltApart fl q S it l) (hi : StrsAre items.toList ss) :
    WalksS prog w A fl [fl, q, S, it, l] [it] (fun a b => b = a) (ss.filter P).length (fun i v => ∃ t, ∃ y, (ss.filter P)[i]? = some y ∧ v = .str y t)
      (fun i s => ∃ j, j ≤ ss.length ∧ (ss.drop j).filter P = (ss.filter P).drop i ∧ FiltAt prog w s.heap fl q S it l items P n j) where
  sub := by intro b hb; simp at hb; subst hb; simp
  grefl _ := rfl
  gtrans _ _ _ h1 h2 := h2.trans h1
  frame := by
    rintro i s h' tk ⟨j, hj, he, x⟩ _ hk
    refine ⟨j, hj, he, x.keep fun b o hb e => hk b ?_ o e⟩
    rcases hb with rfl | rfl | rfl | rfl | rfl <;> simp
  item := by
    rintro i s Q E hlt ⟨j, hj, he, x⟩ hQ
    refine wpAny_with_toks (Nat.le_refl s.toks) (filter_next hh a hi hj x (fun j' y t h' tk hjj hy hf x' hk => fun htk => ?_) fun hf => ?_)
    · have hd : (ss.filter P).drop i = y :: (ss.drop (j' + 1)).filter P := he ▸ hf
      refine hQ _ _ ⟨t, y, ?_, rfl⟩ ⟨j' + 1, hy, ?_, x'⟩ ⟨fun b o hb e => hk b o (fun h => hb (by simp [h])) e, rfl, rfl, rfl, htk⟩
      · have := congrArg (·[0]?) hd
        simpa using this
      · have := congrArg (List.drop 1) hd
        simpa [Nat.add_comm] using this.symm
    · exfalso
      rw [he] at hf
      have := List.drop_eq_nil_iff.mp hf
      omega
  done := by
    rintro s Q E ⟨j, hj, he, x⟩ hQ
    have hnil : (ss.drop j).filter P = [] := by rw [he]; simp
    refine wpAny_with_toks (Nat.le_refl s.toks) (filter_next hh a hi hj x (fun j' y t h' tk hjj hy hf => ?_) fun _ h' tk hk => fun htk => ?_)
    · rw [hnil] at hf; cases hf
    · exact hQ _ ⟨fun b o hb e => hk b o (fun h => hb (by simp [h])) e, rfl, rfl, rfl, htk⟩
  self := by
    rintro i s Q E ⟨j, hj, he, x⟩ hQ
    have hT : s.TypeIs (.ref fl) "filter" := ⟨_, x.fl, rfl⟩
    refine wpAny_pyIter_slot hT G.slot_filter_iter (wpAny_call_entry G.slot_filter_iter hT G.entry_filter_iter ?_ (G.args_filter_iter_1 _))
    show wpAny _ _ (ret (.ref fl)) _ _ s
    exact wpAny_pure ⟨_, rfl, "filter", _, hT, G.slot_filter_next.lookup, hQ⟩

section
variable {prog : Program} {w : World} {A : Around} {E : Value → Shared → Prop} {s : Shared}
theorem call_list_filter {fl q S it l : Addr} {items : Array Value} {ss : List Str} {P : Str → Bool} {n : Nat} {Q : Value → Shared → Prop} (hh : A.handled = none) (a : FiltApart fl q S it l) (hi : StrsAre items.toList ss)
    (x : FiltAt prog w s.heap fl q S it l items P n 0) (hn : ss.length ≤ 100000)
    (h : ∀ h' tk (items' : Array Value × Nat), h'.get? s.heap.objs.size = some { cls := .type "list", dict := none, data := .seq items'.1 items'.2, slots := #[] } → StrsAre items'.1.toList (ss.filter P) →
      (∀ c o, c ≠ it → s.heap.get? c = some o → h'.get? c = some o) → Q (.ref s.heap.objs.size) { s with heap := h', toks := tk }) :
    wpAny (model prog w) A (call (.type "list") [.ref fl]) Q E s := by
  have hmn : (ss.filter P).length ≤ sizeLine := Nat.le_trans (List.length_filter_le P ss) (by show _ ≤ _; exact Nat.le_trans hn (by decide))
  have lt : ∀ b ∈ [fl, q, S, it, l], b < s.heap.objs.size := by
    intro b hb
    obtain ⟨h1, h2, ⟨o, es, ep, t, ho, rest⟩, ⟨oi, hoi, _⟩, ⟨ol, hol, _⟩⟩ := id x
    simp only [List.mem_cons, List.mem_nil_iff, or_false] at hb
    rcases hb with rfl | rfl | rfl | rfl | rfl
    · exact Heap.lt_size h1
    · exact Heap.lt_size h2
    · exact Heap.lt_size ho
    · exact Heap.lt_size hoi
    · exact Heap.lt_size hol
  generalize hSz : s.heap.objs.size = S' at *
  have hnS : S' ∉ [fl, q, S, it, l] := fun hm => Nat.lt_irrefl _ (lt _ hm)
  have W := filter_walks (prog := prog) (w := w) (A := A.in1.in1) (n := n) (P := P) hh a hi
  refine callType_codes (Q₁ := fun obj s₁ => obj = .ref S' ∧ s₁ = { s with heap := s.heap.push { cls := .type "list", data := .seq #[] } }) F.called_list (F.typeCall_list_1 _) F.entry_list_init
    (code_list_new _ ⟨by rw [hSz], rfl⟩) fun obj s₁ h₁ => ?_
  obtain ⟨rfl, rfl⟩ := h₁
  have hS : (s.heap.push { cls := .type "list", data := .seq #[] }).get? S' = some { cls := .type "list", data := .seq #[] } := by rw [← hSz]; exact Heap.get?_push_size _ rfl
  refine ⟨⟨_, hS, rfl⟩, F.args_list_init_2 _ _, ?_⟩
  have x₁ : FiltAt prog w (s.heap.push { cls := .type "list", data := .seq #[] }) fl q S it l items P n 0 := x.keep fun b o _ e => Heap.get?_push_of_some _ e
  show wpAny _ A.in1.in1 (Builtin.List.listItems (.ref S') >>= fun old => Builtin.List.listUpdate (.ref S') (fun _ => #[]) >>= fun _ => letGo old.toList.reverse >>= fun _ => Builtin.List.listExtendWith (.ref S') (.ref fl) .none) _ _ _
  refine wpAny_bind ?_
  unfold Builtin.List.listItems
  refine wpAny_bind (wpAny_seqItems hS rfl (wpAny_pure ?_))
  show wpAny _ A.in1.in1 (updateSeq S' (fun _ => #[]) >>= fun _ => letGo (#[] : Array Value).toList.reverse >>= fun _ => Builtin.List.listExtendWith (.ref S') (.ref fl) .none) _ _ _
  refine wpAny_bind (wpAny_updateSeq hS rfl ?_)
  have hS₂ := Heap.get?_update_self (Obj.mapSeq (fun _ => (#[] : Array Value))) hS rfl
  refine wpAny_bind (wpAny_letGo ?_)
  have k₂ : ∀ b o, b ≠ S' → s.heap.get? b = some o → ((s.heap.push { cls := .type "list", data := .seq #[] }).update S' (Obj.mapSeq (fun _ => (#[] : Array Value)))).get? b = some o :=
    fun b o hb e => (Heap.get?_update_other _ _ (Ne.symm hb)).trans (Heap.get?_push_of_some _ e)
  generalize ((s.heap.push { cls := .type "list", data := .seq #[] }).update S' (Obj.mapSeq (fun _ => (#[] : Array Value)))) = h₂ at *
  have ne : ∀ b, b = fl ∨ b = q ∨ b = S ∨ b = it ∨ b = l → b ≠ S' := fun b hb e => hnS (by subst e; simpa using hb)
  have x₂ : FiltAt prog w h₂ fl q S it l items P n 0 := x.keep fun b o hb e => k₂ b o (ne b hb) e
  have hT : Shared.TypeIs { s with heap := h₂ } (.ref fl) "filter" := ⟨_, x₂.fl, rfl⟩
  unfold Builtin.List.listExtendWith
  refine wpAny_bind (wpAny_typeOf hT ?_)
  have h1 : Builtin.List.listSameRef (.ref S') (.ref fl) = false := by simp [Builtin.List.listSameRef, Ne.symm (ne fl (.inl rfl))]
  have h2 : (Value.type "filter" == Value.type "list") = false := by decide
  have h3 : (Value.type "filter" == Value.type "tuple") = false := by decide
  simp only [h1, h2, h3, Bool.or_false, Bool.false_eq_true, if_false]
  have st₂ : ∃ j, j ≤ ss.length ∧ (ss.drop j).filter P = (ss.filter P).drop 0 ∧ FiltAt prog w h₂ fl q S it l items P n j := ⟨0, Nat.zero_le _, by simp, x₂⟩
  refine wpAny_bind (W.self 0 { s with heap := h₂ } _ _ st₂ ?_)
  refine wpAny_bind (wpAny_holding ?_)
  unfold Builtin.List.listLengthHint
  refine wpAny_bind (wpAny_specialOf hT G.no_len ?_)
  show wpAny _ A.in1.in1 (specialOf (Value.ref fl) (Str.ofString "__length_hint__") >>= _) _ _ _
  refine wpAny_bind (wpAny_specialOf hT G.no_hint ?_)
  refine wpAny_pure ?_
  show wpAny _ A.in1.in1 (rule "list.extend.makes-room" >>= fun _ => Builtin.List.listTouch (.ref S') >>= fun _ =>
    again (.builtin "list.extend.loop" ⟨[.ref S', .ref fl, .none], []⟩)) _ _ _
  refine wpAny_bind (wpAny_rule (wpAny_bind ?_))
  show wpAny _ A.in1.in1 (updateSeq S' (·.push .none) >>= fun _ => updateSeq S' (·.pop)) _ _ _
  refine wpAny_bind (wpAny_updateSeq hS₂ rfl ?_)
  have hS₃ := Heap.get?_update_self (Obj.mapSeq (·.push Value.none)) hS₂ rfl
  refine wpAny_updateSeq (hz := by seq_fits) hS₃ rfl ?_
  have hS₄ := Heap.get?_update_self (Obj.mapSeq (·.pop)) hS₃ rfl
  have k₃ : ∀ b o, b ≠ S' → h₂.get? b = some o → ((h₂.update S' (Obj.mapSeq (·.push Value.none))).update S' (Obj.mapSeq (·.pop))).get? b = some o :=
    fun b o hb e => (Heap.get?_update_other _ _ (Ne.symm hb)).trans ((Heap.get?_update_other _ _ (Ne.symm hb)).trans e)
  generalize ((h₂.update S' (Obj.mapSeq (·.push Value.none))).update S' (Obj.mapSeq (·.pop))) = h₃ at *
  have x₃ : FiltAt prog w h₃ fl q S it l items P n 0 := x₂.keep fun b o hb e => k₃ b o (ne b hb) e
  refine wpAny_pure ⟨plainId_quiet F.plain_extend_loop _, codeAny_extend_loopS W hmn _ hnS _ _ 0 _ _ _ rfl (Nat.zero_le _)
    ⟨0, Nat.zero_le _, by simp, x₃⟩ hS₄ (ItemsOf.nil _) fun s' acc' c' hm hS' hacc => ?_⟩
  refine ⟨rfl, ?_⟩
  obtain ⟨hp, g, d, tk, os⟩ := s'
  obtain ⟨hm1, rfl, rfl, rfl, _⟩ := hm
  refine h hp tk (acc', c') hS' (strs_of_items (P := fun i v => ∃ t, ∃ y, (ss.filter P)[i]? = some y ∧ v = .str y t) (fun _ _ h => h) hacc) fun c o hc e => ?_
  have hcS : c ≠ S' := fun e' => by subst e'; rw [← hSz] at e; exact Nat.lt_irrefl _ (Heap.lt_size e)
  exact hm1 c o (by simp [hc, hcS]) (k₃ c o hcS (k₂ c o hcS e))
end

theorem inst_base {h₀ h : Heap} {L x C d : Addr} {m : Str → Option Value} {o : Obj} (F : Fr h₀ L h m) (hx : h₀.get? x = some (instObj C d)) (hd : h₀.get? d = some o) : InstAt h x (instObj C d) C (some o) :=
  ⟨F.keep _ _ hx, rfl, rfl, F.keep _ _ hd⟩
local macro_rules | `(tactic| k_inst) => `(tactic| (refine' inst_base ?F ?h1 ?h2; (case F => k_asm); (case h1 => assumption); (case h2 => assumption)))

theorem news_keeps {h₀ h h' : Heap} {L : Addr} {news : List (Addr × Obj)} (N : News h₀ L h news) (hk : ∀ b o, h.get? b = some o → h'.get? b = some o) : News h₀ L h' news := fun p hp => ⟨hk _ _ (N p hp).1, (N p hp).2⟩
theorem news_put {h₀ h h' : Heap} {L a : Addr} {m : Str → Option Value} {o : Obj} {news : List (Addr × Obj)} (F : Fr h₀ L h m) (N : News h₀ L h' news) (ha : h.objs.size ≤ a) (g : h'.get? a = some o) : News h₀ L h' ((a, o) :: news) := by
  intro p hp
  rcases List.mem_cons.mp hp with rfl | hp
  · refine ⟨g, fun e => ?_, ?_⟩
    · obtain ⟨oL, _, _, hL, _⟩ := F.ns
      have := Heap.lt_size hL
      have e' : a = L := e
      rw [e'] at ha
      exact Nat.lt_irrefl _ (Nat.lt_of_lt_of_le this ha)
    · cases q : h₀.get? a with
      | none => rfl
      | some o => exact (Nat.lt_irrefl _ (Nat.lt_of_lt_of_le (Heap.lt_size (F.keep _ _ q)) ha)).elim
  · exact N p hp
theorem news_lt {h₀ h : Heap} {L : Addr} {news : List (Addr × Obj)} {a : Addr} (N : News h₀ L h news) (ha : h.objs.size ≤ a) : ∀ p ∈ news, p.1 < a := fun p hp => Nat.lt_of_lt_of_le (Heap.lt_size (N p hp).1) ha

section
variable {prog : Program} {w : World} {A : Around} {E : Value → Shared → Prop} {s : Shared} {h₀ : Heap} {L : Addr} {m : Str → Option Value} {news : List (Addr × Obj)}
theorem f_set {l : Addr} {n : Nat} {vs : List Value} {ss : List Str} {Q : Value → Shared → Prop} (hh : A.handled = none) (F : Fr h₀ L s.heap m) (N : News h₀ L s.heap news) (hl : s.heap.get? l = some (PySem.W.listOf vs.toArray n)) (hi : StrsAre vs ss) (hb : ss.length ≤ 1000)
    (h : ∀ S h' tk n, Fr h₀ L h' m → News h₀ L h' news → h'.SetOf (PySem.strKind prog w) S (fun x => decide (x ∈ ss)) n → Q (.ref S) { s with heap := h', toks := tk }) :
    wpAny (model prog w) A (call (.type "set") [.ref l]) Q E s :=
  call_set_strs hh ⟨_, hl, rfl, _, rfl⟩ (by simpa using hi) (by unfold scanBound; omega) fun h' tk n hS hk =>
    have k : ∀ b o, s.heap.get? b = some o → h'.get? b = some o := fun b o e => hk b o (Heap.lt_size e) e
    h _ _ _ _ (F.keeps k) (news_keeps N k) hS
theorem f_attr {S : Addr} {P : Str → Bool} {n : Nat} {ex : Bool} {Q : Value → Shared → Prop} (F : Fr h₀ L s.heap m) (N : News h₀ L s.heap news) (hS : s.heap.SetOf (PySem.strKind prog w) S P n)
    (h : ∀ q h' tk, Fr h₀ L h' m → News h₀ L h' news → h'.SetOf (PySem.strKind prog w) S P n → h'.get? q = some (boundC S) → Q (.ref q) { s with heap := h', toks := tk }) :
    wpAny (model prog w) A (getAttr (.ref S) "__contains__" ex) Q E s := by
  obtain ⟨oS, es, ep, tb, hgS, ⟨c1, c2, c3⟩, hdS, restS⟩ := id hS
  obtain ⟨kS, dS, daS, slS⟩ := oS
  dsimp only at c1 c2 c3 hdS
  subst c1; subst c2; subst c3; subst hdS
  obtain ⟨hp, g, d, t, os⟩ := s
  have k : ∀ b o, hp.get? b = some o → (hp.push (boundC S)).get? b = some o := fun b o e => Heap.get?_push_of_some _ e
  exact contains_attr hgS (h _ _ _ (F.keeps k) (news_keeps N k) ⟨_, es, ep, tb, k _ _ hgS, ⟨rfl, rfl, rfl⟩, rfl, restS⟩ (Heap.get?_push_size _ rfl))
theorem f_filter {S q l : Addr} {P : Str → Bool} {n nl : Nat} {vs : List Value} {Q : Value → Shared → Prop} (F : Fr h₀ L s.heap m) (N : News h₀ L s.heap news) (hS : s.heap.SetOf (PySem.strKind prog w) S P n) (hq : s.heap.get? q = some (boundC S))
    (hl : s.heap.get? l = some (PySem.W.listOf vs.toArray nl))
    (h : ∀ fl it h', Fr h₀ L h' m → News h₀ L h' news → FiltAt prog w h' fl q S it l vs.toArray P n 0 → FiltApart fl q S it l → L ≠ it → h₀.get? it = none → (∀ p ∈ news, p.1 ≠ it) → Q (.ref fl) { s with heap := h' }) :
    wpAny (model prog w) A (call (.type "filter") [.ref q, .ref l]) Q E s := by
  refine call_filter ⟨_, hl, rfl, _, rfl⟩ fun h' hf hit k _ => ?_
  obtain ⟨o, es, ep, t, ho, rest⟩ := id hS
  have ne : ∀ b o, s.heap.get? b = some o → b ≠ s.heap.objs.size := fun b o e => Nat.ne_of_lt (Heap.lt_size e)
  refine h _ _ _ (F.keeps k) (news_keeps N k) ⟨hf, k _ _ hq, ⟨o, es, ep, t, k _ _ ho, rest⟩, hit, ⟨_, k _ _ hl, rfl, _, rfl⟩⟩ ⟨Nat.succ_ne_self _, ne _ _ hq, ne _ _ ho, ne _ _ hl⟩ ?_ ?_ fun p hp => ne _ _ (N p hp).1
  · obtain ⟨oL, _, _, hL, _⟩ := F.ns
    exact ne _ _ hL
  · cases e : h₀.get? s.heap.objs.size with
    | none => rfl
    | some o => exact (ne _ _ (F.keep _ _ e) rfl).elim
theorem f_list {fl S q it l : Addr} {P : Str → Bool} {n : Nat} {vs : List Value} {ss : List Str} {Q : Value → Shared → Prop} (hh : A.handled = none) (F : Fr h₀ L s.heap m) (N : News h₀ L s.heap news) (hi : StrsAre vs ss) (hb : ss.length ≤ 1000)
    (x : FiltAt prog w s.heap fl q S it l vs.toArray P n 0) (a : FiltApart fl q S it l) (z1 : L ≠ it) (z2 : h₀.get? it = none) (z3 : ∀ p ∈ news, p.1 ≠ it)
    (h : ∀ u h' tk its c, Fr h₀ L h' m → News h₀ L h' ((u, PySem.W.listOf its c) :: news) → StrsAre its.toList (ss.filter P) → (∀ p ∈ news, p.1 < u) → Q (.ref u) { s with heap := h', toks := tk }) :
    wpAny (model prog w) A (call (.type "list") [.ref fl]) Q E s := by
  refine call_list_filter hh a (by simpa using hi) x (by omega) fun h' tk items g hs k => ?_
  have N' : News h₀ L h' news := fun p hp => ⟨k _ _ (z3 p hp) (N p hp).1, (N p hp).2⟩
  refine h _ _ _ _ items.2 ⟨?_, fun b o e => k _ _ (fun q => by rw [q, z2] at e; cases e) (F.keep _ _ e), F.above⟩ (news_put F N' (Nat.le_refl _) g) hs (news_lt N (Nat.le_refl _))
  obtain ⟨oL, es, ep, hL, r⟩ := F.ns
  exact ⟨oL, es, ep, k _ _ z1 hL, r⟩
theorem f_add {l b : Addr} {vs ws : List Value} {n1 n2 : Nat} {Q : Value → Shared → Prop} (F : Fr h₀ L s.heap m) (N : News h₀ L s.heap news) (hl : s.heap.get? l = some (PySem.W.listOf vs.toArray n1)) (hb : s.heap.get? b = some (PySem.W.listOf ws.toArray n2)) (hsz : vs.length + ws.length ≤ 10000)
    (h : ∀ D h', Fr h₀ L h' m → News h₀ L h' ((D, PySem.W.listOf (vs ++ ws).toArray 0) :: news) → (∀ p ∈ news, p.1 < D) → Q (.ref D) { s with heap := h' }) :
    wpAny (model prog w) A (binaryOp .Add (.ref l) (.ref b)) Q E s :=
  add_lists F N ⟨_, hl, rfl, _, rfl⟩ ⟨_, hb, rfl, _, rfl⟩ (fun h' F' N' => h _ h' F' N' (news_lt N (Nat.le_refl _))) (by simp only [sizeLine_eq]; omega)
end

section
variable {w : World} {mg mb : Str → Option Value} {p : Program} {loose : List Str} {mean : ExcName → Option Value}
  {dp un : Nat} {fr : Option (List Env)} {gd : Option (List Code)} {s : Shared} {Q E : Value → Shared → Prop} {h₀ : Heap} {L : Addr} {m : Str → Option Value} {news : List (Addr × Obj)}

theorem merge_new {x1 d1 u1 r1 x2 d2 u2 r2 : Addr} {a1 a2 a3 a4 b1 b2 b3 b4 : Tok} {nu1 nr1 nu2 nr2 : Nat} {vs1 vs2 rs1 rs2 : List Value} {ss1 ss2 : List Str}
   (F₀ : Fr h₀ L s.heap m) (N₀ : News h₀ L s.heap news) (X₀ : (hd.heap_39 w.params).In h₀) (T₀ : Top p loose mean mg mb h₀) (hdp : dp + 3 < recursionLimit)
   (hx1 : s.heap.get? x1 = some (instObj 52 d1)) (hd1 : s.heap.get? d1 = some (dictOf (entD w.params a1 a2 a3 a4 u1 r1) 4))
   (hx2 : s.heap.get? x2 = some (instObj 52 d2)) (hd2 : s.heap.get? d2 = some (dictOf (entD w.params b1 b2 b3 b4 u2 r2) 4))
   (hu1 : s.heap.get? u1 = some (PySem.W.listOf vs1.toArray nu1)) (hu2 : s.heap.get? u2 = some (PySem.W.listOf vs2.toArray nu2))
   (hr1 : s.heap.get? r1 = some (PySem.W.listOf rs1.toArray nr1)) (hr2 : s.heap.get? r2 = some (PySem.W.listOf rs2.toArray nr2))
   (hs1 : StrsAre vs1 ss1) (hs2 : StrsAre vs2 ss2) (hz1 : ss1.length ≤ 1000) (hz2 : ss2.length ≤ 1000) (hz3 : rs1.length ≤ 1000) (hz4 : rs2.length ≤ 1000)
   (h : ∀ u r x dx t1 t2 t3 t4 c c' vs fz h' tk', Fr h₀ L h' m → News h₀ L h' (fz ++ news) → Apart news fz → (x, instObj 52 dx) ∈ fz → (dx, dictOf (entD w.params t1 t2 t3 t4 u r) 4) ∈ fz →
      (u, PySem.W.listOf (List.toArray vs) c) ∈ fz → StrsAre vs (ss1.filter (fun x => decide (x ∈ ss2))) → (r, PySem.W.listOf (rs1 ++ rs2).toArray c') ∈ fz →
      Q (.ref x) { s with heap := h', toks := tk' }) :
   wpAny (model PySem.Challenge.pw_tv0029_01 w) (aA dp fr gd un) (call (.ref 63) [.ref x1, .ref x2]) Q E s := by
  have X := X₀.keeps F₀.keep
  have T := T₀.keeps F₀.keep
  refine enter X T (by k_is) (by k_is) (by omega) (BindsTo.of_eq rfl) (locs rfl) ?_ rfl rfl rfl (by decide)
  intro h₁ tk F N
  clear X₀ T₀
  k_steps
  rename_i F' N'
  have l1' : ss1.length = vs1.length := (strs_len hs1).symm
  have l2' : ss2.length = vs2.length := (strs_len hs2).symm
  refine f_set rfl F' N' (F'.keep _ _ hu2) hs2 hz2 fun S h₂ tk₂ n F₂ N₂ hS₂ => ?_
  clear F' N'
  refine f_attr F₂ N₂ hS₂ fun q h₃ tk₃ F₃ N₃ hS₃ hq₃ => ?_
  clear F₂ N₂ hS₂
  k_steps
  refine f_filter F₃ N₃ hS₃ hq₃ (F₃.keep _ _ hu1) fun fl it h₄ F₄ N₄ hF hA z1 z2 z3 => ?_
  clear F₃ N₃ hS₃ hq₃
  k_steps
  refine f_list rfl F₄ N₄ hs1 hz1 hF hA z1 z2 z3 fun u' h₅ tk₅ its c F₅ N₅ hs l5 => ?_
  clear F₄ N₄ hF hA z1 z2 z3
  k_lt l5
  k_steps
  rename_i F' N'
  refine f_add F' N' (F'.keep _ _ hr1) (F'.keep _ _ hr2) (by omega) fun r' h₆ F₆ N₆ l6 => ?_
  clear F' N'
  k_lt l6
  k_steps
  dsimp only
  rename_i F' N'
  obtain ⟨F'', N'', A''⟩ := back F₀ N₀ F' N'
  exact h _ _ _ _ _ _ _ _ _ _ its.toList _ _ _ F'' N'' A'' (by k_mem) (by k_mem) (by rw [Array.toArray_toList]; k_mem) hs (by k_mem)
end

/-- an iterator over an ascii str, as its object -/
abbrev sIter (x : Str) (t : Tok) (i : Nat) : Obj := { cls := .type "str_ascii_iterator", data := .fields #[.str x t, .int i 0] }
section
variable {prog : Program} {w : World} {A : Around} {E : Value → Shared → Prop} {s : Shared}
theorem next_str {it : Addr} {x : Str} {t : Tok} {i c : Nat} {Q : Value → Shared → Prop} (ho : s.heap.get? it = some (sIter x t i)) (hx : x.cps[i]? = some c)
    (hQ : ∀ h' u, h'.get? it = some (sIter x t (i + 1)) → Heap.SameBut it s.heap h' → Q (.str ⟨#[c]⟩ u) { s with heap := h', toks := s.toks + 1 }) :
    wpAny (model prog w) A (Builtin.SmallTypes.nextOf (.ref it)) Q E s := by
  have hT : s.TypeIs (.ref it) "str_ascii_iterator" := ⟨_, ho, rfl⟩
  unfold Builtin.SmallTypes.nextOf
  refine wpAny_bind (wpAny_callSpecial?_slot (name := Str.ofString "__next__") hT PySem.F.slot_str_ascii_iterator_next
    (wpAny_call_entry PySem.F.slot_str_ascii_iterator_next hT PySem.F.entry_str_ascii_iterator_next ?_ (PySem.F.args_str_ascii_iterator_next_1 _)))
  show wpAny _ _ (field (.ref it) 0 >>= _) _ _ s
  refine wpAny_bind (wpAny_field ho rfl (x := .str x t) rfl ?_)
  show wpAny _ _ (field (.ref it) 1 >>= _) _ _ s
  refine wpAny_bind (wpAny_field ho rfl (x := .int i 0) rfl ?_)
  simp only [Int.toNat_natCast, hx]
  refine wpAny_bind (wpAny_setField_rec ho (by simp) fun h' g hs => wpAny_bind (wpAny_mkStr (wpAny_pure ⟨_, rfl, wpAny_pure (hQ h' _ g hs)⟩) (by show 1 ≤ sizeLine; decide)))
theorem end_str {it : Addr} {x : Str} {t : Tok} {i : Nat} {Q : Value → Shared → Prop} (hh : A.handled = none) (ho : s.heap.get? it = some (sIter x t i)) (hx : x.cps[i]? = none)
    (hE : ∀ h' e, Heap.ExtBut it s.heap h' → (∃ o, h'.get? e = some o ∧ o.cls = .type "StopIteration") → E (.ref e) { s with heap := h' }) :
    wpAny (model prog w) A (Builtin.SmallTypes.nextOf (.ref it)) Q E s := by
  have hT : s.TypeIs (.ref it) "str_ascii_iterator" := ⟨_, ho, rfl⟩
  unfold Builtin.SmallTypes.nextOf
  refine wpAny_bind (wpAny_callSpecial?_slot (name := Str.ofString "__next__") hT PySem.F.slot_str_ascii_iterator_next
    (wpAny_call_entry PySem.F.slot_str_ascii_iterator_next hT PySem.F.entry_str_ascii_iterator_next ?_ (PySem.F.args_str_ascii_iterator_next_1 _)))
  show wpAny _ _ (field (.ref it) 0 >>= _) _ _ s
  refine wpAny_bind (wpAny_field ho rfl (x := .str x t) rfl ?_)
  show wpAny _ _ (field (.ref it) 1 >>= _) _ _ s
  refine wpAny_bind (wpAny_field ho rfl (x := .int i 0) rfl ?_)
  simp only [Int.toNat_natCast, hx]
  refine wpAny_bind (wpAny_rule (wpAny_bind (wpAny_setField_rec ho (by simp) fun h' _ hs => wpAny_bind (wpAny_letGo ?_))))
  show wpAny _ _ (newExc (.type "StopIteration") [] >>= _) _ _ _
  refine wpAny_bind ?_
  simp only [newExc, newTuple]
  refine wpAny_bind (wpAny_newObj_type ?_ (by size_fits))
  refine wpAny_bind (m := firstArgMember _ _) (wpAny_of_eq (a := Value.none) (by first | rfl | (simp only [firstArgMember]; rfl)) ?_)
  refine wpAny_newObj_type ?_ (by size_fits)
  simp only [raiseNew]
  refine wpAny_bind (wpAny_handled ?_)
  rw [show A.in1.handled = none from hh]
  refine wpAny_bind (wpAny_pure (wpAny_throw ?_))
  exact hE _ _ ((hs.extBut.push _).push _) ⟨_, Heap.get?_push_size _ rfl, rfl⟩

/-- a zip over two strs: z its object, TI its iterators, TO its own tuple -/
structure ZipS (h : Heap) (z TI TO i1 i2 : Addr) (f0 : Value) (x : Str) (t : Tok) (y : Str) (u : Tok) (i j : Nat) : Prop where
  z : h.get? z = some { cls := .type "zip", data := .fields #[f0, .bool false, .bool false, .ref TI, .ref TO] }
  TI : h.get? TI = some { cls := .type "tuple", data := .seq #[.ref i1, .ref i2] }
  TO : ∃ a b, h.get? TO = some { cls := .type "tuple", data := .seq #[a, b] }
  i1 : h.get? i1 = some (sIter x t i)
  i2 : h.get? i2 = some (sIter y u j)
structure ZApart (z TI TO i1 i2 : Addr) : Prop where
  TIz : TI ≠ z
  TOz : TO ≠ z
  i1z : i1 ≠ z
  i2z : i2 ≠ z
  TITO : TI ≠ TO
  TIi1 : TI ≠ i1
  TIi2 : TI ≠ i2
  TOi1 : TO ≠ i1
  TOi2 : TO ≠ i2
  i12 : i1 ≠ i2
abbrev kp (z TO i1 i2 : Addr) (h h' : Heap) : Prop := ∀ c o, c ≠ z → c ≠ TO → c ≠ i1 → c ≠ i2 → h.get? c = some o → h'.get? c = some o

theorem zipS_item {z TI TO i1 i2 : Addr} {x y : Str} {t u : Tok} {i a b : Nat} {Q : Option Value → Shared → Prop} (D : ZApart z TI TO i1 i2) (Z : ZipS s.heap z TI TO i1 i2 .none x t y u i i) (hx : x.cps[i]? = some a) (hy : y.cps[i]? = some b)
    (hQ : ∀ (T : Addr) h' t1 t2 tk, ZipS h' z TI TO i1 i2 (rawInt T) x t y u (i + 1) (i + 1) → h'.get? T = some { cls := .type "tuple", data := .seq #[.str ⟨#[a]⟩ t1, .str ⟨#[b]⟩ t2] } → s.heap.objs.size ≤ T → kp z TO i1 i2 s.heap h' → Q (some (.ref T)) { s with heap := h', toks := tk }) :
    wpAny (model prog w) A (pyNext (.ref z)) Q E s := by
  obtain ⟨hz, hTI, ⟨p, q, hTO⟩, h1, h2⟩ := Z
  have hT : s.TypeIs (.ref z) "zip" := ⟨_, hz, rfl⟩
  unfold pyNext
  refine wpAny_bind (wpAny_attempt (wpAny_callSpecial?_slot (name := Str.ofString "__next__") hT PySem.F.slot_zip_next (wpAny_call_entry PySem.F.slot_zip_next hT PySem.F.entry_zip_next ?_ (PySem.F.args_zip_next_1 _))))
  show wpAny _ _ (field (.ref z) 2 >>= _) _ _ _
  refine wpAny_bind (wpAny_field hz rfl (x := .bool false) rfl ?_)
  show wpAny _ _ (field (.ref z) 3 >>= _) _ _ _
  refine wpAny_bind (wpAny_field hz rfl (x := .ref TI) rfl ?_)
  refine wpAny_bind (wpAny_seqItems hTI rfl ?_)
  show wpAny _ _ (Builtin.SmallTypes.ownedTupleIsFree (.ref z) >>= _) _ _ _
  refine wpAny_bind ?_
  unfold Builtin.SmallTypes.ownedTupleIsFree
  refine wpAny_bind (wpAny_field hz rfl (x := .none) rfl (wpAny_pure ?_))
  simp only [if_true]
  refine wpAny_bind (wpAny_rule ?_)
  refine wpAny_bind (wpAny_field hz rfl (x := .ref TO) rfl ?_)
  refine wpAny_bind (wpAny_setField_rec hz (by simp) fun ha za sa => ?_)
  refine wpAny_bind ?_
  simp only [List.zipIdx_cons, List.zipIdx_nil, List.forIn_cons, List.forIn_nil]
  refine wpAny_bind (wpAny_bind (wpAny_onRaise ?_))
  show wpAny _ _ (Builtin.SmallTypes.nextOf (.ref i1) >>= _) _ _ _
  refine wpAny_bind (next_str (sa.extBut _ _ D.i1z h1) hx fun hb t1 z1 sb => wpAny_pure ?_)
  have Tb := sb.extBut _ _ D.TOi1 (sa.extBut _ _ D.TOz hTO)
  refine wpAny_bind (wpAny_seqItems Tb rfl ?_)
  refine wpAny_bind (wpAny_updateSeq_pair Tb fun hc Tc sc => ?_)
  refine wpAny_bind (wpAny_letGo (wpAny_pure ?_))
  refine wpAny_bind (wpAny_bind (wpAny_onRaise ?_))
  show wpAny _ _ (Builtin.SmallTypes.nextOf (.ref i2) >>= _) _ _ _
  refine wpAny_bind (next_str (sc.extBut _ _ D.TOi2.symm (sb.extBut _ _ D.i12.symm (sa.extBut _ _ D.i2z h2))) hy fun hd t2 z2 sd => wpAny_pure ?_)
  have Td : IsPair hd TO _ _ := sd.extBut _ _ D.TOi2 Tc
  refine wpAny_bind (wpAny_seqItems Td rfl ?_)
  refine wpAny_bind (wpAny_updateSeq_pair Td fun he Te se => ?_)
  refine wpAny_bind (wpAny_letGo (wpAny_pure (wpAny_pure ?_)))
  refine wpAny_bind (wpAny_seqItems Te rfl ?_)
  refine wpAny_bind (wpAny_newTuple ?_ (by simp only [Array.length_toList, Array.size_setIfInBounds]; show 2 ≤ sizeLine; decide))
  have ze := se.extBut _ _ D.TOz.symm (sd.extBut _ _ D.i2z.symm (sc.extBut _ _ D.TOz.symm (sb.extBut _ _ D.i1z.symm za)))
  have sz : he.objs.size = s.heap.objs.size := by rw [se.1, sd.1, sc.1, sb.1, sa.1]
  show wpAny _ _ (Builtin.SmallTypes.ownedTupleHandOut (.ref z) (.ref he.objs.size) >>= _) _ _ _
  refine wpAny_bind ?_
  unfold Builtin.SmallTypes.ownedTupleHandOut
  refine wpAny_bind (wpAny_setField_rec (Heap.get?_push_of_some _ ze) (by simp) fun hf zf sf => ?_)
  refine wpAny_setField_rec zf (by simp) fun hg zg sg => ?_
  have up : ∀ c o, c ≠ z → he.get? c = some o → hg.get? c = some o := fun c o n e => sg.extBut _ _ n (sf.extBut _ _ n (Heap.get?_push_of_some _ e))
  have nz : he.objs.size ≠ z := Nat.ne_of_gt (Heap.lt_size ze)
  have all : kp z TO i1 i2 s.heap hg := fun c o n1 n2 n3 n4 e => up c o n1 (se.extBut _ _ n2 (sd.extBut _ _ n4 (sc.extBut _ _ n2 (sb.extBut _ _ n3 (sa.extBut _ _ n1 e)))))
  refine wpAny_pure ⟨_, rfl, wpAny_pure ?_⟩
  exact hQ he.objs.size hg t1 t2 _ ⟨zg, all _ _ D.TIz D.TITO D.TIi1 D.TIi2 hTI, ⟨_, _, up _ _ D.TOz Te⟩, up _ _ D.i1z (se.extBut _ _ D.TOi1.symm (sd.extBut _ _ D.i12 (sc.extBut _ _ D.TOi1.symm z1))),
    up _ _ D.i2z (se.extBut _ _ D.TOi2.symm z2)⟩ (sg.extBut _ _ nz (sf.extBut _ _ nz (Heap.get?_push_size _ rfl))) (Nat.le_of_eq sz.symm) all

theorem zipS_end {z TI TO i1 i2 : Addr} {x y : Str} {t u : Tok} {i : Nat} {Q : Option Value → Shared → Prop} (hh : A.handled = none) (D : ZApart z TI TO i1 i2) (Z : ZipS s.heap z TI TO i1 i2 .none x t y u i i) (hx : x.cps[i]? = none)
    (hQ : ∀ h', kp z TO i1 i2 s.heap h' → Q none { s with heap := h' }) :
    wpAny (model prog w) A (pyNext (.ref z)) Q E s := by
  obtain ⟨hz, hTI, ⟨p, q, hTO⟩, h1, h2⟩ := Z
  have hT : s.TypeIs (.ref z) "zip" := ⟨_, hz, rfl⟩
  unfold pyNext
  refine wpAny_bind (wpAny_attempt (wpAny_callSpecial?_slot (name := Str.ofString "__next__") hT PySem.F.slot_zip_next (wpAny_call_entry PySem.F.slot_zip_next hT PySem.F.entry_zip_next ?_ (PySem.F.args_zip_next_1 _))))
  show wpAny _ _ (field (.ref z) 2 >>= _) _ _ _
  refine wpAny_bind (wpAny_field hz rfl (x := .bool false) rfl ?_)
  show wpAny _ _ (field (.ref z) 3 >>= _) _ _ _
  refine wpAny_bind (wpAny_field hz rfl (x := .ref TI) rfl ?_)
  refine wpAny_bind (wpAny_seqItems hTI rfl ?_)
  show wpAny _ _ (Builtin.SmallTypes.ownedTupleIsFree (.ref z) >>= _) _ _ _
  refine wpAny_bind ?_
  unfold Builtin.SmallTypes.ownedTupleIsFree
  refine wpAny_bind (wpAny_field hz rfl (x := .none) rfl (wpAny_pure ?_))
  simp only [if_true]
  refine wpAny_bind (wpAny_rule ?_)
  refine wpAny_bind (wpAny_field hz rfl (x := .ref TO) rfl ?_)
  refine wpAny_bind (wpAny_setField_rec hz (by simp) fun ha za sa => ?_)
  refine wpAny_bind ?_
  simp only [List.zipIdx_cons, List.zipIdx_nil, List.forIn_cons, List.forIn_nil]
  refine wpAny_bind (wpAny_bind (wpAny_onRaise ?_))
  show wpAny _ _ (Builtin.SmallTypes.nextOf (.ref i1) >>= _) _ _ _
  refine wpAny_bind (end_str hh (sa.extBut _ _ D.i1z h1) hx fun hb e sb he => ?_)
  obtain ⟨oe, hoe, hce⟩ := he
  have zb := sb _ _ D.i1z.symm za
  have nez : e ≠ z := fun x => by subst x; rw [zb] at hoe; cases hoe; simp at hce
  refine wpAny_setField_rec zb (by simp) fun hc _ sc => ?_
  refine wpAny_bind (wpAny_isInstance (T := "StopIteration") (b := true) ⟨oe, sc.extBut _ _ nez hoe, hce⟩ isSubtype_stop ?_)
  exact wpAny_pure (hQ _ fun c o n1 _ n3 _ g => sc.extBut _ _ n1 (sb _ _ n3 (sa.extBut _ _ n1 g)))

theorem zipS_go {elts : List Expr} {x1 : Nat} {pos : Pos} {z TI TO i1 i2 T : Addr} {x y : Str} {t u : Tok} {i : Nat} {Q : Unit → Shared → Prop} (D : ZApart z TI TO i1 i2) (Z : ZipS s.heap z TI TO i1 i2 (rawInt T) x t y u i i)
    (hQ : ∀ h', ZipS h' z TI TO i1 i2 .none x t y u i i → Heap.SameBut z s.heap h' → Q () { s with heap := h' }) :
    wpAny (model prog w) A (letOwnedTupleGo (.Tuple elts x1 pos) (.ref z) (.ref T)) Q E s := by
  obtain ⟨hz, hTI, ⟨p, q, hTO⟩, h1, h2⟩ := Z
  exact wpAny_letOwnedTupleGo_zip hz fun h' hz' hs => hQ h' ⟨hz', hs.extBut _ _ D.TIz hTI, ⟨p, q, hs.extBut _ _ D.TOz hTO⟩, hs.extBut _ _ D.i1z h1, hs.extBut _ _ D.i2z h2⟩ hs
end

theorem lt_sz {h : Heap} {a : Nat} {o : Obj} (e : h.get? a = some o) : a < h.objs.size := Heap.lt_size e
section
variable {prog : Program} {w : World} {A : Around} {E : Value → Shared → Prop} {s : Shared}
/-- the turns of a comprehension whose target is a tuple, with tests -/
theorem comp_turns {elt iter : Expr} {elts ifs : List Expr} {x1 : Nat} {tp : Pos} {scope : Scope} {pos : Pos} {it acc : Value} {env : Env} {R : Result → Shared → Prop} (I : Nat → Shared → Prop)
    (turn : ∀ n s, I n s → wpAny (model prog w) A (pyNext it) (fun r s₁ => match r with
      | none => R (.ok .next) s₁
      | some v => wpAny (model prog w) A (letOwnedTupleGo (.Tuple elts x1 tp) it v) (fun _ s₁' => wpAny (model prog w) A (assign (.Tuple elts x1 tp) env v) (fun _ s₂ =>
          wpAny (model prog w) A (forIn ifs true fun c r => if r = true then do let ok ← isTrue c env (eval c env); pure (ForInStep.yield ok) else pure (ForInStep.yield r)) (fun ok s₃ =>
            if ok = true then wpAny (model prog w) A (eval elt env) (fun x s₄ =>
              wpAny (model prog w) A (call (.builtin "list.append") [acc, x]) (fun _ s₅ => ∃ m, m < n ∧ I m s₅) (notedBy (model prog w) A env fun e s' => R (.error e) s') s₄) (notedBy (model prog w) A env fun e s' => R (.error e) s') s₃
            else ∃ m, m < n ∧ I m s₃) (notedBy (model prog w) A env fun e s' => R (.error e) s') s₂)
          (notedBy (model prog w) A env fun e s' => R (.error e) s') s₁') (notedBy (model prog w) A env fun e s' => R (.error e) s') s₁) (notedBy (model prog w) A env fun e s' => R (.error e) s') s)
    (n : Nat) (h : I n s) : codeAny (model prog w) A (.compLoop (.ListComp elt [⟨.Tuple elts x1 tp, iter, ifs, 0⟩] scope pos) 0 it acc env) R s := by
  refine codeAny_loop rfl I (fun n s hI => ?_) n h
  show wpAny _ A ((compTurn (.ListComp elt [⟨.Tuple elts x1 tp, iter, ifs, 0⟩] scope pos) 0 it acc env).onRaise (fun x => do noteFrame x env; theTreesLotGoes x)) _ _ s
  refine wpAny_noted ?_
  rw [compTurn_list]
  refine wpAny_bind (wpAny_standAt (wpAny_bind (wpAny_mono (turn n s hI) (fun r s₁ h₁ => ?_) fun _ _ h' => h')))
  cases r with
  | none => exact wpAny_pure h₁
  | some v =>
    refine wpAny_bind (wpAny_mono h₁ (fun _ s₁' h₁' => ?_) fun _ _ h' => h')
    refine wpAny_bind (wpAny_mono h₁' (fun _ s₂ h₂ => wpAny_bind (wpAny_mono h₂ (fun ok s₃ h₃ => ?_) fun _ _ h' => h')) fun _ _ h' => h')
    cases ok with
    | false => exact wpAny_pure ⟨rfl, h₃⟩
    | true => exact wpAny_bind (wpAny_bind (wpAny_mono h₃ (fun x s₄ h₄ => wpAny_bind (wpAny_mono h₄ (fun _ s₅ h₅ => wpAny_pure (wpAny_pure ⟨rfl, h₅⟩)) fun _ _ h' => h')) fun _ _ h' => h'))

theorem strs_snoc {vs : List Value} {ys : List Str} (h : StrsAre vs ys) (y : Str) (t : Tok) : StrsAre (vs ++ [.str y t]) (ys ++ [y]) := by
  induction h with
  | nil => exact .cons _ _ .nil
  | cons _ _ _ ih => exact .cons _ _ ih

/-- the letters of x whose sign in y passes p -/
def lettersOf (p : Nat → Bool) (x y : Str) : List Str := ((x.cps.toList.zip y.cps.toList).filter (fun q => p q.2)).map (fun q => ⟨#[q.1]⟩)

theorem take_zip {α β : Type} {xs : List α} {ys : List β} {i : Nat} {a : α} {b : β} (hx : xs[i]? = some a) (hy : ys[i]? = some b) : (xs.zip ys).take (i + 1) = (xs.zip ys).take i ++ [(a, b)] := by
  have e : (xs.zip ys)[i]? = some (a, b) := List.getElem?_zip_eq_some.mpr ⟨hx, hy⟩
  rw [List.take_add_one, e]
  rfl

theorem letters_comp {elt iter c : Expr} {xl xs : Str} {px px₂ tp : Pos} {tk1 : Nat} {scope : Scope} {cl : List (Str × Addr)} {pos : Pos} {env : Env} {Q : Value → Shared → Prop} {p : Nat → Bool} {x y : Str}
    (hh : A.handled = none) (hclos : closureFor scope env = pure cl) (hcell : ∀ y ∈ scope.names, y.2 ≠ .cell) (hkind : scope.kind = .function)
    (hnames : ∀ y ∈ scope.names, y.2 = .local → scope.names.lookup y.1 = some .local) (hxl : scope.names.lookup xl = some .local) (hxs : scope.names.lookup xs = some .local) (hne : xl ≠ xs)
    (htest : ∀ C s₃ m₃ d v E', s₃.heap.Ns C m₃ → m₃ xs = some (.str ⟨#[d]⟩ v) → wpAny (model prog w) A (isTrue c (compEnvC scope cl C env) (eval c (compEnvC scope cl C env))) (fun ok s₄ => ok = p d ∧ ∃ tk, s₄ = { s₃ with toks := tk }) E' s₃)
    (helt : ∀ C s₃ m₃ v E', s₃.heap.Ns C m₃ → m₃ xl = some v → wpAny (model prog w) A (eval elt (compEnvC scope cl C env)) (fun r s₄ => r = v ∧ ∃ tk, s₄ = { s₃ with toks := tk }) E' s₃)
    (hxy : x.cps.size ≤ y.cps.size) (hsz : x.cps.size ≤ 100)
    (h : wpAny (model prog w) A (eval iter env) (fun xv s₁ => ∃ (z TI TO i1 i2 : Addr) (g : Heap) (t u : Tok), xv = .ref z ∧ ZipS s₁.heap z TI TO i1 i2 .none x t y u 0 0 ∧ ZApart z TI TO i1 i2 ∧ (∀ b o, g.get? b = some o → s₁.heap.get? b = some o) ∧
      g.objs.size ≤ z ∧ g.objs.size ≤ TO ∧ g.objs.size ≤ i1 ∧ g.objs.size ≤ i2 ∧
      ∀ (D : Addr) (h' : Heap) (tk : Nat) (ys : Array Value) (n : Nat), (∀ b o, g.get? b = some o → h'.get? b = some o) → g.objs.size ≤ D → h'.get? D = some (PySem.W.listOf ys n) → StrsAre ys.toList (lettersOf p x y) → Q (.ref D) { s₁ with heap := h', toks := tk }) E s)
    (hs : ∀ x, foldedSetIterable iter env x = pure x := by intro _; rfl) :
    wpAny (model prog w) A (eval (.ListComp elt [⟨.Tuple [.Name xl px, .Name xs px₂] tk1 tp, iter, [c], 0⟩] scope pos) env) Q E s := by
  rw [eval_ListComp]
  refine wpAny_comprehension_free (use := none) rfl hs hclos hkind hnames (wpAny_mono h (fun xv s₁ h₁ => ?_) fun _ _ e => e)
  obtain ⟨z, TI, TO, i1, i2, g, t, u, rfl, Z, D, hg, gz, gTO, g1, g2, hQ⟩ := h₁
  refine wpAny_pyIter_zip Z.z ?_
  refine wpAny_newObj_type (wpAny_newFunctionEnv hcell (by intro y hy; simp at hy) (fun h₁ hns₁ hsb₁ => ?_) hkind)
  dsimp only at hns₁ hsb₁ ⊢
  have hD : s₁.heap.objs.size = s₁.heap.objs.size := rfl
  generalize hH2 : s₁.heap.push { cls := .type "list", dict := none, data := .seq ([] : List Value).toArray } = H2 at hns₁ hsb₁ ⊢
  have hC : H2.objs.size = s₁.heap.objs.size + 1 := by rw [← hH2, Heap.size_push]
  generalize hDn : s₁.heap.objs.size = Dn at *
  generalize hCn : H2.objs.size = C at *
  have below : ∀ b o, s₁.heap.get? b = some o → b ≠ C ∧ b ≠ Dn := fun b o e => by
    have a := lt_sz e
    rw [hDn] at a
    exact ⟨Nat.ne_of_lt (by omega), Nat.ne_of_lt a⟩
  have hDC : Dn ≠ C := by omega
  have old : ∀ b o, s₁.heap.get? b = some o → h₁.get? b = some o := fun b o e => hsb₁.extBut b o (below b o e).1 (Heap.get?_push_of_some _ (hH2 ▸ Heap.get?_push_of_some _ e))
  have hacc : h₁.get? Dn = some (PySem.W.listOf #[] 0) := hsb₁.extBut _ _ hDC (Heap.get?_push_of_some _ (by rw [← hH2, ← hDn]; exact Heap.get?_push_size _ rfl))
  have gD : g.objs.size ≤ Dn := by
    have a := Heap.lt_size Z.z
    rw [hDn] at a
    exact Nat.le_trans gz (Nat.le_of_lt a)
  have zC := (below _ _ Z.z)
  have TIC := (below _ _ Z.TI)
  have TOC : TO ≠ C ∧ TO ≠ Dn := by obtain ⟨_, _, e⟩ := Z.TO; exact below _ _ e
  have i1C := (below _ _ Z.i1)
  have i2C := (below _ _ Z.i2)
  have Z₁ : ZipS h₁ z TI TO i1 i2 .none x t y u 0 0 := ⟨old _ _ Z.z, old _ _ Z.TI, by obtain ⟨a, b, e⟩ := Z.TO; exact ⟨a, b, old _ _ e⟩, old _ _ Z.i1, old _ _ Z.i2⟩
  have gC : ∀ b o, g.get? b = some o → b ≠ C ∧ b ≠ Dn ∧ b ≠ z ∧ b ≠ TO ∧ b ≠ i1 ∧ b ≠ i2 := fun b o e => by
    have a := lt_sz e
    have b' := below _ _ (hg _ _ e)
    exact ⟨b'.1, b'.2, Nat.ne_of_lt (Nat.lt_of_lt_of_le a gz), Nat.ne_of_lt (Nat.lt_of_lt_of_le a gTO), Nat.ne_of_lt (Nat.lt_of_lt_of_le a g1), Nat.ne_of_lt (Nat.lt_of_lt_of_le a g2)⟩
  have gh₁ : ∀ b o, g.get? b = some o → h₁.get? b = some o := fun b o e => old _ _ (hg _ _ e)
  have loop : ∀ s₃ : Shared, s₃ = { s₁ with heap := h₁, toks := s₁.toks + ([] : List (Str × Value)).length } →
      codeAny (model prog w) A (.compLoop (.ListComp elt [⟨.Tuple [.Name xl px, .Name xs px₂] tk1 tp, iter, [c], 0⟩] scope pos) 0 (.ref z) (.ref Dn) (compEnvC scope cl C env))
        (compPost (model prog w) A E none Q (.ref Dn) C) s₃ := by
    rintro s₃ rfl
    refine comp_turns (fun k s' => ∃ h' tk i ys n m', s' = { s₁ with heap := h', toks := tk } ∧ i ≤ x.cps.size ∧ k = x.cps.size + 1 - i ∧ ys.size ≤ i ∧ ZipS h' z TI TO i1 i2 .none x t y u i i ∧ h'.Ns C m' ∧ h'.get? Dn = some (PySem.W.listOf ys n) ∧
      StrsAre ys.toList ((((x.cps.toList.zip y.cps.toList).take i).filter (fun q => p q.2)).map (fun q => ⟨#[q.1]⟩)) ∧ (∀ b o, g.get? b = some o → h'.get? b = some o)) ?_ (x.cps.size + 1)
      ⟨h₁, _, 0, #[], 0, _, rfl, Nat.zero_le _, rfl, Nat.zero_le _, Z₁, hns₁, hacc, .nil, gh₁⟩
    rintro k s' ⟨h', tk, i, ys, n, m', rfl, hi, rfl, hys, Z', hn', hD', hst, hg'⟩
    cases hx : x.cps[i]? with
    | none =>
      have hin : i = x.cps.size := Nat.le_antisymm hi (by simpa using hx)
      refine zipS_end hh D Z' hx fun h₂ hk => ?_
      refine ⟨m', hn'.at fun o e => hk C o (Ne.symm zC.1) (Ne.symm TOC.1) (Ne.symm i1C.1) (Ne.symm i2C.1) e, fun h₃ hs₃ => ?_⟩
      refine hQ Dn h₃ tk ys n (fun b o e => ?_) gD (hs₃.extBut _ _ hDC (hk Dn _ (Ne.symm zC.2) (Ne.symm TOC.2) (Ne.symm i1C.2) (Ne.symm i2C.2) hD')) ?_
      · obtain ⟨q1, q2, q3, q4, q5, q6⟩ := gC b o e
        exact hs₃.extBut _ _ q1 (hk b o q3 q4 q5 q6 (hg' b o e))
      · rw [hin, List.take_of_length_le (by rw [List.length_zip, Array.length_toList, Array.length_toList]; exact Nat.min_le_left ..)] at hst
        exact hst
    | some a =>
      have hlt : i < x.cps.size := (Array.getElem?_eq_some_iff.mp hx).1
      obtain ⟨b, hb⟩ : ∃ b, y.cps[i]? = some b := ⟨_, Array.getElem?_eq_getElem (Nat.lt_of_lt_of_le hlt hxy)⟩
      refine zipS_item D Z' hx hb fun T h₂ t1 t2 tk₂ Z₂ hT gT hk => ?_
      have Tz : T ≠ z := fun q => by have := Heap.lt_size Z'.z; rw [← q] at this; exact Nat.lt_irrefl _ (Nat.lt_of_lt_of_le this gT)
      refine zipS_go D Z₂ fun h₃ Z₃ hs₃ => ?_
      refine assign_Tuple_tuple hh ⟨_, hs₃.extBut _ _ Tz hT, rfl, _, rfl⟩ rfl rfl fun h₄ he => ?_
      have he' : ∀ b o, h₃.get? b = some o → h₄.get? b = some o := fun b o e => he b o (Nat.ne_of_lt (Heap.lt_size e)) e
      have k₄ : ∀ c o, c ≠ z → c ≠ TO → c ≠ i1 → c ≠ i2 → h'.get? c = some o → h₄.get? c = some o := fun c o n1 n2 n3 n4 e => he' _ _ (hs₃.extBut _ _ n1 (hk c o n1 n2 n3 n4 e))
      have hn₄ : h₄.Ns C m' := hn'.at fun o e => k₄ C o (Ne.symm zC.1) (Ne.symm TOC.1) (Ne.symm i1C.1) (Ne.symm i2C.1) e
      refine assignInOrder_cons (wpAny_assign_Name (wpAny_storeName_local (lookup_relabel_local hxl) hn₄ (fun h₅ hn₅ hs₅ => ?_) (by simp [compEnvC, relabel, hkind])))
      refine assignInOrder_cons (wpAny_assign_Name (wpAny_storeName_local (lookup_relabel_local hxs) hn₅ (fun h₆ hn₆ hs₆ => ?_) (by simp [compEnvC, relabel, hkind])))
      refine assignInOrder_nil ?_
      have k₆ : ∀ c o, c ≠ C → h₄.get? c = some o → h₆.get? c = some o := fun c o n1 e => hs₆.extBut _ _ n1 (hs₅.extBut _ _ n1 e)
      have Z₆ : ZipS h₆ z TI TO i1 i2 .none x t y u (i + 1) (i + 1) := ⟨k₆ _ _ zC.1 (he' _ _ Z₃.z), k₆ _ _ TIC.1 (he' _ _ Z₃.TI), by obtain ⟨a, b, e⟩ := Z₃.TO; exact ⟨a, b, k₆ _ _ TOC.1 (he' _ _ e)⟩, k₆ _ _ i1C.1 (he' _ _ Z₃.i1), k₆ _ _ i2C.1 (he' _ _ Z₃.i2)⟩
      have hD₆ := k₆ _ _ hDC (k₄ Dn _ (Ne.symm zC.2) (Ne.symm TOC.2) (Ne.symm i1C.2) (Ne.symm i2C.2) hD')
      have g₆ : ∀ b o, g.get? b = some o → h₆.get? b = some o := fun b o e => by
        obtain ⟨q1, q2, q3, q4, q5, q6⟩ := gC b o e
        exact k₆ _ _ q1 (k₄ b o q3 q4 q5 q6 (hg' b o e))
      have tz := take_zip (xs := x.cps.toList) (ys := y.cps.toList) (i := i) (a := a) (b := b) (by simpa using hx) (by simpa using hb)
      refine wpAny_tests_one (wpAny_mono (htest C _ _ b t2 _ hn₆ (by simp)) (fun ok s₄ h₄ => ?_) fun _ _ e => e)
      obtain ⟨rfl, tk₄, rfl⟩ := h₄
      cases hp : p b with
      | false =>
        simp only [Bool.false_eq_true, if_false]
        refine ⟨x.cps.size + 1 - (i + 1), by omega, h₆, tk₄, i + 1, ys, n, _, rfl, hlt, rfl, by omega, Z₆, hn₆, hD₆, ?_, g₆⟩
        rw [tz]
        simpa [List.filter_append, hp] using hst
      | true =>
        simp only [if_true]
        refine wpAny_mono (helt C _ _ (.str ⟨#[a]⟩ t1) _ hn₆ (by simp [hne])) (fun r s₅ h₅ => ?_) fun _ _ e => e
        obtain ⟨rfl, tk₅, rfl⟩ := h₅
        refine append_at (hsz := Nat.le_trans hys (Nat.le_trans hi (Nat.le_trans hsz (by decide)))) hD₆ fun h₇ hs₇ hD₇ => ?_
        refine ⟨x.cps.size + 1 - (i + 1), by omega, h₇, tk₅, i + 1, ys.push _, _, _, rfl, hlt, rfl, by rw [Array.size_push]; omega, ?_, hn₆.at fun o e => hs₇.extBut _ _ (Ne.symm hDC) e, hD₇, ?_, fun b o e => hs₇.extBut _ _ (gC b o e).2.1 (g₆ b o e)⟩
        · exact ⟨hs₇.extBut _ _ zC.2 Z₆.z, hs₇.extBut _ _ TIC.2 Z₆.TI, by obtain ⟨a, b, e⟩ := Z₆.TO; exact ⟨a, b, hs₇.extBut _ _ TOC.2 e⟩, hs₇.extBut _ _ i1C.2 Z₆.i1, hs₇.extBut _ _ i2C.2 Z₆.i2⟩
        · rw [tz, Array.toList_push, List.filter_append, List.map_append]
          simp only [List.filter_cons, hp, if_true, List.filter_nil, List.map_cons, List.map_nil]
          exact strs_snoc hst _ _
  exact codeAny_compStart_list (loop _ rfl) (wpAny_pyIter_zip Z₁.z (loop _ rfl))
end

local macro_rules | `(tactic| k_steps) => `(tactic| repeat' (first | ((fail_if_success ((with_reducible show wpAny _ _ (eval (Expr.ListComp _ _ _ _) _) _ _ _))); (fail_if_success ((with_reducible show wpAny _ _ (call (Value.type "zip") _) _ _ _))); first | (k_unfold; (try dsimp only)) | (k_end; wrow_close) | walk1 | (dsimp only; walk1) | (leave1; walk_say "STEP leave1"; try dsimp only) | fail "no step")))
abbrev zs1 (h : Heap) (x : Str) (t : Tok) : Heap := h.push (sIter x t 0)
abbrev zs2 (h : Heap) (x : Str) (t : Tok) (y : Str) (u : Tok) : Heap := (zs1 h x t).push (sIter y u 0)
abbrev zs3 (h : Heap) (x : Str) (t : Tok) (y : Str) (u : Tok) : Heap := (zs2 h x t y u).push { cls := .type "tuple", data := .seq #[.ref h.objs.size, .ref (zs1 h x t).objs.size] }
abbrev zs4 (h : Heap) (x : Str) (t : Tok) (y : Str) (u : Tok) : Heap := (zs3 h x t y u).push { cls := .type "tuple", data := .seq #[.none, .none] }
abbrev zs5 (h : Heap) (x : Str) (t : Tok) (y : Str) (u : Tok) : Heap := (zs4 h x t y u).push { cls := .type "zip", data := .fields #[.none, .bool false, .bool false, .ref (zs2 h x t y u).objs.size, .ref (zs3 h x t y u).objs.size] }

theorem meets_zip_strs (x y : Str) (t u : Tok) (ha : x.cps.all (· < 128) = true) (hb : y.cps.all (· < 128) = true) :
    Meets (Builtin.«zip.__new__» ⟨[.type "zip", .str x t, .str y u], []⟩) (fun _ R s => R (.ok (.ret (.ref (zs4 s.heap x t y u).objs.size))) { s with heap := zs5 s.heap x t y u }) :=
  .of_wp fun prog w A R s h => by
    obtain ⟨hp, g, d, tk, os⟩ := s
    have hsub := sub_zip
    unfold Builtin.«zip.__new__» Builtin.SmallTypes.iterAll
    generalize hPI : pyIter = PI
    wp_walk
    subst hPI
    refine wpAny_pyIter_ascii ha ?_
    generalize hPI : pyIter = PI
    wp_walk
    subst hPI
    refine wpAny_pyIter_ascii hb ?_
    wp_walk
    exact ⟨_, rfl, h⟩

section
variable {prog : Program} {w : World} {A : Around} {E : Value → Shared → Prop} {s : Shared}
theorem call_zip_strs {x y : Str} {t u : Tok} {Q : Value → Shared → Prop} (ha : x.cps.all (· < 128) = true) (hb : y.cps.all (· < 128) = true)
    (h : ∀ z TI TO i1 i2 h', ZipS h' z TI TO i1 i2 .none x t y u 0 0 → ZApart z TI TO i1 i2 → (∀ c o, s.heap.get? c = some o → h'.get? c = some o) → s.heap.objs.size ≤ z → s.heap.objs.size ≤ TO → s.heap.objs.size ≤ i1 → s.heap.objs.size ≤ i2 → Q (.ref z) { s with heap := h' }) :
    wpAny (model prog w) A (call (.type "zip") [.str x t, .str y u]) Q E s := by
  refine callType_new PySem.F.called_zip (by decide) (PySem.F.typeCall_zip_2 _ _) (PySem.F.newCall_zip_2 _ _) (fun obj => PySem.F.args_object_init_3 obj _ _) PySem.F.entry_zip_new (meets_zip_strs x y t u ha hb) ?_
  have z1 : (zs1 s.heap x t).objs.size = s.heap.objs.size + 1 := Heap.size_push ..
  have z2 : (zs2 s.heap x t y u).objs.size = s.heap.objs.size + 2 := by rw [Heap.size_push, z1]
  have z3 : (zs3 s.heap x t y u).objs.size = s.heap.objs.size + 3 := by rw [Heap.size_push, z2]
  have z4 : (zs4 s.heap x t y u).objs.size = s.heap.objs.size + 4 := by rw [Heap.size_push, z3]
  have g5 : (zs5 s.heap x t y u).get? (zs4 s.heap x t y u).objs.size = some _ := Heap.get?_push_size _ rfl
  have g4 : (zs5 s.heap x t y u).get? (zs3 s.heap x t y u).objs.size = some _ := Heap.get?_push_of_some _ (Heap.get?_push_size _ rfl)
  have g3 : (zs5 s.heap x t y u).get? (zs2 s.heap x t y u).objs.size = some _ := Heap.get?_push_of_some _ (Heap.get?_push_of_some _ (Heap.get?_push_size _ rfl))
  have g2 : (zs5 s.heap x t y u).get? (zs1 s.heap x t).objs.size = some _ := Heap.get?_push_of_some _ (Heap.get?_push_of_some _ (Heap.get?_push_of_some _ (Heap.get?_push_size _ rfl)))
  have g1 : (zs5 s.heap x t y u).get? s.heap.objs.size = some _ := Heap.get?_push_of_some _ (Heap.get?_push_of_some _ (Heap.get?_push_of_some _ (Heap.get?_push_of_some _ (Heap.get?_push_size _ rfl))))
  have k : ∀ c o, s.heap.get? c = some o → (zs5 s.heap x t y u).get? c = some o := fun c o e => Heap.get?_push_of_some _ (Heap.get?_push_of_some _ (Heap.get?_push_of_some _ (Heap.get?_push_of_some _ (Heap.get?_push_of_some _ e))))
  show _ ∧ _
  refine ⟨⟨_, g5, rfl⟩, h _ _ _ _ _ _ ⟨g5, g3, ⟨_, _, g4⟩, g1, g2⟩ ⟨?_, ?_, ?_, ?_, ?_, ?_, ?_, ?_, ?_, ?_⟩ k ?_ ?_ ?_ ?_⟩ <;> first | (refine (?_ : @Ne Nat _ _); omega) | omega
theorem t_sign {m : Str → Option Value} {x y : Str} {v : Tok} {px pc p : Pos} {kd : Nat} {env : Env} {d : Nat} (hn : s.heap.Ns env.locals m) (hv : m x = some (.str ⟨#[d]⟩ v)) (hk : env.scope.kind = .function) (hl : env.kindOf x = some .local)
    (hd : (x == ("__debug__" : Str)) = false) :
    wpAny (model prog w) A (isTrue (.Compare (.Name x px) [.In] [.Constant (.str y) kd pc] p) env (eval (.Compare (.Name x px) [.In] [.Constant (.str y) kd pc] p) env)) (fun ok s₄ => ok = (!(Builtin.Str.occurrences y ⟨#[d]⟩ 0 y.length 1).isEmpty) ∧ ∃ tk, s₄ = { s with toks := tk }) E s := by
  refine wpAny_isTrue_Compare1 (wpAny_Name (wpAny_loadName_local hk hl hn hv ?_) hd)
  refine wpAny_Constant_str ?_
  refine PySem.P.in_str ?_
  exact wpAny_truthy_bool ⟨rfl, _, rfl⟩
end

/-- a sign of 'rwxst' -/
def isSign (d : Nat) : Bool := (!(Builtin.Str.occurrences (Str.ofString "rwxst") ⟨#[d]⟩ 0 (Str.ofString "rwxst").length 1).isEmpty)
section
variable {w : World} {mg mb : Str → Option Value} {p : Program} {loose : List Str} {mean : ExcName → Option Value}
  {dp un : Nat} {fr : Option (List Env)} {gd : Option (List Code)} {s : Shared} {Q E : Value → Shared → Prop} {h₀ : Heap} {L : Addr} {m : Str → Option Value} {news : List (Addr × Obj)}
theorem letters_new {y : Str} {u : Tok} (F₀ : Fr h₀ L s.heap m) (N₀ : News h₀ L s.heap news) (X₀ : (hd.heap_39 w.params).In h₀) (T₀ : Top p loose mean mg mb h₀) (hdp : dp + 3 < recursionLimit)
   (hy : 3 ≤ y.cps.size) (hb : y.cps.all (· < 128) = true)
   (h : ∀ D h' tk vs n, Fr h₀ L h' m → News h₀ L h' ((D, PySem.W.listOf (List.toArray vs) n) :: news) → (∀ p ∈ news, p.1 < D) → StrsAre vs (lettersOf isSign (Str.ofString "rwx") y) → vs.length ≤ 3 → (lettersOf isSign (Str.ofString "rwx") y).length ≤ 3 → Q (.ref D) { s with heap := h', toks := tk }) :
   wpAny (model PySem.Challenge.pw_tv0029_01 w) (aA dp fr gd un) (call (.ref 122) [.str y u]) Q E s := by
  have X := X₀.keeps F₀.keep
  have T := T₀.keeps F₀.keep
  refine enter X T (by k_is) (by k_is) (by omega) (BindsTo.of_eq rfl) (locs rfl) ?_ rfl rfl rfl (by decide)
  intro h₁ tk F N
  clear X₀ T₀
  k_steps
  refine letters_comp (p := isSign) (x := Str.ofString "rwx") (y := y) rfl (by with_unfolding_all rfl) (by decide) rfl (by decide) (by rfl) (by rfl) (by decide) ?_ ?_ hy (by decide) ?_
  · intro C s₃ m₃ d v E' hn hv
    exact t_sign hn hv rfl rfl (by decide)
  · intro C s₃ m₃ v E' hn hv
    exact wpAny_Name (wpAny_loadName_local rfl rfl hn hv ⟨rfl, _, rfl⟩) (by decide)
  · k_steps
    refine call_zip_strs (by decide +kernel) hb fun z TI TO i1 i2 h' Z D k g1 g2 g3 g4 => ?_
    refine ⟨z, TI, TO, i1, i2, h₁, _, _, rfl, Z, D, k, g1, g2, g3, g4, fun D' h'' tk' ys n hk hD gD hs => ?_⟩
    obtain ⟨F'', N'', _⟩ := back F₀ N₀ (F.keeps hk) (news_put F (news_keeps N hk) hD gD)
    have l3 : (lettersOf isSign (Str.ofString "rwx") y).length ≤ 3 := by
      unfold lettersOf
      rw [List.length_map]
      refine Nat.le_trans (List.length_filter_le _ _) ?_
      rw [List.length_zip]
      exact Nat.le_trans (Nat.min_le_left _ _) (by decide +kernel)
    refine h D' h'' tk' ys.toList n F'' (by simpa using N'') (news_lt N₀ ?_) hs (by rw [strs_len hs]; exact l3) l3
    obtain ⟨_, _, _, hL, _⟩ := F.ns
    exact Nat.le_trans (Nat.le_of_lt (Heap.lt_size hL)) hD
end

/-- an iterator over a list (false) or a tuple (true), as its object -/
abbrev itN : Bool → String
  | false => "list_iterator"
  | true => "tuple_iterator"
abbrev itO (k : Bool) (l : Addr) (i : Nat) : Obj := { cls := .type (itN k), data := .fields #[.ref l, .int i 0] }
def IsSeq : Bool → Heap → Addr → Array Value → Prop
  | false, h, l, items => h.IsList l items
  | true, h, l, items => IsTup h l items
theorem IsSeq.keeps {k : Bool} {h h' : Heap} {l : Addr} {items : Array Value} (x : IsSeq k h l items) (hk : ∀ o, h.get? l = some o → h'.get? l = some o) : IsSeq k h' l items := by
  cases k with
  | false => obtain ⟨o, e, r⟩ := x; exact ⟨o, hk o e, r⟩
  | true => obtain ⟨o, e, r⟩ := x; exact ⟨o, hk o e, r⟩
theorem IsSeq.lt {k : Bool} {h : Heap} {l : Addr} {items : Array Value} (x : IsSeq k h l items) : l < h.objs.size := by
  cases k with
  | false => obtain ⟨o, e, r⟩ := x; exact Heap.lt_size e
  | true => obtain ⟨o, e, r⟩ := x; exact Heap.lt_size e
theorem news_sub {h₀ h : Heap} {L : Addr} {a b : List (Addr × Obj)} (N : News h₀ L h a) (hs : ∀ p ∈ b, p ∈ a) : News h₀ L h b := fun p hp => N p (hs p hp)
section
variable {prog : Program} {w : World} {A : Around} {E : Value → Shared → Prop} {s : Shared}
theorem seq_item {k : Bool} {it l : Addr} {i : Nat} {items : Array Value} {x : Value} {Q : Option Value → Shared → Prop} (ho : s.heap.get? it = some (itO k l i)) (hl : IsSeq k s.heap l items) (hx : items[i]? = some x)
    (hQ : ∀ h', h'.get? it = some (itO k l (i + 1)) → Heap.SameBut it s.heap h' → Q (some x) { s with heap := h' }) : wpAny (model prog w) A (pyNext (.ref it)) Q E s := by
  cases k with
  | false =>
    have hT : s.TypeIs (.ref it) "list_iterator" := ⟨_, ho, rfl⟩
    obtain ⟨ol, hol, _, nl, hdl⟩ := hl
    unfold pyNext
    refine wpAny_bind (wpAny_attempt (wpAny_callSpecial?_slot (name := Str.ofString "__next__") hT slot_listiter_next (wpAny_call_entry slot_listiter_next hT entry_listiter_next ?_ (args_listiter_next _))))
    show wpAny _ _ (field (.ref it) 0 >>= _) _ _ s
    refine wpAny_bind (wpAny_field ho rfl (x := .ref l) rfl ?_)
    show wpAny _ _ (if (Value.ref l == Value.none) = true then _ else _) _ _ s
    rw [if_neg (show ¬ ((Value.ref l == Value.none) = true) from Bool.false_ne_true)]
    show wpAny _ _ (field (.ref it) 1 >>= _) _ _ s
    refine wpAny_bind (wpAny_field ho rfl (x := .int i 0) rfl ?_)
    refine wpAny_bind (wpAny_seqItems hol hdl ?_)
    simp only [Int.toNat_natCast, hx]
    exact wpAny_bind (wpAny_setField_rec ho (by simp) fun h' g hs => wpAny_pure ⟨x, rfl, wpAny_pure (hQ h' g hs)⟩)
  | true =>
    have hT : s.TypeIs (.ref it) "tuple_iterator" := ⟨_, ho, rfl⟩
    obtain ⟨ol, hol, _, nl, hdl⟩ := hl
    unfold pyNext
    refine wpAny_bind (wpAny_attempt (wpAny_callSpecial?_slot (name := Str.ofString "__next__") hT slot_tupleiter_next (wpAny_call_entry slot_tupleiter_next hT entry_tupleiter_next ?_ (args_tupleiter_next _))))
    show wpAny _ _ (field (.ref it) 0 >>= _) _ _ s
    refine wpAny_bind (wpAny_field ho rfl (x := .ref l) rfl ?_)
    show wpAny _ _ (if (Value.ref l == Value.none) = true then _ else _) _ _ s
    rw [if_neg (show ¬ ((Value.ref l == Value.none) = true) from Bool.false_ne_true)]
    show wpAny _ _ (field (.ref it) 1 >>= _) _ _ s
    refine wpAny_bind (wpAny_field ho rfl (x := .int i 0) rfl ?_)
    refine wpAny_bind (wpAny_seqItems hol hdl ?_)
    simp only [Int.toNat_natCast, hx]
    exact wpAny_bind (wpAny_setField_rec ho (by simp) fun h' g hs => wpAny_pure ⟨x, rfl, wpAny_pure (hQ h' g hs)⟩)

theorem seq_end {k : Bool} {it l : Addr} {i : Nat} {items : Array Value} {Q : Option Value → Shared → Prop} (hh : A.handled = none) (ho : s.heap.get? it = some (itO k l i)) (hl : IsSeq k s.heap l items) (hx : items[i]? = none)
    (hQ : ∀ h', Heap.ExtBut it s.heap h' → Q none { s with heap := h' }) : wpAny (model prog w) A (pyNext (.ref it)) Q E s := by
  cases k with
  | false => exact wpAny_pyNext_list_end hh ⟨_, ho, rfl, rfl⟩ hl hx hQ
  | true => exact next_tuple_end hh ⟨_, ho, rfl, rfl⟩ hl hx hQ

theorem seq_iter {k : Bool} {l : Addr} {items : Array Value} {Q : Value → Shared → Prop} (hl : IsSeq k s.heap l items) (hQ : Q (.ref s.heap.objs.size) { s with heap := s.heap.push (itO k l 0) }) : wpAny (model prog w) A (pyIter (.ref l)) Q E s := by
  cases k with
  | false => exact wpAny_pyIter_list hl hQ
  | true => exact iter_tuple hl hQ

theorem seq_go {k : Bool} {target : Expr} {it l : Addr} {i : Nat} {v : Value} {Q : Unit → Shared → Prop} (ho : s.heap.get? it = some (itO k l i)) (h : Q () s) : wpAny (model prog w) A (letOwnedTupleGo target (.ref it) v) Q E s := by
  have hc : ∀ a : Addr, (["enumerate", "zip", "dict_itemiterator", "dict_reverseitemiterator", "odict_iterator", "itertools.zip_longest", "itertools.pairwise"].contains (itN k) && (#[Value.ref l, .int i 0] : Array Value)[0]? == some (rawInt a)) = false := by
    intro a; cases k <;> rfl
  have main : wpAny (model prog w) A (do
      let (.ref r, .ref a) := (Value.ref it, v) | return
      let o ← load r
      match o.cls, o.data with
      | .type n, .fields vs =>
        if ["enumerate", "zip", "dict_itemiterator", "dict_reverseitemiterator", "odict_iterator", "itertools.zip_longest", "itertools.pairwise"].contains n && vs[0]? == some (rawInt a) then
          rule "for.unpacks-the-owned-tuple"
          updateField r 0 .none
      | _, _ => pure ()) Q E s := by
    cases v with
    | ref a =>
      refine wpAny_bind (wpAny_load ho ?_)
      show wpAny _ _ (if (["enumerate", "zip", "dict_itemiterator", "dict_reverseitemiterator", "odict_iterator", "itertools.zip_longest", "itertools.pairwise"].contains (itN k) && (#[Value.ref l, .int i 0] : Array Value)[0]? == some (rawInt a)) = true then _ else _) _ _ _
      rw [hc a]
      exact wpAny_pure h
    | _ => exact wpAny_pure h
  cases target with
  | Tuple _ _ _ => exact main
  | List _ _ => exact main
  | _ => exact wpAny_pure h
end

/-- where a turn of a loop may end -/
def TurnEnd (h₀ : Heap) (L it : Addr) (o : Obj) (J : (Str → Option Value) → List (Addr × Obj) → Prop) (Q : Flow → Shared → Prop) (s : Shared) (f : Flow) (s₃ : Shared) : Prop :=
  match f with
  | .next | .cont => ∃ h' tk m' news', s₃ = { s with heap := h', toks := tk } ∧ Fr h₀ L h' m' ∧ News h₀ L h' ((it, o) :: news') ∧ (∀ p ∈ news', p.1 ≠ it) ∧ J m' news'
  | .brk => Q .next s₃
  | .ret v => Q (.ret v) s₃
section
variable {prog : Program} {w : World} {A : Around} {E : Value → Shared → Prop} {s : Shared}
theorem fr_same {h₀ h h' : Heap} {L it : Addr} {m : Str → Option Value} {o : Obj} {news : List (Addr × Obj)} (F : Fr h₀ L h m) (N : News h₀ L h ((it, o) :: news)) (hx : Heap.ExtBut it h h') : Fr h₀ L h' m := by
  have n := (N _ (.head _)).2
  refine ⟨F.ns.extBut hx (Ne.symm n.1), fun b o e => hx b o (fun q => ?_) (F.keep b o e), F.above⟩
  rw [q, n.2] at e; cases e
theorem news_same {h₀ h h' : Heap} {L it : Addr} {news : List (Addr × Obj)} (N : News h₀ L h news) (hn : ∀ p ∈ news, p.1 ≠ it) (hx : Heap.ExtBut it h h') : News h₀ L h' news := fun p hp => ⟨hx _ _ (hn p hp) (N p hp).1, (N p hp).2⟩
theorem news_cons {h₀ h : Heap} {L a : Addr} {o : Obj} {news : List (Addr × Obj)} (N : News h₀ L h news) (h1 : h.get? a = some o) (h2 : a ≠ L) (h3 : h₀.get? a = none) : News h₀ L h ((a, o) :: news) := fun p hp => by
  rcases List.mem_cons.mp hp with rfl | hp
  · exact ⟨h1, h2, h3⟩
  · exact N p hp

theorem for_seq {target iter : Expr} {body orelse : List Stmt} {pos : Pos} {env : Env} {Q : Flow → Shared → Prop} {h₀ : Heap} (hh : A.handled = none)
    (h : wpAny (model prog w) A (eval iter env) (fun xv s₁ => ∃ (k : Bool) (l : Addr) (items : Array Value) (m : Str → Option Value) (news : List (Addr × Obj)) (J : Nat → (Str → Option Value) → List (Addr × Obj) → Prop),
      xv = .ref l ∧ IsSeq k s₁.heap l items ∧ Fr h₀ env.locals s₁.heap m ∧ News h₀ env.locals s₁.heap news ∧ J 0 m news ∧
      (∀ i m' news' h', J i m' news' → Fr h₀ env.locals h' m' → News h₀ env.locals h' news' → IsSeq k h' l items) ∧
      ∀ it, (∀ p ∈ news, p.1 < it) → env.locals < it →
        (∀ i v m' news' h' tk, items[i]? = some v → J i m' news' → (∀ p ∈ news', p.1 ≠ it) → Fr h₀ env.locals h' m' → News h₀ env.locals h' ((it, itO k l (i + 1)) :: news') →
          wpAny (model prog w) A (assign target env v) (fun _ s₂ => wpAny (model prog w) A (execs body env) (TurnEnd h₀ env.locals it (itO k l (i + 1)) (J (i + 1)) Q s₁) E s₂) E { s₁ with heap := h', toks := tk }) ∧
        (∀ m' news' h' tk, J items.size m' news' → Fr h₀ env.locals h' m' → News h₀ env.locals h' news' → wpAny (model prog w) A (execs orelse env) Q E { s₁ with heap := h', toks := tk })) E s)
    (hs : ∀ x, foldedSetIterable iter env x = pure x := by intro _; rfl) (hE : PassesOwn (model prog w) A env E := by passes_own) :
    wpAny (model prog w) A (exec (.For target iter body orelse pos) env) Q E s := by
  refine wpAny_For (wpAny_mono h (fun xv s₁ h₁ => ?_) fun _ _ e => e) hs
  obtain ⟨k, l, items, m, news, J, rfl, hl, F, N, h0, hI, rest⟩ := h₁
  refine seq_iter hl ?_
  have lt : ∀ p ∈ news, p.1 < s₁.heap.objs.size := news_lt N (Nat.le_refl _)
  have Llt : env.locals < s₁.heap.objs.size := by obtain ⟨_, _, _, hL, _⟩ := F.ns; exact Heap.lt_size hL
  obtain ⟨turn, fin⟩ := rest s₁.heap.objs.size lt Llt
  have up : ∀ b o, s₁.heap.get? b = some o → (s₁.heap.push (itO k l 0)).get? b = some o := fun b o e => Heap.get?_push_of_some _ e
  have F1 : Fr h₀ env.locals (s₁.heap.push (itO k l 0)) m := F.keeps up
  have N1 : News h₀ env.locals (s₁.heap.push (itO k l 0)) ((s₁.heap.objs.size, itO k l 0) :: news) := news_put F (news_keeps N up) (Nat.le_refl _) (Heap.get?_push_size _ rfl)
  have ne1 : ∀ p ∈ news, p.1 ≠ s₁.heap.objs.size := fun p hp => Nat.ne_of_lt (lt p hp)
  generalize s₁.heap.objs.size = it at *
  generalize s₁.heap.push (itO k l 0) = g1 at *
  refine codeAny_forLoop_any (R := fun r s' => match r with | .ok f => Q f s' | .error e => cameBackBy (model prog w) A env E e s')
    (fun n s' => ∃ h' tk i m' news', s' = { s₁ with heap := h', toks := tk } ∧ i ≤ items.size ∧ n = items.size + 1 - i ∧ Fr h₀ env.locals h' m' ∧ News h₀ env.locals h' ((it, itO k l i) :: news') ∧ (∀ p ∈ news', p.1 ≠ it) ∧ J i m' news') ?_ (items.size + 1)
    ⟨g1, s₁.toks, 0, m, news, rfl, Nat.zero_le _, rfl, F1, N1, ne1, h0⟩
  rintro n s' ⟨h', tk, i, m', news', rfl, hi, rfl, F', N', ne', hJ⟩
  have Nr : News h₀ env.locals h' news' := news_sub N' fun p hp => .tail _ hp
  have hit := (N' _ (.head _)).1
  have hq := hI i m' news' h' hJ F' Nr
  cases hv : items[i]? with
  | none =>
    have hin : i = items.size := Nat.le_antisymm hi (by simpa using hv)
    refine seq_end hh hit hq hv fun h₂ hx => ?_
    exact wpAny_passesOwn hE (fin m' news' h₂ tk (hin ▸ hJ) (fr_same F' N' hx) (news_same Nr ne' hx))
  | some v =>
    have hlt : i < items.size := (Array.getElem?_eq_some_iff.mp hv).1
    refine seq_item hit hq hv fun h₂ g₂ hs₂ => ?_
    refine seq_go g₂ ?_
    have n2 := (N' _ (.head _)).2
    refine wpAny_passesOwn hE (wpAny_mono (turn i v m' news' h₂ tk hv hJ ne' (fr_same F' N' hs₂.extBut) (news_cons (news_same Nr ne' hs₂.extBut) g₂ n2.1 n2.2)) (fun _ s₂ h₂ => wpAny_passesOwn hE (wpAny_mono h₂ (fun f s₃ h₃ => ?_) fun _ _ e => e)) fun _ _ e => e)
    cases f with
    | next =>
      obtain ⟨h₄, tk₄, m₄, news₄, rfl, F₄, N₄, ne₄, J₄⟩ := h₃
      exact ⟨items.size + 1 - (i + 1), by omega, h₄, tk₄, i + 1, m₄, news₄, rfl, hlt, rfl, F₄, N₄, ne₄, J₄⟩
    | cont =>
      obtain ⟨h₄, tk₄, m₄, news₄, rfl, F₄, N₄, ne₄, J₄⟩ := h₃
      exact ⟨items.size + 1 - (i + 1), by omega, h₄, tk₄, i + 1, m₄, news₄, rfl, hlt, rfl, F₄, N₄, ne₄, J₄⟩
    | brk => exact h₃
    | ret v => exact h₃
end

abbrev enO (f0 : Value) (it : Addr) (i : Int) (item : Value) : Obj := { cls := .type "enumerate", data := .fields #[f0, .bool false, .ref it, rawInt i, .none, item] }
theorem meets_enum_tup (t : Addr) (items : Array Value) :
    Meets (Builtin.«enumerate.__new__» ⟨[.type "enumerate", .ref t], []⟩) (fun _ R s => IsTup s.heap t items ∧
      R (.ok (.ret (.ref (s.heap.push (itO true t 0)).objs.size))) { s with heap := (s.heap.push (itO true t 0)).push (enO .none s.heap.objs.size 0 .none) }) :=
  .of_wp fun prog w A R s h => by
    obtain ⟨hp, g, d, tk, os⟩ := s; obtain ⟨hl, h⟩ := h
    have hsub := sub_enumerate
    generalize hPI : pyIter = PI
    unfold Builtin.«enumerate.__new__»
    rw [hPI]
    wp_walk
    refine wpAny_stack_any fun st => wpAny_pure ?_
    split
    · rename_i c _ _ _ _ _
      cases (c == Value.type "enumerate")
      · wp_walk
        subst hPI
        refine iter_tuple hl ?_
        wp_walk
        exact ⟨_, rfl, h⟩
      · wp_walk
        subst hPI
        refine iter_tuple hl ?_
        wp_walk
        exact ⟨_, rfl, h⟩
    · wp_walk
      subst hPI
      refine iter_tuple hl ?_
      wp_walk
      exact ⟨_, rfl, h⟩

section
variable {prog : Program} {w : World} {A : Around} {E : Value → Shared → Prop} {s : Shared}
theorem call_enum_tup {t : Addr} {items : Array Value} {Q : Value → Shared → Prop} (hl : IsTup s.heap t items)
    (h : ∀ h', h'.get? (s.heap.objs.size + 1) = some (enO .none s.heap.objs.size 0 .none) → h'.get? s.heap.objs.size = some (itO true t 0) → (∀ b o, s.heap.get? b = some o → h'.get? b = some o) → Q (.ref (s.heap.objs.size + 1)) { s with heap := h' }) :
    wpAny (model prog w) A (call (.type "enumerate") [.ref t]) Q E s := by
  refine callType_new PySem.F.called_enumerate (by decide) (PySem.F.typeCall_enumerate_1 _) (PySem.F.newCall_enumerate_1 _) (fun obj => PySem.F.args_object_init_2 obj _) PySem.F.entry_enumerate_new (meets_enum_tup t items) ⟨hl, ?_⟩
  have z1 : (s.heap.push (itO true t 0)).objs.size = s.heap.objs.size + 1 := Heap.size_push ..
  have g1 : ((s.heap.push (itO true t 0)).push (enO .none s.heap.objs.size 0 .none)).get? (s.heap.push (itO true t 0)).objs.size = some _ := Heap.get?_push_size _ rfl
  have g0 : ((s.heap.push (itO true t 0)).push (enO .none s.heap.objs.size 0 .none)).get? s.heap.objs.size = some _ := Heap.get?_push_of_some _ (Heap.get?_push_size _ rfl)
  show _ ∧ _
  rw [z1] at g1 ⊢
  exact ⟨⟨_, g1, rfl⟩, h _ g1 g0 fun b o e => Heap.get?_push_of_some _ (Heap.get?_push_of_some _ e)⟩

theorem next_tup {it t : Addr} {i : Nat} {items : Array Value} {x : Value} {Q : Value → Shared → Prop} (ho : s.heap.get? it = some (itO true t i)) (ht : IsTup s.heap t items) (hx : items[i]? = some x)
    (hQ : ∀ h', h'.get? it = some (itO true t (i + 1)) → Heap.SameBut it s.heap h' → Q x { s with heap := h' }) : wpAny (model prog w) A (Builtin.SmallTypes.nextOf (.ref it)) Q E s := by
  have hT : s.TypeIs (.ref it) "tuple_iterator" := ⟨_, ho, rfl⟩
  obtain ⟨ol, hol, _, nl, hdl⟩ := ht
  unfold Builtin.SmallTypes.nextOf
  refine wpAny_bind (wpAny_callSpecial?_slot (name := Str.ofString "__next__") hT slot_tupleiter_next (wpAny_call_entry slot_tupleiter_next hT entry_tupleiter_next ?_ (args_tupleiter_next _)))
  show wpAny _ _ (field (.ref it) 0 >>= _) _ _ s
  refine wpAny_bind (wpAny_field ho rfl (x := .ref t) rfl ?_)
  show wpAny _ _ (if (Value.ref t == Value.none) = true then _ else _) _ _ s
  rw [if_neg (show ¬ ((Value.ref t == Value.none) = true) from Bool.false_ne_true)]
  show wpAny _ _ (field (.ref it) 1 >>= _) _ _ s
  refine wpAny_bind (wpAny_field ho rfl (x := .int i 0) rfl ?_)
  refine wpAny_bind (wpAny_seqItems hol hdl ?_)
  simp only [Int.toNat_natCast, hx]
  exact wpAny_bind (wpAny_setField_rec ho (by simp) fun h' g hs => wpAny_pure ⟨x, rfl, wpAny_pure (hQ h' g hs)⟩)

theorem end_tup {it t : Addr} {i : Nat} {items : Array Value} {Q : Value → Shared → Prop} (hh : A.handled = none) (ho : s.heap.get? it = some (itO true t i)) (ht : IsTup s.heap t items) (hx : items[i]? = none)
    (hE : ∀ h' e, Heap.ExtBut it s.heap h' → (∃ o, h'.get? e = some o ∧ o.cls = .type "StopIteration") → E (.ref e) { s with heap := h' }) : wpAny (model prog w) A (Builtin.SmallTypes.nextOf (.ref it)) Q E s := by
  have hT : s.TypeIs (.ref it) "tuple_iterator" := ⟨_, ho, rfl⟩
  obtain ⟨ol, hol, _, nl, hdl⟩ := ht
  unfold Builtin.SmallTypes.nextOf
  refine wpAny_bind (wpAny_callSpecial?_slot (name := Str.ofString "__next__") hT slot_tupleiter_next (wpAny_call_entry slot_tupleiter_next hT entry_tupleiter_next ?_ (args_tupleiter_next _)))
  show wpAny _ _ (field (.ref it) 0 >>= _) _ _ s
  refine wpAny_bind (wpAny_field ho rfl (x := .ref t) rfl ?_)
  show wpAny _ _ (if (Value.ref t == Value.none) = true then _ else _) _ _ s
  rw [if_neg (show ¬ ((Value.ref t == Value.none) = true) from Bool.false_ne_true)]
  show wpAny _ _ (field (.ref it) 1 >>= _) _ _ s
  refine wpAny_bind (wpAny_field ho rfl (x := .int i 0) rfl ?_)
  refine wpAny_bind (wpAny_seqItems hol hdl ?_)
  simp only [Int.toNat_natCast, hx]
  refine wpAny_bind (wpAny_rule (wpAny_bind (wpAny_setField_rec ho (by simp) fun h' _ hs => ?_)))
  show wpAny _ _ (newExc (.type "StopIteration") [] >>= _) _ _ _
  refine wpAny_bind ?_
  simp only [newExc, newTuple]
  refine wpAny_bind (wpAny_newObj_type ?_ (by size_fits))
  refine wpAny_bind (m := firstArgMember _ _) (wpAny_of_eq (a := Value.none) (by first | rfl | (simp only [firstArgMember]; rfl)) ?_)
  refine wpAny_newObj_type ?_ (by size_fits)
  simp only [raiseNew]
  refine wpAny_bind (wpAny_handled ?_)
  rw [show A.in1.handled = none from hh]
  refine wpAny_bind (wpAny_pure (wpAny_throw ?_))
  exact hE _ _ ((hs.extBut.push _).push _) ⟨_, Heap.get?_push_size _ rfl, rfl⟩

theorem enum_item {e it t : Addr} {i : Nat} {items : Array Value} {x old : Value} {Q : Option Value → Shared → Prop} (he : s.heap.get? e = some (enO .none it i old)) (hit : s.heap.get? it = some (itO true t i)) (ht : IsTup s.heap t items) (hx : items[i]? = some x) (hne : e ≠ it)
    (hQ : ∀ (T : Addr) h' tk tk', h'.get? e = some (enO (rawInt T) it ((i + 1 : Nat) : Int) x) → h'.get? it = some (itO true t (i + 1)) → h'.get? T = some { cls := .type "tuple", data := .seq #[.int i tk, x] } → s.heap.objs.size ≤ T →
      (∀ b o, b ≠ e → b ≠ it → s.heap.get? b = some o → h'.get? b = some o) → Q (some (.ref T)) { s with heap := h', toks := tk' }) :
    wpAny (model prog w) A (pyNext (.ref e)) Q E s := by
  have hT : s.TypeIs (.ref e) "enumerate" := ⟨_, he, rfl⟩
  unfold pyNext
  refine wpAny_bind (wpAny_attempt (wpAny_callSpecial?_slot (name := Str.ofString "__next__") hT PySem.F.slot_enumerate_next (wpAny_call_entry PySem.F.slot_enumerate_next hT PySem.F.entry_enumerate_next ?_ (PySem.F.args_enumerate_next_1 _))))
  show wpAny _ _ (field (.ref e) 2 >>= _) _ _ _
  refine wpAny_bind (wpAny_field he rfl (x := .ref it) rfl ?_)
  refine wpAny_bind (next_tup hit ht hx fun ha ga sa => ?_)
  have ea := sa.extBut _ _ hne he
  show wpAny _ _ (field (.ref e) 3 >>= _) _ _ _
  refine wpAny_bind (wpAny_field ea rfl (x := rawInt i) rfl ?_)
  show wpAny _ _ (field (.ref e) 4 >>= _) _ _ _
  refine wpAny_bind (wpAny_field ea rfl (x := .none) rfl ?_)
  show wpAny _ _ (mkInt i >>= _) _ _ _
  refine wpAny_bind (wpAny_mkInt ?_)
  show wpAny _ _ (setField (.ref e) 3 (rawInt ((i : Int) + 1)) >>= _) _ _ _
  refine wpAny_bind (wpAny_setField_rec ea (by simp) fun hb gb sb => ?_)
  show wpAny _ _ (setField (.ref e) 4 .none >>= _) _ _ _
  refine wpAny_bind (wpAny_setField_rec gb (by simp) fun hc gc sc => ?_)
  show wpAny _ _ (newTuple [.int i s.toks, x] >>= _) _ _ _
  refine wpAny_bind (wpAny_newTuple ?_)
  show wpAny _ _ (Builtin.SmallTypes.ownedTupleIsFree (.ref e) >>= _) _ _ _
  refine wpAny_bind ?_
  unfold Builtin.SmallTypes.ownedTupleIsFree
  have gd := Heap.get?_push_of_some { cls := .type "tuple", data := .seq #[.int i s.toks, x] } gc
  have T0 : (hc.push { cls := .type "tuple", data := .seq #[.int i s.toks, x] }).get? hc.objs.size = some { cls := .type "tuple", data := .seq #[.int i s.toks, x] } := Heap.get?_push_size _ rfl
  have nT : hc.objs.size ≠ e := Nat.ne_of_gt (Heap.lt_size gc)
  have sz : hc.objs.size = s.heap.objs.size := by rw [sc.1, sb.1, sa.1]
  have k0 : ∀ b o, b ≠ e → b ≠ it → s.heap.get? b = some o → (hc.push { cls := .type "tuple", data := .seq #[.int i s.toks, x] }).get? b = some o := fun b o n1 n2 g => Heap.get?_push_of_some _ (sc.extBut _ _ n1 (sb.extBut _ _ n1 (sa.extBut _ _ n2 g)))
  have it0 := Heap.get?_push_of_some { cls := .type "tuple", data := .seq #[.int i s.toks, x] } (sc.extBut _ _ (Ne.symm hne) (sb.extBut _ _ (Ne.symm hne) ga))
  generalize hc.objs.size = T at *
  refine wpAny_bind (wpAny_field gd rfl (x := .none) rfl (wpAny_pure ?_))
  simp only [if_true]
  refine wpAny_bind (wpAny_rule ?_)
  refine wpAny_bind (wpAny_field gd rfl (x := old) rfl ?_)
  refine wpAny_bind (wpAny_setField_rec gd (by simp) fun hf gf sf => ?_)
  show wpAny _ _ (Builtin.SmallTypes.ownedTupleHandOut (.ref e) (.ref T) >>= _) _ _ _
  refine wpAny_bind ?_
  unfold Builtin.SmallTypes.ownedTupleHandOut
  refine wpAny_bind (wpAny_setField_rec gf (by simp) fun hg gg sg => ?_)
  refine wpAny_setField_rec gg (by simp) fun hi gi si => ?_
  refine wpAny_bind (wpAny_letGo (wpAny_pure ⟨_, rfl, wpAny_pure ?_⟩))
  have up : ∀ b o, b ≠ e → Heap.get? _ b = some o → hi.get? b = some o := fun b o n1 g => si.extBut _ _ n1 (sg.extBut _ _ n1 (sf.extBut _ _ n1 g))
  exact hQ T hi s.toks _ gi (up _ _ (Ne.symm hne) it0) (up _ _ nT T0) (Nat.le_of_eq sz.symm) fun b o n1 n2 g => up _ _ n1 (k0 b o n1 n2 g)

theorem enum_end {e it t : Addr} {i : Nat} {items : Array Value} {old : Value} {Q : Option Value → Shared → Prop} (hh : A.handled = none) (he : s.heap.get? e = some (enO .none it i old)) (hit : s.heap.get? it = some (itO true t i)) (ht : IsTup s.heap t items) (hx : items[i]? = none)
    (hQ : ∀ h', Heap.ExtBut it s.heap h' → Q none { s with heap := h' }) : wpAny (model prog w) A (pyNext (.ref e)) Q E s := by
  have hT : s.TypeIs (.ref e) "enumerate" := ⟨_, he, rfl⟩
  unfold pyNext
  refine wpAny_bind (wpAny_attempt (wpAny_callSpecial?_slot (name := Str.ofString "__next__") hT PySem.F.slot_enumerate_next (wpAny_call_entry PySem.F.slot_enumerate_next hT PySem.F.entry_enumerate_next ?_ (PySem.F.args_enumerate_next_1 _))))
  show wpAny _ _ (field (.ref e) 2 >>= _) _ _ _
  refine wpAny_bind (wpAny_field he rfl (x := .ref it) rfl ?_)
  refine wpAny_bind (end_tup hh hit ht hx fun h' x' hx' he' => ?_)
  obtain ⟨o, ho, hc⟩ := he'
  refine wpAny_bind (wpAny_isInstance (T := "StopIteration") (b := true) ⟨o, ho, hc⟩ isSubtype_stop ?_)
  exact wpAny_pure (hQ _ hx')
end

def TurnEnd2 (h₀ : Heap) (L e it : Addr) (o o2 : Obj) (J : (Str → Option Value) → List (Addr × Obj) → Prop) (Q : Flow → Shared → Prop) (s : Shared) (f : Flow) (s₃ : Shared) : Prop :=
  match f with
  | .next | .cont => ∃ h' tk m' news', s₃ = { s with heap := h', toks := tk } ∧ Fr h₀ L h' m' ∧ News h₀ L h' ((e, o) :: (it, o2) :: news') ∧ (∀ p ∈ news', p.1 ≠ e ∧ p.1 ≠ it) ∧ J m' news'
  | .brk => Q .next s₃
  | .ret v => Q (.ret v) s₃
section
variable {prog : Program} {w : World} {A : Around} {E : Value → Shared → Prop} {s : Shared}
theorem fr_keep2 {h₀ h h' : Heap} {L e it : Addr} {m : Str → Option Value} (F : Fr h₀ L h m) (e1 : e ≠ L) (e2 : h₀.get? e = none) (i1 : it ≠ L) (i2 : h₀.get? it = none) (hk : ∀ b o, b ≠ e → b ≠ it → h.get? b = some o → h'.get? b = some o) : Fr h₀ L h' m := by
  refine ⟨F.ns.at fun o g => hk L o (Ne.symm e1) (Ne.symm i1) g, fun b o g => hk b o (fun q => ?_) (fun q => ?_) (F.keep b o g), F.above⟩
  · rw [q, e2] at g; cases g
  · rw [q, i2] at g; cases g
theorem for_enum {iter : Expr} {xi xv : Str} {pi pv pt : Pos} {x1 : Nat} {body orelse : List Stmt} {pos : Pos} {env : Env} {Q : Flow → Shared → Prop} {h₀ : Heap} (hh : A.handled = none)
    (hxi : env.kindOf xi = some .local) (hxv : env.kindOf xv = some .local) (hp : (env.scope.kind == .class || (env.scope.kind == .module && env.locals != env.globals)) = false)
    (h : wpAny (model prog w) A (eval iter env) (fun xval s₁ => ∃ (e it t : Addr) (items : Array Value) (m : Str → Option Value) (news : List (Addr × Obj)) (J : Nat → (Str → Option Value) → List (Addr × Obj) → Prop),
      xval = .ref e ∧ IsTup h₀ t items ∧ e ≠ it ∧ Fr h₀ env.locals s₁.heap m ∧ News h₀ env.locals s₁.heap ((e, enO .none it 0 .none) :: (it, itO true t 0) :: news) ∧ (∀ p ∈ news, p.1 ≠ e ∧ p.1 ≠ it) ∧ J 0 m news ∧
        (∀ i v m' news' h' tk tk', items[i]? = some v → J i m' news' → (∀ p ∈ news', p.1 ≠ e ∧ p.1 ≠ it) → Fr h₀ env.locals h' (fun y => if y = xv then some v else if y = xi then some (.int i tk') else m' y) →
          News h₀ env.locals h' ((e, enO .none it ((i + 1 : Nat) : Int) v) :: (it, itO true t (i + 1)) :: news') →
          wpAny (model prog w) A (execs body env) (TurnEnd2 h₀ env.locals e it (enO .none it ((i + 1 : Nat) : Int) v) (itO true t (i + 1)) (J (i + 1)) Q s₁) E { s₁ with heap := h', toks := tk }) ∧
        (∀ m' news' h' tk, J items.size m' news' → Fr h₀ env.locals h' m' → News h₀ env.locals h' news' → wpAny (model prog w) A (execs orelse env) Q E { s₁ with heap := h', toks := tk })) E s)
    (hs : ∀ x, foldedSetIterable iter env x = pure x := by intro _; rfl) (hE : PassesOwn (model prog w) A env E := by passes_own) :
    wpAny (model prog w) A (exec (.For (.Tuple [.Name xi pi, .Name xv pv] x1 pt) iter body orelse pos) env) Q E s := by
  refine wpAny_For (wpAny_mono h (fun xval s₁ h₁ => ?_) fun _ _ e => e) hs
  obtain ⟨e, it, t, items, m, news, J, rfl, ht₀, hne, F, N, ne0, h0, turn, fin⟩ := h₁
  have hTe : s₁.TypeIs (.ref e) "enumerate" := ⟨_, (N _ (.head _)).1, rfl⟩
  refine wpAny_pyIter_slot hTe PySem.F.slot_enumerate_iter (wpAny_call_entry PySem.F.slot_enumerate_iter hTe PySem.F.entry_enumerate_iter ?_ (PySem.F.args_enumerate_iter_1 _))
  show wpAny _ _ (ret (.ref e)) _ _ _
  refine wpAny_pure ⟨_, rfl, "enumerate", _, hTe, PySem.F.slot_enumerate_next.lookup, ?_⟩
  refine codeAny_forLoop_any (R := fun r s' => match r with | .ok f => Q f s' | .error e => cameBackBy (model prog w) A env E e s')
    (fun n s' => ∃ h' tk i m' news' old, s' = { s₁ with heap := h', toks := tk } ∧ i ≤ items.size ∧ n = items.size + 1 - i ∧ Fr h₀ env.locals h' m' ∧ News h₀ env.locals h' ((e, enO .none it (i : Nat) old) :: (it, itO true t i) :: news') ∧ (∀ p ∈ news', p.1 ≠ e ∧ p.1 ≠ it) ∧ J i m' news') ?_ (items.size + 1)
    ⟨s₁.heap, s₁.toks, 0, m, news, .none, rfl, Nat.zero_le _, rfl, F, N, ne0, h0⟩
  rintro n s' ⟨h', tk, i, m', news', old, rfl, hi, rfl, F', N', ne', hJ⟩
  have Nr : News h₀ env.locals h' news' := news_sub N' fun p hp => .tail _ (.tail _ hp)
  have he := N' _ (.head _)
  have hit := N' _ (.tail _ (.head _))
  have ht : IsTup h' t items := by obtain ⟨o, g, r⟩ := ht₀; exact ⟨o, F'.keep _ _ g, r⟩
  cases hv : items[i]? with
  | none =>
    have hin : i = items.size := Nat.le_antisymm hi (by simpa using hv)
    refine enum_end hh he.1 hit.1 ht hv fun h₂ hx => ?_
    exact wpAny_passesOwn hE (fin m' news' h₂ tk (hin ▸ hJ) (fr_keep2 F' he.2.1 he.2.2 hit.2.1 hit.2.2 fun b o _ n2 g => hx b o n2 g) (news_same Nr (fun p hp => (ne' p hp).2) hx))
  | some v =>
    have hlt : i < items.size := (Array.getElem?_eq_some_iff.mp hv).1
    refine enum_item he.1 hit.1 ht hv hne fun T h₂ tk₂ tk₃ ge gi gT lT hk => ?_
    have Te : T ≠ e := fun q => Nat.lt_irrefl _ (Nat.lt_of_lt_of_le (q ▸ Heap.lt_size he.1) lT)
    refine wpAny_letOwnedTupleGo_enum ge fun h₃ ge₃ hs₃ => ?_
    have hk₃ : ∀ b o, b ≠ e → b ≠ it → h'.get? b = some o → h₃.get? b = some o := fun b o n1 n2 g => hs₃.extBut _ _ n1 (hk b o n1 n2 g)
    refine assign_Tuple_tuple hh ⟨_, hs₃.extBut _ _ Te gT, rfl, _, rfl⟩ rfl rfl fun h₄ hx₄ => ?_
    have up₄ : ∀ b o, h₃.get? b = some o → h₄.get? b = some o := fun b o g => hx₄ b o (Nat.ne_of_lt (Heap.lt_size g)) g
    have F₄ : Fr h₀ env.locals h₄ m' := (fr_keep2 F' he.2.1 he.2.2 hit.2.1 hit.2.2 hk₃).keeps up₄
    have N₄ : News h₀ env.locals h₄ ((e, enO .none it ((i + 1 : Nat) : Int) v) :: (it, itO true t (i + 1)) :: news') := by
      refine news_cons (news_cons (fun p hp => ⟨up₄ _ _ (hk₃ _ _ (ne' p hp).1 (ne' p hp).2 (Nr p hp).1), (Nr p hp).2⟩) (up₄ _ _ (hs₃.extBut _ _ (Ne.symm hne) gi)) hit.2.1 hit.2.2) (up₄ _ _ ge₃) he.2.1 he.2.2
    refine assignInOrder_cons (wpAny_assign_Name (wpAny_storeName_local hxi F₄.ns (fun h₅ hn₅ hs₅ => ?_) hp))
    refine assignInOrder_cons (wpAny_assign_Name (wpAny_storeName_local hxv hn₅ (fun h₆ hn₆ hs₆ => ?_) hp))
    refine assignInOrder_nil ?_
    have F₆ := (F₄.set hn₅ hs₅).set hn₆ hs₆
    have N₆ : News h₀ env.locals h₆ ((e, enO .none it ((i + 1 : Nat) : Int) v) :: (it, itO true t (i + 1)) :: news') := fun p hp => ⟨hs₆.extBut _ _ (N₄ p hp).2.1 (hs₅.extBut _ _ (N₄ p hp).2.1 (N₄ p hp).1), (N₄ p hp).2⟩
    refine wpAny_passesOwn hE (wpAny_mono (turn i v m' news' h₆ _ _ hv hJ ne' F₆ N₆) (fun f s₃ h₃ => ?_) fun _ _ e => e)
    cases f with
    | next =>
      obtain ⟨h₄, tk₄, m₄, news₄, rfl, F₄, N₄, ne₄, J₄⟩ := h₃
      exact ⟨items.size + 1 - (i + 1), by omega, h₄, tk₄, i + 1, m₄, news₄, v, rfl, hlt, rfl, F₄, N₄, ne₄, J₄⟩
    | cont =>
      obtain ⟨h₄, tk₄, m₄, news₄, rfl, F₄, N₄, ne₄, J₄⟩ := h₃
      exact ⟨items.size + 1 - (i + 1), by omega, h₄, tk₄, i + 1, m₄, news₄, v, rfl, hlt, rfl, F₄, N₄, ne₄, J₄⟩
    | brk => exact h₃
    | ret v => exact h₃
theorem f_enum {t : Addr} {items : Array Value} {h₀ : Heap} {L : Addr} {m : Str → Option Value} {news : List (Addr × Obj)} {Q : Value → Shared → Prop} (F : Fr h₀ L s.heap m) (N : News h₀ L s.heap news) (ht : IsTup h₀ t items)
    (h : ∀ e it h', Fr h₀ L h' m → News h₀ L h' ((e, enO .none it 0 .none) :: (it, itO true t 0) :: news) → (∀ p ∈ news, p.1 < it) → it < e → Q (.ref e) { s with heap := h' }) :
    wpAny (model prog w) A (call (.type "enumerate") [.ref t]) Q E s := by
  have ht' : IsTup s.heap t items := by obtain ⟨o, g, r⟩ := ht; exact ⟨o, F.keep _ _ g, r⟩
  exact call_enum_tup ht' fun h' ge gi k => h _ _ h' (F.keeps k) (news_put F (news_put F (news_keeps N k) (Nat.le_refl _) gi) (Nat.le_succ _) ge) (news_lt N (Nat.le_refl _)) (Nat.lt_succ_self _)
theorem assign_pair {T : Addr} {a b : Value} {h₀ : Heap} {m : Str → Option Value} {news : List (Addr × Obj)} {env : Env} {x1 x2 : Str} {p1 p2 pt : Pos} {k : Nat} {Q : Unit → Shared → Prop} (hh : A.handled = none) (F : Fr h₀ env.locals s.heap m) (N : News h₀ env.locals s.heap news) (ht : IsTup s.heap T #[a, b])
    (hx1 : env.kindOf x1 = some .local) (hx2 : env.kindOf x2 = some .local) (hp : (env.scope.kind == .class || (env.scope.kind == .module && env.locals != env.globals)) = false)
    (h : ∀ h' tk, Fr h₀ env.locals h' (fun y => if y = x2 then some b else if y = x1 then some a else m y) → News h₀ env.locals h' news → Q () { s with heap := h', toks := tk }) :
    wpAny (model prog w) A (assign (.Tuple [.Name x1 p1, .Name x2 p2] k pt) env (.ref T)) Q E s := by
  refine assign_Tuple_tuple hh ht rfl rfl fun h₄ hx₄ => ?_
  have up₄ : ∀ b o, s.heap.get? b = some o → h₄.get? b = some o := fun b o g => hx₄ b o (Nat.ne_of_lt (Heap.lt_size g)) g
  have F₄ := F.keeps up₄
  have N₄ := news_keeps N up₄
  refine assignInOrder_cons (wpAny_assign_Name (wpAny_storeName_local hx1 F₄.ns (fun h₅ hn₅ hs₅ => ?_) hp))
  refine assignInOrder_cons (wpAny_assign_Name (wpAny_storeName_local hx2 hn₅ (fun h₆ hn₆ hs₆ => ?_) hp))
  refine assignInOrder_nil ?_
  exact h h₆ _ ((F₄.set hn₅ hs₅).set hn₆ hs₆) fun p hp => ⟨hs₆.extBut _ _ (N₄ p hp).2.1 (hs₅.extBut _ _ (N₄ p hp).2.1 (N₄ p hp).1), (N₄ p hp).2⟩
theorem assign_triple {T : Addr} {a b c : Value} {h₀ : Heap} {m : Str → Option Value} {news : List (Addr × Obj)} {env : Env} {x1 x2 x3 : Str} {p1 p2 p3 pt : Pos} {k : Nat} {Q : Unit → Shared → Prop} (hh : A.handled = none) (F : Fr h₀ env.locals s.heap m) (N : News h₀ env.locals s.heap news) (ht : IsTup s.heap T #[a, b, c])
    (hx1 : env.kindOf x1 = some .local) (hx2 : env.kindOf x2 = some .local) (hx3 : env.kindOf x3 = some .local) (hp : (env.scope.kind == .class || (env.scope.kind == .module && env.locals != env.globals)) = false)
    (h : ∀ h' tk, Fr h₀ env.locals h' (fun y => if y = x3 then some c else if y = x2 then some b else if y = x1 then some a else m y) → News h₀ env.locals h' news → Q () { s with heap := h', toks := tk }) :
    wpAny (model prog w) A (assign (.Tuple [.Name x1 p1, .Name x2 p2, .Name x3 p3] k pt) env (.ref T)) Q E s := by
  refine assign_Tuple_tuple hh ht rfl rfl fun h₄ hx₄ => ?_
  have up₄ : ∀ b o, s.heap.get? b = some o → h₄.get? b = some o := fun b o g => hx₄ b o (Nat.ne_of_lt (Heap.lt_size g)) g
  have F₄ := F.keeps up₄
  have N₄ := news_keeps N up₄
  refine assignInOrder_cons (wpAny_assign_Name (wpAny_storeName_local hx1 F₄.ns (fun h₅ hn₅ hs₅ => ?_) hp))
  refine assignInOrder_cons (wpAny_assign_Name (wpAny_storeName_local hx2 hn₅ (fun h₆ hn₆ hs₆ => ?_) hp))
  refine assignInOrder_cons (wpAny_assign_Name (wpAny_storeName_local hx3 hn₆ (fun h₇ hn₇ hs₇ => ?_) hp))
  refine assignInOrder_nil ?_
  exact h h₇ _ (((F₄.set hn₅ hs₅).set hn₆ hs₆).set hn₇ hs₇) fun p hp => ⟨hs₇.extBut _ _ (N₄ p hp).2.1 (hs₆.extBut _ _ (N₄ p hp).2.1 (hs₅.extBut _ _ (N₄ p hp).2.1 (N₄ p hp).1)), (N₄ p hp).2⟩
end

theorem bitAnd_nat (a b : Nat) : Builtin.bitAnd (a : Int) (b : Int) = ((a &&& b : Nat) : Int) := by
  rw [bitAnd_pp (Int.natCast_nonneg a) (Int.natCast_nonneg b)]
  rfl
section
variable {w : World} {mg mb : Str → Option Value} {p : Program} {loose : List Str} {mean : ExcName → Option Value}
  {dp un : Nat} {fr : Option (List Env)} {gd : Option (List Code)} {s : Shared} {Q E : Value → Shared → Prop} {h₀ : Heap} {L : Addr} {m : Str → Option Value} {news : List (Addr × Obj)}
theorem ifmt_call {n : Nat} {u : Tok} (F₀ : Fr h₀ L s.heap m) (N₀ : News h₀ L s.heap news) (X₀ : (hd.heap_39 w.params).In h₀) (T₀ : Top p loose mean mg mb h₀) (hdp : dp + 3 < recursionLimit)
   (h : ∀ h' tk t, Fr h₀ L h' m → News h₀ L h' news → Q (.int ((n &&& 61440 : Nat) : Int) t) { s with heap := h', toks := tk }) :
   wpAny (model PySem.Challenge.pw_tv0029_01 w) (aA dp fr gd un) (call (.ref 70) [.int n u]) Q E s := by
  have X := X₀.keeps F₀.keep
  have T := T₀.keeps F₀.keep
  refine enter X T (by k_is) (by k_is) (by omega) (BindsTo.of_eq rfl) (locs rfl) ?_ rfl rfl rfl (by decide)
  intro h₁ tk F N
  clear X₀ T₀
  k_steps
  dsimp only
  obtain ⟨F'', N'', A''⟩ := back F₀ N₀ F N
  have e : Builtin.bitAnd (n : Int) 61440 = ((n &&& 61440 : Nat) : Int) := bitAnd_nat n 61440
  rw [e]
  exact h _ _ _ F'' N''
end

/-- the table's pairs, in the written part -/
def TabAt (h : Heap) (t : Addr) (tab : List (Nat × Nat)) : Prop := ∃ prs : Array Value, IsTup h t prs ∧ prs.size = tab.length ∧
  ∀ (j : Nat) v, prs[j]? = some v → ∃ (q : Addr) (b c : Nat) (t1 t2 : Tok), v = .ref q ∧ tab[j]? = some (b, c) ∧ IsTup h q #[.int (b : Nat) t1, .str ⟨#[c]⟩ t2]
theorem tab_nil {h : Heap} {a : Addr} {o : Obj} (e : h.get? a = some o) (hc : o.cls = .type "tuple") (hd : o.data = .seq #[]) : TabAt h a [] := ⟨#[], ⟨o, e, hc, _, hd⟩, rfl, fun j v hv => by simp at hv⟩
def PairAt (h : Heap) (v : Value) (bc : Nat × Nat) : Prop := ∃ (q : Addr) (t1 t2 : Tok), v = .ref q ∧ IsTup h q #[.int (bc.1 : Nat) t1, .str ⟨#[bc.2]⟩ t2]
theorem tab_of {h : Heap} {t : Addr} {vs : List Value} {tab : List (Nat × Nat)} (ht : IsTup h t vs.toArray) (hp : Paired (PairAt h) vs tab) : TabAt h t tab := by
  refine ⟨vs.toArray, ht, ?_, ?_⟩
  · rw [List.size_toArray]
    clear ht
    induction hp with
    | nil => rfl
    | cons _ _ ih => simp [ih]
  · intro j v hv
    have hv' : vs[j]? = some v := by simpa using hv
    clear ht hv
    induction hp generalizing j with
    | nil => simp at hv'
    | @cons a bc l₁ l₂ x _ ih =>
      cases j with
      | zero =>
        obtain ⟨q, t1, t2, e, r⟩ := x
        simp at hv'
        subst hv'
        exact ⟨q, bc.1, bc.2, t1, t2, e, rfl, r⟩
      | succ j => exact ih j (by simpa using hv')
def TabsAt (h : Heap) (t : Addr) (tabs : List (List (Nat × Nat))) : Prop := ∃ vs : List Value, IsTup h t vs.toArray ∧ Paired (fun v tab => ∃ a, v = .ref a ∧ TabAt h a tab) vs tabs
theorem paired_get {α β : Type} {R : α → β → Prop} {l₁ : List α} {l₂ : List β} (h : Paired R l₁ l₂) : ∀ (j : Nat) a, l₁[j]? = some a → ∃ b, l₂[j]? = some b ∧ R a b := by
  induction h with
  | nil => intro j a e; simp at e
  | cons x _ ih =>
    intro j a e
    cases j with
    | zero => simp at e; subst e; exact ⟨_, rfl, x⟩
    | succ j => exact ih j a (by simpa using e)
theorem paired_len {α β : Type} {R : α → β → Prop} {l₁ : List α} {l₂ : List β} (h : Paired R l₁ l₂) : l₁.length = l₂.length := by
  induction h with
  | nil => rfl
  | cons _ _ ih => simp [ih]

def fmTabs : List (List (Nat × Nat)) :=
  [[(40960, 108), (49152, 115), (32768, 45), (24576, 98), (16384, 100), (8192, 99), (4096, 112)], [(256, 114)], [(128, 119)], [(2112, 115), (2048, 83), (64, 120)], [(32, 114)], [(16, 119)], [(1032, 115), (1024, 83), (8, 120)], [(4, 114)], [(2, 119)], [(513, 116), (512, 84), (1, 120)]]
def fmHit (z : Bool) (n b : Nat) : Bool := if z then (n &&& 61440) == b else (n &&& b) == b
def fmPick (z : Bool) (n : Nat) (tab : List (Nat × Nat)) : Nat := match tab.find? (fun q => fmHit z n q.1) with | some q => q.2 | none => if z then 63 else 45
def fmChars (n : Nat) : List Nat := (fmPick true n (fmTabs.headD [])) :: (fmTabs.tail.map (fmPick false n))
theorem tabs_at {w : World} {h : Heap} (X : (hd.heap_39 w.params).In h) : TabsAt h 103 fmTabs := by
  have pr : ∀ (q : Addr) (b c : Nat) (t1 t2 : Tok) (o : Obj), (hd.heap_39 w.params).lookup q = some o → o.cls = .type "tuple" → o.data = .seq #[.int (b : Nat) t1, .str ⟨#[c]⟩ t2] → PairAt h (.ref q) (b, c) := fun q b c t1 t2 o e h1 h2 => ⟨q, t1, t2, rfl, o, X _ _ e, h1, _, h2⟩
  have tu : ∀ (q : Addr) (vs : List Value) (o : Obj), (hd.heap_39 w.params).lookup q = some o → o.cls = .type "tuple" → o.data = .seq vs.toArray → IsTup h q vs.toArray := fun q vs o e h1 h2 => ⟨o, X _ _ e, h1, _, h2⟩
  refine ⟨_, tu _ _ _ (by k_is) rfl rfl, ?_⟩
  repeat' (first | exact .nil | refine .cons ⟨_, rfl, tab_of (tu _ _ _ (by k_is) rfl rfl) ?_⟩ ?_ | refine .cons (pr _ _ _ _ _ _ (by k_is) rfl rfl) ?_)

theorem strs_vals {vs : List Value} {ss : List Str} (h : StrsAre vs ss) : ∃ l : List (Str × Tok), vs = strValues l ∧ l.map (·.1) = ss := by
  induction h with
  | nil => exact ⟨[], rfl, rfl⟩
  | cons y t _ ih => obtain ⟨l, rfl, rfl⟩ := ih; exact ⟨(y, t) :: l, rfl, rfl⟩
theorem join_chars (c0 c1 c2 c3 c4 c5 c6 c7 c8 c9 : Nat) : Txt.join (Str.ofString "") ([c0, c1, c2, c3, c4, c5, c6, c7, c8, c9].map fun c => (⟨#[c]⟩ : Str)) = ⟨#[c0, c1, c2, c3, c4, c5, c6, c7, c8, c9]⟩ := by
  rw [show Str.ofString "" = ⟨#[]⟩ from by decide +kernel]
  rfl
theorem join_fm (n : Nat) : Txt.join (Str.ofString "") ((fmChars n).map fun c => (⟨#[c]⟩ : Str)) = ⟨(fmChars n).toArray⟩ := join_chars _ _ _ _ _ _ _ _ _ _
theorem pick_hit {z : Bool} {n b c j : Nat} {tab : List (Nat × Nat)} (ht : tab[j]? = some (b, c)) (hno : ∀ q ∈ tab.take j, fmHit z n q.1 = false) (hb : fmHit z n b = true) : fmPick z n tab = c := by
  have : tab.find? (fun q => fmHit z n q.1) = some (b, c) := by
    rw [List.find?_eq_some_iff_append]
    refine ⟨hb, tab.take j, tab.drop (j + 1), ?_, fun q hq => by simp [hno q hq]⟩
    obtain ⟨hl, he⟩ := List.getElem?_eq_some_iff.mp ht
    rw [← he, List.getElem_cons_drop, List.take_append_drop]
  simp [fmPick, this]
theorem pick_none {z : Bool} {n : Nat} {tab : List (Nat × Nat)} (hno : ∀ q ∈ tab, fmHit z n q.1 = false) : fmPick z n tab = if z then 63 else 45 := by
  have : tab.find? (fun q => fmHit z n q.1) = none := by
    rw [List.find?_eq_none]
    intro q hq
    simp [hno q hq]
  simp [fmPick, this]
theorem chars_get {n i : Nat} {tab : List (Nat × Nat)} (h : fmTabs[i]? = some tab) : (fmChars n)[i]? = some (fmPick (i == 0) n tab) := by
  cases i with
  | zero => simp [fmTabs] at h; subst h; rfl
  | succ i =>
    have h' : fmTabs.tail[i]? = some tab := by simpa using h
    show (fmTabs.tail.map (fmPick false n))[i]? = _
    rw [List.getElem?_map, h']
    simp
theorem chars_take {n i : Nat} {tab : List (Nat × Nat)} (h : fmTabs[i]? = some tab) {c : Nat} (hc : fmPick (i == 0) n tab = c) : ((fmChars n).take (i + 1)).map (fun c => (⟨#[c]⟩ : Str)) = ((fmChars n).take i).map (fun c => (⟨#[c]⟩ : Str)) ++ [⟨#[c]⟩] := by
  rw [List.take_add_one, chars_get h, hc]
  simp
theorem pick_q {i n : Nat} {tab : List (Nat × Nat)} (hi : (i : Int) = 0) (hno : ∀ q ∈ tab, fmHit (i == 0) n q.1 = false) : fmPick (i == 0) n tab = 63 := by
  rw [pick_none hno]
  have : i = 0 := by omega
  simp [this]
theorem pick_m {i n : Nat} {tab : List (Nat × Nat)} (hi : (i : Int) ≠ 0) (hno : ∀ q ∈ tab, fmHit (i == 0) n q.1 = false) : fmPick (i == 0) n tab = 45 := by
  rw [pick_none hno]
  have : i ≠ 0 := by omega
  simp [this]
theorem str_q : Str.ofString "?" = ⟨#[63]⟩ := by decide +kernel
theorem str_m : Str.ofString "-" = ⟨#[45]⟩ := by decide +kernel
theorem hit0 {i n b : Nat} (hi : (i : Int) = 0) (hb : ((n &&& 61440 : Nat) : Int) = (b : Int)) : fmHit (i == 0) n b = true := by
  have h1 : i = 0 := by omega
  have h2 : n &&& 61440 = b := by omega
  subst h1
  simp [fmHit, h2]
theorem miss0 {i n b : Nat} (hi : (i : Int) = 0) (hb : ((n &&& 61440 : Nat) : Int) ≠ (b : Int)) : fmHit (i == 0) n b = false := by
  have h1 : i = 0 := by omega
  have h2 : n &&& 61440 ≠ b := by omega
  subst h1
  simp [fmHit, h2]
theorem hit1 {i n b : Nat} (hi : (i : Int) ≠ 0) (hb : Builtin.bitAnd (n : Int) (b : Int) = (b : Int)) : fmHit (i == 0) n b = true := by
  rw [bitAnd_nat] at hb
  have h1 : i ≠ 0 := by omega
  have h2 : n &&& b = b := by omega
  simp [fmHit, h1, h2]
theorem miss1 {i n b : Nat} (hi : (i : Int) ≠ 0) (hb : Builtin.bitAnd (n : Int) (b : Int) ≠ (b : Int)) : fmHit (i == 0) n b = false := by
  rw [bitAnd_nat] at hb
  have h1 : i ≠ 0 := by omega
  have h2 : n &&& b ≠ b := by omega
  simp [fmHit, h1, h2]
theorem take_no {z : Bool} {n b c j : Nat} {tab : List (Nat × Nat)} (ht : tab[j]? = some (b, c)) (hno : ∀ q ∈ tab.take j, fmHit z n q.1 = false) (hb : fmHit z n b = false) : ∀ q ∈ tab.take (j + 1), fmHit z n q.1 = false := by
  intro q hq
  rw [List.take_add_one, ht] at hq
  rcases List.mem_append.mp hq with hq | hq
  · exact hno q hq
  · simp at hq; subst hq; exact hb
local macro_rules | `(tactic| k_steps) => `(tactic| repeat' (first | ((fail_if_success ((with_reducible show wpAny _ _ (eval (Expr.ListComp _ _ _ _) _) _ _ _))); (fail_if_success ((with_reducible show wpAny _ _ (call (Value.type "zip") _) _ _ _))); (fail_if_success ((with_reducible show wpAny _ _ (exec (Stmt.For _ _ _ _ _) _) _ _ _))); (fail_if_success ((with_reducible show wpAny _ _ (call (Value.type "enumerate") _) _ _ _))); first | (k_unfold; (try dsimp only)) | (k_end; wrow_close) | walk1 | (dsimp only; walk1) | (leave1; walk_say "STEP leave1"; try dsimp only) | fail "no step")))
local macro_rules | `(tactic| walk_at "eval Name") => `(tactic| (name_kind "local"; first | refine ld (by assumption) (by rfl) ?_ | refine ld (by assumption) (by assumption) ?_))
local macro_rules | `(tactic| walk_at "call ref") => `(tactic| ((with_reducible show wpAny _ _ (call (Value.ref 70) [Value.int _ _]) _ _ _); k_dflt (refine' ifmt_call ?F ?N ?X ?T ?d ?_; (case F => k_asm); (case N => k_asm); (case X => k_asm); (case T => k_asm); (case d => omega); k_whole); intro h' tk' t' F' N'; (try dsimp only); (try k_sweep)))
section
variable {prog : Program} {A : Around} {w : World} {E : Value → Shared → Prop} {s : Shared} {h₀ : Heap} {L D : Addr} {m : Str → Option Value} {news : List (Addr × Obj)} {its : Array Value} {n : Nat} {g : Obj → List (Addr × Obj)}
theorem m_append {x : Value} {Q : Value → Shared → Prop} (F : Fr h₀ L s.heap m) (N : News h₀ L s.heap news) (U : UpdF D (PySem.W.listOf its n) news g)
    (h : ∀ h' n', Fr h₀ L h' m → News h₀ L h' (g (PySem.W.listOf (its.push x) n')) → Q .none { s with heap := h' }) (hsz : its.size ≤ sizeLine) :
    wpAny (model prog w) A (call (.builtin "list.append") [.ref D, x]) Q E s := by
  obtain ⟨pre, post, rfl, hg, a, c⟩ := U.split
  have hD := N (D, PySem.W.listOf its n) (List.mem_append_right _ (.head _))
  refine append_at hD.1 (fun h' hs e => h h' (n + 1) (fr_same F (news_sub N fun p hp => List.mem_append_right _ hp) hs.extBut) ?_) hsz
  rw [hg]
  intro p hp
  rcases List.mem_append.mp hp with hp | hp
  · have z := N p (List.mem_append_left _ hp)
    exact ⟨hs.extBut _ _ (a p hp) z.1, z.2⟩
  · rcases List.mem_cons.mp hp with rfl | hp
    · exact ⟨e, hD.2⟩
    · have z := N p (List.mem_append_right _ (.tail _ hp))
      exact ⟨hs.extBut _ _ (c p hp) z.1, z.2⟩
end
local macro_rules | `(tactic| walk_at "call builtin:list.append") => `(tactic| (k_here; (with_reducible show wpAny _ _ (call (Value.builtin _) [Value.ref _, _]) _ _ _); k_dflt (refine' m_append ?F ?N ?U ?_ ?z; (case F => k_asm); (case N => k_asm); (case U => k_updF); (case z => first | (simp only [List.size_toArray, sizeLine_eq]; omega) | (simp only [sizeLine_eq]; omega) | size_fits)); intro h' n' F' N'; (try dsimp only at N'); (try k_sweep)))
section
variable {w : World} {mg mb : Str → Option Value} {p : Program} {loose : List Str} {mean : ExcName → Option Value}
  {dp un : Nat} {fr : Option (List Env)} {gd : Option (List Code)} {s : Shared} {Q E : Value → Shared → Prop} {h₀ : Heap} {L : Addr} {m : Str → Option Value} {news : List (Addr × Obj)}
theorem filemode_call {n : Nat} {u : Tok} (F₀ : Fr h₀ L s.heap m) (N₀ : News h₀ L s.heap news) (X₀ : (hd.heap_39 w.params).In h₀) (T₀ : Top p loose mean mg mb h₀) (hdp : dp + 6 < recursionLimit)
   (h : ∀ h' tk t, Fr h₀ L h' m → News h₀ L h' news → Q (.str ⟨(fmChars n).toArray⟩ t) { s with heap := h', toks := tk }) :
   wpAny (model PySem.Challenge.pw_tv0029_01 w) (aA dp fr gd un) (call (.ref 110) [.int n u]) Q E s := by
  have X := X₀.keeps F₀.keep
  have T := T₀.keeps F₀.keep
  refine enter X T (by k_is) (by k_is) (by omega) (BindsTo.of_eq rfl) (locs rfl) ?_ rfl rfl rfl (by decide)
  intro h₁ tk F N
  clear X₀ T₀
  k_steps
  rename_i P _ _ _ F' N'
  obtain ⟨vs, htabs, hvs⟩ := tabs_at X
  refine for_enum (h₀ := s.heap) rfl rfl rfl rfl ?_
  k_steps
  refine f_enum F' N' htabs fun e it h₂ F₂ N₂ l1 l2 => ?_
  clear F' N'
  k_lt l1; k_lt2 l2
  refine ⟨e, it, 103, vs.toArray, _, _, fun i m' news' => m' "mode" = some (.int n u) ∧ m' "perm" = some (.ref P) ∧ ∃ ys c, news' = [(P, PySem.W.listOf ys c)] ∧ ys.size = i ∧ StrsAre ys.toList (((fmChars n).take i).map fun c => ⟨#[c]⟩),
    rfl, htabs, Nat.ne_of_gt l2, F₂, N₂, ?_, ⟨rfl, rfl, _, _, rfl, rfl, .nil⟩, ?_, ?_⟩
  · intro p hp
    obtain rfl := List.mem_singleton.mp hp
    exact ⟨Nat.ne_of_lt (Nat.lt_trans l1 l2), Nat.ne_of_lt l1⟩
  · clear F₂ N₂
    rintro i v m' news' h₃ tk₃ tk₄ hv ⟨hm, hp, ys, c, rfl, hys, hs⟩ _ F₃ N₃
    obtain ⟨tab, htab, a, rfl, prs, hprs, hsz, hpr⟩ := paired_get hvs i v (by simpa using hv)
    have nePI : ∀ (o : Obj), ∀ p ∈ [(P, o)], p.1 ≠ e ∧ p.1 ≠ it := fun o p hp => by
      obtain rfl := List.mem_singleton.mp hp
      exact ⟨Nat.ne_of_lt (Nat.lt_trans l1 l2), Nat.ne_of_lt l1⟩
    have hi10 : i < 10 := by
      have hl := paired_len hvs
      have : i < vs.length := by simpa using (Array.getElem?_eq_some_iff.mp hv).1
      have e : fmTabs.length = 10 := rfl
      omega
    k_steps
    refine for_seq (h₀ := s.heap) rfl ?_
    walk1
    refine ⟨true, a, prs, _, _, fun j m₂ news₂ => m₂ "mode" = some (.int n u) ∧ m₂ "perm" = some (.ref P) ∧ m₂ "index" = some (.int i tk₄) ∧ (∀ q ∈ tab.take j, fmHit (i == 0) n q.1 = false) ∧ news₂ = [(e, enO .none it ((i + 1 : Nat) : Int) (.ref a)), (it, itO true 103 (i + 1)), (P, PySem.W.listOf ys c)],
      rfl, IsTup.keeps hprs F₃.keep, F₃, N₃, ⟨hm, hp, rfl, fun q hq => by simp at hq, rfl⟩, fun j m₂ news₂ h₄ _ F₄ _ => IsTup.keeps hprs F₄.keep, fun it2 k1 k2 => ⟨?_, ?_⟩⟩
    · clear F₃ N₃
      have k1' := k1
      k_lt k1
      rintro j v₂ m₂ news₂ h₄ tk₅ hv₂ ⟨hm₂, hp₂, hi₂, hno, rfl⟩ _ F₄ N₄
      obtain ⟨q, b, ch, t1, t2, rfl, htb, hq⟩ := hpr j v₂ hv₂
      refine assign_pair rfl F₄ N₄ (IsTup.keeps hq F₄.keep) rfl rfl rfl fun h₅ tk₆ F₅ N₅ => ?_
      clear F₄ N₄
      k_steps
      · rename_i hi0 _ _ _ _ hb _ _ F' N'
        dsimp only
        refine wpAny_execs_nil ?_
        exact ⟨_, _, _, _, rfl, F', news_sub N' fun p hp => .tail _ hp, nePI _, hm₂, hp₂, _, _, rfl, by rw [Array.size_push, hys], by rw [Array.toList_push, chars_take htab (pick_hit htb hno (hit0 hi0 hb))]; exact strs_snoc hs _ _⟩
      · rename_i hi0 _ _ _ F' N' hb
        exact ⟨_, _, _, _, rfl, F', N', fun p hp => Nat.ne_of_lt (k1' p hp), hm₂, hp₂, hi₂, take_no htb hno (miss0 hi0 hb), rfl⟩
      · rename_i hi0 _ hb _ _ _ F' N'
        dsimp only
        refine wpAny_execs_nil ?_
        exact ⟨_, _, _, _, rfl, F', news_sub N' fun p hp => .tail _ hp, nePI _, hm₂, hp₂, _, _, rfl, by rw [Array.size_push, hys], by rw [Array.toList_push, chars_take htab (pick_hit htb hno (hit1 hi0 hb))]; exact strs_snoc hs _ _⟩
      · rename_i hi0 _ hb
        exact ⟨_, _, _, _, rfl, F₅, N₅, fun p hp => Nat.ne_of_lt (k1' p hp), hm₂, hp₂, hi₂, take_no htb hno (miss1 hi0 hb), rfl⟩
    · clear F₃ N₃
      rintro m₂ news₂ h₄ tk₅ ⟨hm₂, hp₂, hi₂, hno, rfl⟩ F₄ N₄
      rw [hsz, List.take_length] at hno
      k_steps
      · rename_i hi0 _ _ _ F' N'
        exact ⟨_, _, _, _, rfl, F', N', nePI _, hm₂, hp₂, _, _, rfl, by rw [Array.size_push, hys], by rw [Array.toList_push, chars_take htab (pick_q hi0 hno), str_q]; exact strs_snoc hs _ _⟩
      · rename_i hi0 _ _ _ F' N'
        exact ⟨_, _, _, _, rfl, F', N', nePI _, hm₂, hp₂, _, _, rfl, by rw [Array.size_push, hys], by rw [Array.toList_push, chars_take htab (pick_m hi0 hno), str_m]; exact strs_snoc hs _ _⟩
  · clear F₂ N₂
    rintro m' news' h₃ tk₃ ⟨hm, hp, ys, c, rfl, hys, hs⟩ F₃ N₃
    have hvl : vs.toArray.size = 10 := by
      have hl := paired_len hvs
      have e : fmTabs.length = 10 := rfl
      simp only [List.size_toArray]
      omega
    rw [hvl, show (fmChars n).take 10 = fmChars n from rfl] at hs
    k_steps
    obtain ⟨l, hl, hls⟩ := strs_vals hs
    have hys' : ys = (strValues l).toArray := by rw [← hl]
    refine SC.join (l := l) ⟨_, (N₃ _ (.head _)).1, rfl, _, by rw [← hys']⟩ hls (joinOk_of_weight (by rw [List.map_map]; exact Nat.le_of_ble_eq_true rfl) (by decide)) fun t' k => ?_
    rw [join_fm]
    obtain ⟨F'', N'', _⟩ := back F₀ N₀ F₃ N₃
    exact h _ _ _ F'' (news_sub N'' fun p hp => List.mem_append_right _ hp)
end

section
variable {prog : Program} {w : World} {K : Frag} {mg mb : Str → Option Value} {p : Program} {loose : List Str} {mean : ExcName → Option Value}
  {dp un : Nat} {fr : Option (List Env)} {gd : Option (List Code)} {s : Shared}
  {name qual : Str} {params : Arguments} {body : List Stmt} {scope : Scope} {dV kV doc pm cdv ct oc : Value} {an od : Option Addr} {osl : Array (Option Value)} {f : Addr} {args : List Value} {binds : List (Str × Value)}
/-- a def with cells is entered, the ledger being passed -/
theorem enterC {h₀ : Heap} {L : Addr} {m : Str → Option Value} {news : List (Addr × Obj)} {R : Result → Shared → Prop} (F : Fr h₀ L s.heap m) (N : News h₀ L s.heap news) (X₀ : K.In h₀) (T : Top p loose mean mg mb h₀)
    (ho : K.lookup f = some ⟨oc, od, .func (fnOf name qual params body scope dV kV doc pm an cdv ct), osl⟩) (hcd : codeIn K cdv qual = true) (hroom : dp < recursionLimit)
    (hbind : BindsTo s (fnOf name qual params body scope dV kV doc pm an cdv ct) ⟨args, []⟩ binds) (hkind : (binds.all fun y => scope.names.lookup y.1 == some .local || scope.names.lookup y.1 == some .cell) = true)
    (hnd : ((cellsFrom 0 scope.names []).map (·.1)).Nodup)
    (h : ∀ g h₁ tk cells, Fr h₀ L g m → Fr g s.heap.objs.size h₁ (bindL (envOfC qual scope s.heap.objs.size f cdv).kindOf binds fun _ => none) → News g s.heap.objs.size h₁ (cells ++ news) →
      CellsAre (bindC (envOfC qual scope s.heap.objs.size f cdv).kindOf binds fun _ => none) (cellsFrom (s.heap.objs.size + 1) scope.names []) cells → K.In g → Top p loose mean mg mb g → (∀ b o, s.heap.get? b = some o → b ∉ news.map (·.1) → g.get? b = some o) → (∀ p ∈ news, p.1 < s.heap.objs.size) →
      wpAny (model prog w) (aA (dp + 1) (fr.map (envOfC qual scope s.heap.objs.size f cdv :: ·)) gd (un + 3)) (execs body (envOfC qual scope s.heap.objs.size f cdv))
        (fun fl s' => LeaveK h₀ L m g R (match fl with | .ret v => v | _ => .none) s') (fun _ _ => False) { s with heap := h₁, toks := tk })
    (hco : scope.isCoroutine = false) (hgen : scope.isGenerator = false) (hk : scope.kind = .function) :
    codeAny (model prog w) (aA dp fr gd un) (.call (.ref f) ⟨args, []⟩) R s := by
  have nm : ∀ b o, h₀.get? b = some o → b ∉ news.map (·.1) := fun b o e q => by
    obtain ⟨p, hp, rfl⟩ := List.mem_map.mp q
    rw [(N p hp).2.2] at e; cases e
  have st : h₀.StaysIn (hideAll s.heap (news.map (·.1))) := fun b o e => hideAll_get _ (F.keep b o e) (nm b o e)
  obtain ⟨oL, es, ep, hL, hLd, hLk, hLf⟩ := F.ns
  have nL : L ∉ news.map (·.1) := fun q => by
    obtain ⟨p, hp, e⟩ := List.mem_map.mp q
    exact (N p hp).2.1 e
  have hLg := hideAll_get (news.map (·.1)) hL nL
  refine codeAny_call_function hroom ((X₀.keeps F.keep) _ _ ho) rfl hco hgen rfl (codeRec_of (X₀.keeps F.keep) hcd) (hbind _ _ _ _ ?_)
  refine wpAny_newFunctionEnv_cells hk (kindsX hkind _) fun env' he s' x => ?_
  subst he
  refine ⟨(T.nolimit.keeps F.keep).keeps x.toInCall.keep, codeAny_func ?_⟩
  obtain ⟨h₁, tk, rfl, _⟩ := x.done
  have hk₁ := x.toInCall.keep
  obtain ⟨cells, NC, Y⟩ := Cl.news (h₀ := s.heap) (Nat.le_refl _) fun n c hm => ⟨x.cell n c (lookup_of_mem_nodup (cellsFrom_names scope.names 0 (s.heap.objs.size + 1) [] [] rfl ▸ hnd) hm), x.above n c hm⟩
  refine wpAny_mono (h _ h₁ tk cells ⟨⟨oL, es, ep, hLg, hLd, hLk, hLf⟩, st, F.above⟩ ⟨x.toInCall.ns, fun b o e => hk₁ b o (of_hideAll _ e), Nat.le_of_eq (hideAll_size _ _)⟩ (fun p hp => ?_) Y (X₀.keeps st) (T.keeps st) (fun b o e hb => hideAll_get _ e hb) (fun p hp => Heap.lt_size (N p hp).1)) (fun fl s' hl => ?_) fun _ _ y => y.elim
  · rcases List.mem_append.mp hp with hp | hp
    · refine ⟨(NC p hp).1, (NC p hp).2.1, ?_⟩
      cases q : (hideAll s.heap (news.map (·.1))).get? p.1 with
      | none => rfl
      | some o => have := of_hideAll _ q; rw [(NC p hp).2.2] at this; cases this
    · exact ⟨hk₁ _ _ (N p hp).1, Nat.ne_of_lt (Heap.lt_size (N p hp).1), hideAll_none _ (List.mem_map_of_mem hp)⟩
  · obtain ⟨L', m', news', F', N', k⟩ := hl
    refine k ⟨⟨oL, es, ep, F'.keep L oL hLg, hLd, hLk, hLf⟩, fun b o e => F'.keep b o (st b o e), F.above⟩ fun p hp => ⟨(N' p hp).1, fun q => ?_, ?_⟩
    · have := (N' p hp).2.2; rw [q, hLg] at this; cases this
    · cases q : h₀.get? p.1 with
      | none => rfl
      | some o => have := (N' p hp).2.2; rw [st _ _ q] at this; cases this
end
local macro_rules | `(tactic| walk_at "call ref") => `(tactic| ((with_reducible show wpAny _ _ (call (Value.ref 129) [Value.ref _]) _ _ _); k_dflt (refine' record_new ?F ?N ?X ?T ?d ?hl ?z ?_; (case F => k_asm); (case N => k_asm); (case X => k_asm); (case T => k_asm); (case d => omega); (case hl => first | exact News.get (by k_asm) (by k_mem) | exact Fr.keep (by k_asm) _ _ (by assumption)); (case z => first | decide | exact Nat.le_of_ble_eq_true rfl | omega); k_whole); intro u' r' x' dx' t1' t2' t3' t4' c' fz' h' tk' F' N' A' M1' M2' M3' M4'; (try dsimp only); (try k_sweep)))
theorem lt_ne {fz : List (Addr × Obj)} {d : Addr} (h : ∀ p ∈ fz, p.1 < d) : ∀ p ∈ fz, p.1 ≠ d := fun p hp => Nat.ne_of_lt (h p hp)
theorem all_memA {a b : List (Addr × Obj)} {P : Addr × Obj → Prop} (h : ∀ p ∈ a ++ b, P p) : (∀ p ∈ a, P p) ∧ ∀ p ∈ b, P p := ⟨fun p hp => h p (List.mem_append_left _ hp), fun p hp => h p (List.mem_append_right _ hp)⟩
theorem all_memC {a : Addr × Obj} {b : List (Addr × Obj)} {P : Addr × Obj → Prop} (h : ∀ p ∈ a :: b, P p) : P a ∧ ∀ p ∈ b, P p := ⟨h _ (.head _), fun p hp => h p (.tail _ hp)⟩
theorem all_memP {x d : Addr} {o : Obj} {l : List (Addr × Obj)} (h : ∀ p ∈ (x, o) :: l, p.1 < d) : @LT.lt Nat _ x d ∧ ∀ p ∈ l, p.1 < d := ⟨h _ (.head _), fun p hp => h p (.tail _ hp)⟩
theorem all_mem1 {x d : Addr} {o : Obj} (h : ∀ p ∈ [(x, o)], p.1 < d) : @LT.lt Nat _ x d := h _ (.head _)
theorem all_memQ {d : Addr} {a b : List (Addr × Obj)} (h : ∀ p ∈ a ++ b, p.1 < d) : (∀ p ∈ a, p.1 < d) ∧ ∀ p ∈ b, p.1 < d := all_memA h
local macro_rules | `(tactic| k_lt $h) => `(tactic| ((first | have q' := (all_memP $h).1 | have q' := (all_memQ $h).1); (first | replace $h := (all_memP $h).2 | replace $h := (all_memQ $h).2); (repeat (first | replace $h := all_mem1 $h | ((first | have q' := (all_memP $h).1 | have q' := (all_memQ $h).1); (first | replace $h := (all_memP $h).2 | replace $h := (all_memQ $h).2))))))
local macro_rules | `(tactic| k_all) => `(tactic| (refine' lt_ne ?a; (case a => assumption)))

/-- the lambda that _law_rule makes, as read off the def's own body in the written part -/
def lamParts (K : Frag) : Option (Arguments × Expr × Scope × Pos) := match K.lookup 136 with
  | some ⟨_, _, .func fd, _⟩ => match fd.body with
    | .stmts [_, _, .Assign _ (.Lambda p b sc pos) _, _, _] => some (p, b, sc, pos)
    | _ => none
  | _ => none
def lamQual : Str := ((("_law_rule" : Str) ++ ".<locals>.") ++ "<lambda>")
noncomputable def lamObj (P : Params) (cw cr c' : Addr) (pm ctv : Value) : Obj := match lamParts (hd.heap_39 P) with
  | some (p, b, sc, _) => kla_obj "<lambda>" lamQual p b sc [("who", cw), ("reach", cr)] pm c' ctv
  | none => default
noncomputable def lamTab (P : Params) (c' : Addr) : Array Value := match lamParts (hd.heap_39 P) with
  | some (_, _, _, pos) => #[rawInt pos.line, rawInt pos.col, .ref c']
  | none => #[]
abbrev ruleD (P : Params) (t1 t2 t3 t4 t5 t6 : Tok) (u r f : Addr) (v : Value) : List DictEntry :=
  entD P t1 t2 t3 t4 u r ++ [⟨PyData.keyHash P (Str.ofString "applies_to"), .str (Str.ofString "applies_to") t5, .ref f⟩, ⟨PyData.keyHash P (Str.ofString "allowance"), .str (Str.ofString "allowance") t6, v⟩]
structure RuleIn (P : Params) (fz : List (Addr × Obj)) (x : Addr) (agent : Str) (reach : Int) (verdict : Str) (c' : Addr) : Prop where
  body : ∃ dx t1 t2 t3 t4 t5 t6 u r f cw cr pm ctv tv, (x, instObj 52 dx) ∈ fz ∧ (dx, dictOf (ruleD P t1 t2 t3 t4 t5 t6 u r f (.str verdict tv)) 6) ∈ fz ∧ (f, lamObj P cw cr c' pm ctv) ∈ fz ∧
    ∃ ow or tr wx wd wt1 wt2 wt3 wt4 wu wr ta cc, (cw, ow) ∈ fz ∧ ow.data = .cell (some (.ref wx)) ∧ (cr, or) ∈ fz ∧ or.data = .cell (some (.int reach tr)) ∧ (wx, instObj 52 wd) ∈ fz ∧ (wd, dictOf (entD P wt1 wt2 wt3 wt4 wu wr) 4) ∈ fz ∧ (wu, PySem.W.listOf #[.str agent ta] cc) ∈ fz
def CodeIn (fz : List (Addr × Obj)) (c' : Addr) : Prop := ∃ oc vs t, (c', oc) ∈ fz ∧ oc.data = .fields vs ∧ vs[1]? = some (.str lamQual t)
theorem sub_cons {q : Addr × Obj} {a b : List (Addr × Obj)} (h : ∀ p ∈ a, p ∈ b) : ∀ p ∈ q :: a, p ∈ q :: b := fun p hp => by
  rcases List.mem_cons.mp hp with rfl | hp
  · exact .head _
  · exact .tail _ (h p hp)
theorem sub_app {c a b : List (Addr × Obj)} (h : ∀ p ∈ a, p ∈ b) : ∀ p ∈ c ++ a, p ∈ c ++ b := fun p hp => by
  rcases List.mem_append.mp hp with hp | hp
  · exact List.mem_append_left _ hp
  · exact List.mem_append_right _ (h p hp)
theorem sub_nil {b : List (Addr × Obj)} : ∀ p ∈ ([] : List (Addr × Obj)), p ∈ b := fun _ h => nomatch h
theorem news_front {h₀ h : Heap} {L : Addr} {q : Addr × Obj} {a b : List (Addr × Obj)} (N : News h₀ L h b) (hq : q ∈ b) (hs : ∀ p ∈ a, p ∈ b) : News h₀ L h (q :: a) := news_sub N fun p hp => by
  rcases List.mem_cons.mp hp with rfl | hp
  · exact hq
  · exact hs p hp
section
variable {w : World} {mg mb : Str → Option Value} {p : Program} {loose : List Str} {mean : ExcName → Option Value}
  {dp un : Nat} {fr : Option (List Env)} {gd : Option (List Code)} {s : Shared} {Q E : Value → Shared → Prop} {h₀ : Heap} {L : Addr} {m : Str → Option Value} {news : List (Addr × Obj)}
theorem mem_f {h : Heap} {ps : Array Value} {full : List (Addr × Obj)} {a : Addr} {o : Obj} (N : News h₀ L h full) (ht : (131, tabObj ps) ∈ full) (hm : (a, o) ∈ full) (hd : o ≠ tabObj ps) : (a, o) ∈ full.filter (fun p => p.1 != 131) := by
  refine List.mem_filter.mpr ⟨hm, ?_⟩
  rw [bne_iff_ne]
  intro e
  have h1 := (N _ hm).1
  have h2 := (N _ ht).1
  have e' : a = 131 := e
  rw [e', h2] at h1
  exact hd (Option.some.inj h1).symm
theorem cls_ne {o : Obj} {ps : Array Value} (h : o.cls ≠ .none) : o ≠ tabObj ps := fun e => h (by rw [e])
theorem cell_ne {o : Obj} {ps : Array Value} {v : Option Value} (h : o.data = .cell v) : o ≠ tabObj ps := fun e => by rw [e] at h; cases h
theorem lam_cls (P : Params) (cw cr c' : Addr) (pm ctv : Value) : (lamObj P cw cr c' pm ctv).cls = .type "function" := rfl
theorem rule_end {g h' : Heap} {L' : Addr} {m' : Str → Option Value} {full : List (Addr × Obj)} {tk' : Nat} {agent verdict : Str} {reach : Int} {x dx u r f cw cr wx wd wu wr c' : Addr} {pm ctv : Value} {t1 t2 t3 t4 t5 t6 tv tr wt1 wt2 wt3 wt4 ta : Tok} {ow or : Obj} {cc : Nat} {ks : List Addr}
    (F' : Fr g L' h' m') (N' : News g L' h' full) (kF : Fr h₀ L h' m) (kN : News h₀ L h' full) (keep : ∀ b o, s.heap.get? b = some o → b ∉ ks → g.get? b = some o)
    (m0 : (131, tabObj (lamTab w.params c')) ∈ full) (m1 : (x, instObj 52 dx) ∈ full) (m2 : (dx, dictOf (ruleD w.params t1 t2 t3 t4 t5 t6 u r f (.str verdict tv)) 6) ∈ full) (m3 : (f, lamObj w.params cw cr c' pm ctv) ∈ full)
    (m4 : (cw, ow) ∈ full) (d4 : ow.data = .cell (some (.ref wx))) (m5 : (cr, or) ∈ full) (d5 : or.data = .cell (some (.int reach tr)))
    (m6 : (wx, instObj 52 wd) ∈ full) (m7 : (wd, dictOf (entD w.params wt1 wt2 wt3 wt4 wu wr) 4) ∈ full) (m8 : (wu, PySem.W.listOf #[.str agent ta] cc) ∈ full) (hks : ks = [131])
    (h : ∀ fz, News h₀ L h' ((131, tabObj (lamTab w.params c')) :: fz) → (∀ b o, b ≠ 131 → s.heap.get? b = some o → h'.get? b = some o ∧ ∀ p ∈ fz, p.1 ≠ b) → (∀ p ∈ fz, p.1 ≠ 131) → RuleIn w.params fz x agent reach verdict c' → (∀ oc vs t, (c', oc) ∈ full → oc.data = .fields vs → vs[1]? = some (.str lamQual t) → CodeIn fz c') → Q (.ref x) { s with heap := h', toks := tk' }) :
    Q (.ref x) { s with heap := h', toks := tk' } := by
  subst hks
  refine h (full.filter (fun p => p.1 != 131)) (news_front kN m0 fun p hp => (List.mem_filter.mp hp).1) (fun b o hb e => ?_) (fun p hp => bne_iff_ne.mp (List.mem_filter.mp hp).2) ⟨dx, t1, t2, t3, t4, t5, t6, u, r, f, cw, cr, pm, ctv, tv, mem_f kN m0 m1 (cls_ne (by simp)), mem_f kN m0 m2 (cls_ne (by simp)), mem_f kN m0 m3 (cls_ne (by rw [lam_cls]; simp)), ow, or, tr, wx, wd, wt1, wt2, wt3, wt4, wu, wr, ta, cc,
    mem_f kN m0 m4 (cell_ne d4), d4, mem_f kN m0 m5 (cell_ne d5), d5, mem_f kN m0 m6 (cls_ne (by simp)), mem_f kN m0 m7 (cls_ne (by simp)), mem_f kN m0 m8 (cls_ne (by simp))⟩ ?_
  · have gk := keep b o e (by simpa using hb)
    refine ⟨F'.keep _ _ gk, fun p hp q => ?_⟩
    have n := (N' p (List.mem_filter.mp hp).1).2.2
    rw [q, gk] at n; cases n
  · intro oc vs t hm hd hv
    refine ⟨oc, vs, t, mem_f kN m0 hm (fun e => ?_), hd, hv⟩
    rw [e] at hd
    cases hd
    revert hv
    unfold lamTab
    split
    · simp [rawInt]
    · simp
theorem rule_first {agent verdict : Str} {ta tv tr : Tok} {reach : Int} (F₀ : Fr h₀ L s.heap m) (N₀ : News h₀ L s.heap [(131, tabObj #[])]) (X₀ : (hd.heap_39 w.params).In h₀) (T₀ : Top p loose mean mg mb h₀) (C₀ : CodeHd h₀ 135 131) (hdp : dp + 6 < recursionLimit)
   (h : ∀ x c' fz h' tk', Fr h₀ L h' m → News h₀ L h' ((131, tabObj (lamTab w.params c')) :: fz) → (∀ b o, b ≠ 131 → s.heap.get? b = some o → h'.get? b = some o ∧ ∀ p ∈ fz, p.1 ≠ b) → (∀ p ∈ fz, p.1 ≠ 131) →
     RuleIn w.params fz x agent reach verdict c' → CodeIn fz c' → Q (.ref x) { s with heap := h', toks := tk' }) :
   wpAny (model PySem.Challenge.pw_tv0029_01 w) (aA dp fr gd un) (call (.ref 136) [.str agent ta, .int reach tr, .str verdict tv]) Q E s := by
  refine wpAny_call ?_
  refine enterC (dp := dp) (fr := fr) (gd := gd) (un := un) F₀ N₀ X₀ T₀ (by k_is) (by k_is) (by omega) (BindsTo.of_eq rfl) rfl (by decide +kernel) ?_ rfl rfl rfl
  intro g h₁ tk cells FG F N Y X T keep l1
  have C := C₀.keeps FG.keep
  k_lt l1
  k_cells Y
  simp only [List.cons_append, List.nil_append] at N
  k_steps
  rename_i F' N' kF kN _ _
  simp only [Array.empty_append] at N' kN
  refine' rule_end F' N' kF kN keep ?m0 ?m1 ?m2 ?m3 ?m4 ?d4 ?m5 ?d5 ?m6 ?m7 ?m8 rfl fun fz hn hk hne hr hc => h _ _ fz _ _ kF hn hk hne hr (hc _ _ _ ?mc (by assumption) (by assumption))
  case m1 => k_mem
  case m3 => k_mem
  case m0 => k_mem
  case m2 => k_mem
  case m4 => k_mem
  case d4 => assumption
  case m5 => k_mem
  case d5 => assumption
  case m6 => k_mem
  case m7 => k_mem
  case m8 => k_mem
  case mc => k_mem
theorem rule_again {c' : Addr} {agent verdict : Str} {ta tv tr : Tok} {reach : Int} (F₀ : Fr h₀ L s.heap m) (N₀ : News h₀ L s.heap [(131, tabObj (lamTab w.params c'))]) (X₀ : (hd.heap_39 w.params).In h₀) (T₀ : Top p loose mean mg mb h₀) (C₀ : CodeHd h₀ 135 131) (hdp : dp + 6 < recursionLimit)
   (h : ∀ x fz h' tk', Fr h₀ L h' m → News h₀ L h' ((131, tabObj (lamTab w.params c')) :: fz) → (∀ b o, b ≠ 131 → s.heap.get? b = some o → h'.get? b = some o ∧ ∀ p ∈ fz, p.1 ≠ b) → (∀ p ∈ fz, p.1 ≠ 131) →
     RuleIn w.params fz x agent reach verdict c' → Q (.ref x) { s with heap := h', toks := tk' }) :
   wpAny (model PySem.Challenge.pw_tv0029_01 w) (aA dp fr gd un) (call (.ref 136) [.str agent ta, .int reach tr, .str verdict tv]) Q E s := by
  rw [show lamTab w.params c' = #[rawInt ((112 : Nat) : Int), rawInt ((22 : Nat) : Int), .ref c'] from rfl] at N₀
  refine wpAny_call ?_
  refine enterC (dp := dp) (fr := fr) (gd := gd) (un := un) F₀ N₀ X₀ T₀ (by k_is) (by k_is) (by omega) (BindsTo.of_eq rfl) rfl (by decide +kernel) ?_ rfl rfl rfl
  intro g h₁ tk cells FG F N Y X T keep l1
  have C := C₀.keeps FG.keep
  k_lt l1
  k_cells Y
  simp only [List.cons_append, List.nil_append] at N
  k_steps
  rename_i F' N' kF kN _ _
  refine' rule_end F' N' kF kN keep ?m0 ?m1 ?m2 ?m3 ?m4 ?d4 ?m5 ?d5 ?m6 ?m7 ?m8 rfl fun fz hn hk hne hr _ => h _ fz _ _ kF hn hk hne hr
  case m1 => k_mem
  case m3 => k_mem
  case m0 => k_mem
  case m2 => k_mem
  case m4 => k_mem
  case d4 => assumption
  case m5 => k_mem
  case d5 => assumption
  case m6 => k_mem
  case m7 => k_mem
  case m8 => k_mem
end

theorem pick_lt (z : Bool) (n : Nat) (tab : List (Nat × Nat)) (h : tab.all (fun q => decide (q.2 < 128)) = true) : fmPick z n tab < 128 := by
  unfold fmPick
  split
  · rename_i q e
    have := List.mem_of_find?_eq_some e
    exact of_decide_eq_true (List.all_eq_true.mp h q this)
  · cases z <;> decide
theorem chars_lt (n : Nat) : ∀ c ∈ fmChars n, c < 128 := by
  intro c hc
  rcases List.mem_cons.mp hc with rfl | hc
  · exact pick_lt _ _ _ (by decide)
  · obtain ⟨tab, ht, rfl⟩ := List.mem_map.mp hc
    refine pick_lt _ _ _ ?_
    have : ∀ tab ∈ fmTabs.tail, tab.all (fun q => decide (q.2 < 128)) = true := by decide
    exact this tab ht
/-- the three chars of a mode's text from place k -/
def tri (n k : Nat) : Str := ⟨(((fmChars n).drop k).take 3).toArray⟩
theorem ex10 (n : Nat) : ∃ a b c d e f g h i j, fmChars n = [a, b, c, d, e, f, g, h, i, j] := ⟨_, _, _, _, _, _, _, _, _, _, rfl⟩
theorem sl14 (n : Nat) : Txt.slice ⟨(fmChars n).toArray⟩ (some 1) (some 4) = tri n 1 := by
  unfold tri; obtain ⟨a, b, c, d, e, f, g, h, i, j, e⟩ := ex10 n; rw [e]; rfl
theorem sl47 (n : Nat) : Txt.slice ⟨(fmChars n).toArray⟩ (some 4) (some 7) = tri n 4 := by
  unfold tri; obtain ⟨a, b, c, d, e, f, g, h, i, j, e⟩ := ex10 n; rw [e]; rfl
theorem sl7 (n : Nat) : Txt.slice ⟨(fmChars n).toArray⟩ (some 7) none = tri n 7 := by
  unfold tri
  obtain ⟨a, b, c, d, e, f, g, h, i, j, e⟩ := ex10 n
  rw [e]
  have hx : Builtin.Str.strSliceIndices (some 7) none 1 10 = [7, 8, 9] := by decide +kernel
  show (if ((1 : Int) == 1 && (Builtin.Str.strSliceIndices (some 7) none 1 10).length == 10) = true then _ else (⟨((Builtin.Str.strSliceIndices (some 7) none 1 10).filterMap (#[a, b, c, d, _, f, g, h, i, j][·]?)).toArray⟩ : Str)) = _
  rw [hx]
  rfl
theorem tri_size (n k : Nat) (hk : k ≤ 7) : 3 ≤ (tri n k).cps.size := by
  obtain ⟨a, b, c, d, e, f, g, h, i, j, e⟩ := ex10 n
  simp only [tri, e, List.size_toArray, List.length_take, List.length_drop, List.length_cons, List.length_nil]
  omega
theorem tri_ascii (n k : Nat) : (tri n k).cps.all (· < 128) = true := by
  simp only [tri, List.all_toArray]
  rw [List.all_eq_true]
  intro c hc
  exact decide_eq_true (chars_lt n c (List.mem_of_mem_drop (List.mem_of_mem_take hc)))
local macro_rules | `(tactic| walk_at "call ref") => `(tactic| ((with_reducible show wpAny _ _ (call (Value.ref 122) [Value.str _ _]) _ _ _); (simp only [sl14, sl47, sl7]); k_dflt (refine' letters_new ?F ?N ?X ?T ?d ?hy ?hb ?_; (case F => k_asm); (case N => k_asm); (case X => k_asm); (case T => k_asm); (case d => omega); (case hy => exact tri_size _ _ (by decide)); (case hb => exact tri_ascii _ _); k_whole); intro D' h' tk' vs' n' F' N' l1 S' l3 l4; (try k_lt l1); (try dsimp only); (try k_sweep)))
def EntIn (P : Params) (fz : List (Addr × Obj)) (x : Addr) (lets : List Str) : Prop := ∃ (d u r : Addr) (t1 t2 t3 t4 : Tok) (vs : List Value) (c c2 : Nat), (x, instObj 52 d) ∈ fz ∧ (d, dictOf (entD P t1 t2 t3 t4 u r) 4) ∈ fz ∧ (u, PySem.W.listOf (List.toArray vs) c) ∈ fz ∧ StrsAre vs lets ∧ (r, PySem.W.listOf #[] c2) ∈ fz
def RowIn (P : Params) (fz : List (Addr × Obj)) (v : Value) (row : Str × Nat × List Str) : Prop := ∃ (T x : Addr) (t tr : Tok), v = .ref T ∧ (T, ({ cls := .type "tuple", data := .seq #[.str row.1 t, .int (row.2.1 : Nat) tr, .ref x] } : Obj)) ∈ fz ∧ EntIn P fz x row.2.2
theorem swap12 {a b : Addr × Obj} {l : List (Addr × Obj)} : ∀ p ∈ b :: a :: l, p ∈ a :: b :: l := fun p hp => by
  rcases List.mem_cons.mp hp with rfl | hp
  · exact .tail _ (.head _)
  · rcases List.mem_cons.mp hp with rfl | hp
    · exact .head _
    · exact .tail _ (.tail _ hp)
theorem paired_snoc {α β : Type} {R : α → β → Prop} {l₁ : List α} {l₂ : List β} {a : α} {b : β} (h : Paired R l₁ l₂) (x : R a b) : Paired R (l₁ ++ [a]) (l₂ ++ [b]) := h.snoc x
theorem EntIn.mono {P : Params} {fz fz' : List (Addr × Obj)} {x : Addr} {lets : List Str} (h : EntIn P fz x lets) (hs : ∀ p ∈ fz, p ∈ fz') : EntIn P fz' x lets := by
  obtain ⟨d, u, r, t1, t2, t3, t4, vs, c, c2, m1, m2, m3, e, m4⟩ := h
  exact ⟨d, u, r, t1, t2, t3, t4, vs, c, c2, hs _ m1, hs _ m2, hs _ m3, e, hs _ m4⟩
theorem RowIn.mono {P : Params} {fz fz' : List (Addr × Obj)} {v : Value} {row : Str × Nat × List Str} (h : RowIn P fz v row) (hs : ∀ p ∈ fz, p ∈ fz') : RowIn P fz' v row := by
  obtain ⟨T, x, t, tr, e, m1, m2⟩ := h
  exact ⟨T, x, t, tr, e, hs _ m1, m2.mono hs⟩
theorem paired_imp {α β : Type} {R R' : α → β → Prop} {l₁ : List α} {l₂ : List β} (h : Paired R l₁ l₂) (hi : ∀ a b, R a b → R' a b) : Paired R' l₁ l₂ := by
  induction h with
  | nil => exact .nil
  | cons x _ ih => exact .cons (hi _ _ x) ih
abbrev letS (n k : Nat) : List Str := lettersOf isSign (Str.ofString "rwx") (tri n k)
def toldS (c1 c2 : Nat) : List (Str × Nat × Nat) := [("u1", 3, c1 % 9), ("u2", 3, c1 / 9 % 9), ("g0", 2, c2 % 8 + 1), ("g1", 2, c2 / 8 % 9), ("g2", 2, c2 / 72 % 9)]
def toldRow (c0 : Nat) (q : Str × Nat × Nat) : Option (Str × Nat × List Str) := if 0 < q.2.2 then some (q.1, q.2.1, (letS (q.2.2 - 1) 7).filter (fun x => decide (x ∈ letS c0 4))) else none
def midRows (c0 c1 c2 c4 : Nat) : List (Str × Nat × List Str) := if c4 % 3 = 0 then [("g0", 2, letS c0 4)] else (toldS c1 c2).filterMap (toldRow c0)
def rowsS (c0 c1 c2 c4 : Nat) : List (Str × Nat × List Str) := ("u0", 4, letS c0 1) :: (midRows c0 c1 c2 c4 ++ [((("" : Str), (1 : Nat), letS c0 7) : Str × Nat × List Str)])
def linesS (c0 c1 c2 c4 : Nat) : List (Str × Nat × List Str) := (rowsS c0 c1 c2 c4).drop (c4 / 3 % (rowsS c0 c1 c2 c4).length) ++ (rowsS c0 c1 c2 c4).take (c4 / 3 % (rowsS c0 c1 c2 c4).length)
def LinesMid (P : Params) (h₀ : Heap) (L R cl : Addr) (sg : Value) (rows : List (Str × Nat × List Str)) (s s' : Shared) : Prop := ∃ h' tk m' rv n fz, s' = { s with heap := h', toks := tk } ∧ Fr h₀ L h' m' ∧ News h₀ L h' ((R, PySem.W.listOf (List.toArray rv) n) :: fz) ∧
  (∀ p ∈ fz, p.1 ≠ R) ∧ m' "rows" = some (.ref R) ∧ m' "signs" = some sg ∧ m' "cells" = some (.ref cl) ∧ Paired (RowIn P fz) rv rows
local macro_rules | `(tactic| k_all) => `(tactic| assumption)
theorem fmod_nat (a b : Nat) : Int.fmod (a : Int) (b : Int) = ((a % b : Nat) : Int) := by
  rw [Int.fmod_eq_emod_of_nonneg _ (Int.natCast_nonneg b)]
  exact (Int.natCast_emod a b).symm
theorem fdiv_nat (a b : Nat) : Int.fdiv (a : Int) (b : Int) = ((a / b : Nat) : Int) := by
  rw [Int.fdiv_eq_ediv_of_nonneg _ (Int.natCast_nonneg b)]
  exact (Int.natCast_ediv a b).symm
def fnK (K : Frag) (a : Addr) : List Stmt × Scope := match K.lookup a with
  | some ⟨_, _, .func f, _⟩ => ((match f.body with | .stmts b => b | _ => []), f.scope)
  | _ => ([], default)
/-- the for statement over `told` in _law_lines -/
def toldFor (K : Frag) : Stmt := match (fnK K 143).1 with
  | _ :: _ :: _ :: .If _ _ (_ :: _ :: f :: _) _ :: _ => f
  | _ => .Pass ⟨0, 0, 0, 0⟩
theorem sub1 {c : Nat} (h : 0 < c) : (c : Int) - 1 = ((c - 1 : Nat) : Int) := by omega
theorem lets_le (y : Str) : (lettersOf isSign (Str.ofString "rwx") y).length ≤ 3 := by
  unfold lettersOf
  rw [List.length_map]
  refine Nat.le_trans (List.length_filter_le _ _) ?_
  rw [List.length_zip]
  exact Nat.le_trans (Nat.min_le_left _ _) (by decide +kernel)
theorem lets_1000 (y : Str) : (lettersOf isSign (Str.ofString "rwx") y).length ≤ 1000 := Nat.le_trans (lets_le y) (by decide)
theorem filemode_int {w : World} {mg mb : Str → Option Value} {p : Program} {loose : List Str} {mean : ExcName → Option Value}
    {dp un : Nat} {fr : Option (List Env)} {gd : Option (List Code)} {s : Shared} {Q E : Value → Shared → Prop} {h₀ : Heap} {L : Addr} {m : Str → Option Value} {news : List (Addr × Obj)}
    {i : Int} {n : Nat} {u : Tok} (F₀ : Fr h₀ L s.heap m) (N₀ : News h₀ L s.heap news) (X₀ : (hd.heap_39 w.params).In h₀) (T₀ : Top p loose mean mg mb h₀) (hdp : dp + 6 < recursionLimit) (hi : i = (n : Nat))
   (h : ∀ h' tk t, Fr h₀ L h' m → News h₀ L h' news → Q (.str ⟨(fmChars n).toArray⟩ t) { s with heap := h', toks := tk }) :
   wpAny (model PySem.Challenge.pw_tv0029_01 w) (aA dp fr gd un) (call (.ref 110) [.int i u]) Q E s := by
  subst hi
  exact filemode_call F₀ N₀ X₀ T₀ hdp h
local macro_rules | `(tactic| walk_at "call ref") => `(tactic| ((with_reducible show wpAny _ _ (call (Value.ref 110) [Value.int _ _]) _ _ _); k_dflt (refine' filemode_int ?F ?N ?X ?T ?d ?i ?_; (case F => k_asm); (case N => k_asm); (case X => k_asm); (case T => k_asm); (case d => omega); (case i => first | exact rfl | exact sub1 (by omega)); k_whole); intro h' tk' t' F' N'; (try dsimp only); (try k_sweep)))
local macro_rules | `(tactic| walk_at "call ref") => `(tactic| ((with_reducible show wpAny _ _ (call (Value.ref 63) [Value.ref _, Value.ref _]) _ _ _); k_dflt (refine' merge_new (by k_asm) (by k_asm) (by k_asm) (by k_asm) (by omega) (by first | exact News.get (by k_asm) (by k_mem) | exact Fr.keep (by k_asm) _ _ (by assumption)) (by first | exact News.get (by k_asm) (by k_mem) | exact Fr.keep (by k_asm) _ _ (by assumption)) (by first | exact News.get (by k_asm) (by k_mem) | exact Fr.keep (by k_asm) _ _ (by assumption)) (by first | exact News.get (by k_asm) (by k_mem) | exact Fr.keep (by k_asm) _ _ (by assumption)) (by first | exact News.get (by k_asm) (by k_mem) | exact Fr.keep (by k_asm) _ _ (by assumption)) (by first | exact News.get (by k_asm) (by k_mem) | exact Fr.keep (by k_asm) _ _ (by assumption)) (by first | exact News.get (by k_asm) (by k_mem) | exact Fr.keep (by k_asm) _ _ (by assumption)) (by first | exact News.get (by k_asm) (by k_mem) | exact Fr.keep (by k_asm) _ _ (by assumption)) (by first | assumption | exact .nil) (by first | assumption | exact .nil) (by first | exact lets_1000 _ | assumption | decide) (by first | exact lets_1000 _ | assumption | decide) (by first | decide | assumption | (simp only [List.length_take, List.length_drop]; omega)) (by first | decide | assumption | (simp only [List.length_take, List.length_drop]; omega)) ?_; k_whole); intro u' r' x' dx' t1' t2' t3' t4' c1' c2' vs' fz' h' tk' F' N' A' M1' M2' M3' S' M4'; (try dsimp only); (try k_sweep)))
section
variable {w : World} {mg mb : Str → Option Value} {p : Program} {loose : List Str} {mean : ExcName → Option Value}
  {dp un : Nat} {fr : Option (List Env)} {gd : Option (List Code)} {s : Shared} {Q E : Value → Shared → Prop} {h₀ : Heap} {L : Addr} {m : Str → Option Value} {news : List (Addr × Obj)}
theorem shuffle5 {a b x d : Addr × Obj} {f g r : List (Addr × Obj)} : ∀ p ∈ a :: b :: x :: (f ++ (g ++ d :: r)), p ∈ x :: (f ++ (g ++ d :: a :: b :: r)) := by
  intro p hp
  simp only [List.mem_cons, List.mem_append] at hp ⊢
  rcases hp with h | h | h | h | h | h | h <;> simp [h]
def ToldIn (fz : List (Addr × Obj)) (v : Value) (q : Str × Nat × Nat) : Prop := ∃ (T : Addr) (t1 t2 t3 : Tok), v = .ref T ∧ (T, ({ cls := .type "tuple", data := .seq #[.str q.1 t1, .int (q.2.1 : Nat) t2, .int (q.2.2 : Nat) t3] } : Obj)) ∈ fz
theorem told_loop {R xm l : Addr} {c0 n nl : Nat} {rv vs : List Value} {fz : List (Addr × Obj)} {rows : List (Str × Nat × List Str)} {told : List (Str × Nat × Nat)} {sg : Value} {cl : Addr} {FQ : Flow → Shared → Prop}
   (F : Fr h₀ L s.heap m) (N : News h₀ L s.heap ((R, PySem.W.listOf (List.toArray rv) n) :: fz)) (X : (hd.heap_39 w.params).In h₀) (T : Top p loose mean mg mb h₀) (hdp : dp + 11 < recursionLimit)
   (ne : ∀ p ∈ fz, p.1 ≠ R) (ht : m "told" = some (.ref l)) (hmk : m "mask" = some (.ref xm)) (hR : m "rows" = some (.ref R)) (hsg : m "signs" = some sg) (hcl : m "cells" = some (.ref cl))
   (hl : (l, PySem.W.listOf (List.toArray vs) nl) ∈ fz) (hv : Paired (ToldIn fz) vs told) (EM : EntIn w.params fz xm (letS c0 4)) (R0 : Paired (RowIn w.params fz) rv rows) (hlen : rv.length = 1) (htl : told.length ≤ 10)
   (h : ∀ rv' n' fz' m' h' tk, Fr h₀ L h' m' → News h₀ L h' ((R, PySem.W.listOf (List.toArray rv') n') :: fz') → (∀ p ∈ fz', p.1 ≠ R) → m' "rows" = some (.ref R) → m' "signs" = some sg → m' "cells" = some (.ref cl) →
     Paired (RowIn w.params fz') rv' (rows ++ told.filterMap (toldRow c0)) → FQ .next { s with heap := h', toks := tk }) :
   wpAny (model PySem.Challenge.pw_tv0029_01 w) (aA dp fr gd un) (exec (toldFor (hd.heap_39 w.params)) (envOf "_law_lines" (fnK (hd.heap_39 w.params) 143).2 L 143 (.ref 142))) FQ (fun _ _ => False) s := by
  show wpAny _ _ (exec (Stmt.For _ _ _ _ _) (envOf _ (Scope.mk _ _ _ _ _) _ _ _)) _ _ _
  refine for_seq (h₀ := h₀) rfl ?_
  walk1
  refine ⟨false, l, _, m, _, fun i m' news' => ∃ rv' n' fz', news' = (R, PySem.W.listOf (List.toArray rv') n') :: fz' ∧ (∀ p ∈ fz', p.1 ≠ R) ∧ (∀ p ∈ fz, p ∈ fz') ∧ m' "mask" = some (.ref xm) ∧ m' "rows" = some (.ref R) ∧ m' "signs" = some sg ∧ m' "cells" = some (.ref cl) ∧ Paired (RowIn w.params fz') rv' (rows ++ (told.take i).filterMap (toldRow c0)) ∧ rv'.length ≤ 1 + i,
    rfl, ⟨_, (N _ (.tail _ hl)).1, rfl, _, rfl⟩, F, N, ⟨rv, n, fz, rfl, ne, fun _ hp => hp, hmk, hR, hsg, hcl, by simpa using R0, by omega⟩, ?_, fun it k1 k2 => ⟨?_, ?_⟩⟩
  · rintro i m' news' h' ⟨rv', n', fz', rfl, _, hs, _⟩ F' N'
    exact ⟨_, (N' _ (.tail _ (hs _ hl))).1, rfl, _, rfl⟩
  · rintro i v m' news' h' tk hiv ⟨rv', n', fz', rfl, ne', hs, hmk', hR', hsg', hcl', R', len'⟩ nit F' N'
    obtain ⟨q, hq, Tq, t1, t2, t3, rfl, hT⟩ := paired_get hv i v (by simpa using hiv)
    refine assign_triple rfl F' N' ⟨_, (N' _ (.tail _ (.tail _ (hs _ hT)))).1, rfl, _, rfl⟩ rfl rfl rfl rfl fun h₁ tk₁ F₁ N₁ => ?_
    clear F' N' F N
    have nR := nit _ (.head _)
    have nfz : ∀ p ∈ fz', p.1 ≠ it := fun p hp => nit p (.tail _ hp)
    have lR : R < it := k1 _ (.head _)
    k_lt2 lR
    have hi : i < told.length := by
      have := (Array.getElem?_eq_some_iff.mp hiv).1
      rw [List.size_toArray, paired_len hv] at this
      exact this
    have len2 : rv'.length ≤ 100 := by omega
    have ht2 : told.take (i + 1) = told.take i ++ [q] := by rw [List.take_add_one, hq]; rfl
    have EM' : EntIn w.params fz' xm (letS c0 4) := EM.mono hs
    obtain ⟨md, mu, mr, a1, a2, a3, a4, ms, mc1, mc2, e1, e2, e3, e4, e5⟩ := EM
    replace e1 := hs _ e1; replace e2 := hs _ e2; replace e3 := hs _ e3; replace e5 := hs _ e5
    k_steps
    · rename_i A1 _ _ _ _ _ _ _ _ _ _ _ _ _ _ _ _ _ _ _ _ A2 _ _ _ _ _ _ _ _ _ _ _ _ _ _ _ F' N'
      rw [List.push_toArray] at N'
      refine ⟨_, _, _, _, rfl, F', news_sub N' shuffle5, ?_, _, _, _, rfl, ?_, ?_, hmk', hR', hsg', hcl', ?_, ?_⟩
      · exact List.forall_mem_cons.mpr ⟨nR, List.forall_mem_cons.mpr ⟨by k_ne, all_app (A2.out (by k_mem)) (all_app (A1.out (by k_mem)) (List.forall_mem_cons.mpr ⟨by k_ne, nfz⟩))⟩⟩
      · exact List.forall_mem_cons.mpr ⟨by k_ne, all_app (A2.out (by k_mem)) (all_app (A1.out (by k_mem)) (List.forall_mem_cons.mpr ⟨by k_ne, ne'⟩))⟩
      · exact fun p hp => .tail _ (List.mem_append_right _ (List.mem_append_right _ (.tail _ (hs p hp))))
      · have hp : 0 < q.2.2 := by omega
        rw [ht2, List.filterMap_append, show [q].filterMap (toldRow c0) = [(q.1, q.2.1, (letS (q.2.2 - 1) 7).filter (fun x => decide (x ∈ letS c0 4)))] from by simp [toldRow, hp], ← List.append_assoc rows]
        refine paired_snoc (paired_imp R' fun a b x => x.mono fun p hp => .tail _ (List.mem_append_right _ (List.mem_append_right _ (.tail _ hp)))) ?_
        refine ⟨_, _, _, _, rfl, .head _, ?_⟩
        exact ⟨_, _, _, _, _, _, _, _, _, _, by k_mem, by k_mem, by k_mem, by assumption, by k_mem⟩
      · rw [List.length_append, List.length_singleton]
        omega
    · rename_i hz
      refine ⟨_, _, _, _, rfl, F₁, N₁, nit, _, _, _, rfl, ne', hs, hmk', hR', hsg', hcl', ?_, by omega⟩
      rw [ht2, List.filterMap_append, List.filterMap_cons, toldRow, if_neg (by omega), List.filterMap_nil, List.append_nil]
      exact R'
  · rintro m' news' h' tk ⟨rv', n', fz', rfl, ne', hs, hmk', hR', hsg', hcl', R', len'⟩ F' N'
    rw [show (List.toArray vs).size = told.length from by rw [List.size_toArray]; exact paired_len hv, List.take_length] at R'
    refine wpAny_execs_nil ?_
    exact h _ _ _ _ _ _ F' N' ne' hR' hsg' hcl' R'
end

theorem shuffle8 {a b c d e f g r : Addr × Obj} {l : List (Addr × Obj)} : ∀ p ∈ r :: a :: b :: c :: d :: e :: f :: g :: l, p ∈ a :: b :: c :: d :: e :: f :: g :: r :: l := by
  intro p hp
  simp only [List.mem_cons] at hp ⊢
  rcases hp with h | h | h | h | h | h | h | h | h <;> simp [h]
theorem drop7 {a b c d e f g : Addr × Obj} {l : List (Addr × Obj)} : ∀ p ∈ l, p ∈ a :: b :: c :: d :: e :: f :: g :: l := fun p hp => .tail _ (.tail _ (.tail _ (.tail _ (.tail _ (.tail _ (.tail _ hp))))))
def ifLines (K : Frag) : Stmt := match (fnK K 143).1 with
  | _ :: _ :: _ :: i :: _ => i
  | _ => .Pass ⟨0, 0, 0, 0⟩
section
variable {w : World} {mg mb : Str → Option Value} {p : Program} {loose : List Str} {mean : ExcName → Option Value}
  {dp un : Nat} {fr : Option (List Env)} {gd : Option (List Code)} {s : Shared} {Q E : Value → Shared → Prop} {h₀ : Heap} {L : Addr} {m : Str → Option Value} {news : List (Addr × Obj)}
theorem lines_if {R xm : Addr} {c0 c1 c2 c3 c4 c5 n : Nat} {t0 t1 t2 t3 t4 t5 : Tok} {rv : List Value} {fz : List (Addr × Obj)} {rows : List (Str × Nat × List Str)} {sg : Value} {cl : Addr} {FQ : Flow → Shared → Prop}
   (F : Fr h₀ L s.heap m) (N : News h₀ L s.heap ((R, PySem.W.listOf (List.toArray rv) n) :: fz)) (X : (hd.heap_39 w.params).In h₀) (T : Top p loose mean mg mb h₀) (hdp : dp + 11 < recursionLimit)
   (hc : h₀.IsList cl #[.int c0 t0, .int c1 t1, .int c2 t2, .int c3 t3, .int c4 t4, .int c5 t5])
   (ne : ∀ p ∈ fz, p.1 ≠ R) (hmk : m "mask" = some (.ref xm)) (hR : m "rows" = some (.ref R)) (hsg : m "signs" = some sg) (hcl : m "cells" = some (.ref cl))
   (EM : EntIn w.params fz xm (letS c0 4)) (R0 : Paired (RowIn w.params fz) rv rows) (hlen : rv.length = 1)
   (h : ∀ rv' n' fz' m' h' tk, Fr h₀ L h' m' → News h₀ L h' ((R, PySem.W.listOf (List.toArray rv') n') :: fz') → (∀ p ∈ fz', p.1 ≠ R) → m' "rows" = some (.ref R) → m' "signs" = some sg → m' "cells" = some (.ref cl) →
     Paired (RowIn w.params fz') rv' (rows ++ midRows c0 c1 c2 c4) → FQ .next { s with heap := h', toks := tk }) :
   wpAny (model PySem.Challenge.pw_tv0029_01 w) (aA dp fr gd un) (exec (ifLines (hd.heap_39 w.params)) (envOf "_law_lines" (fnK (hd.heap_39 w.params) 143).2 L 143 (.ref 142))) FQ (fun _ _ => False) s := by
  show wpAny _ _ (exec (Stmt.If _ _ _ _) (envOf _ (Scope.mk _ _ _ _ _) _ _ _)) _ _ _
  k_steps
  · rename_i F' N'
    have h4 : Int.fmod (c4 : Int) ((3 : Nat) : Int) = 0 := by assumption
    rw [fmod_nat] at h4
    have h4' : c4 % 3 = 0 := by omega
    rw [List.push_toArray] at N'
    refine h _ _ _ _ _ _ F' (news_sub N' swap12) ?_ hR hsg hcl ?_
    · refine List.forall_mem_cons.mpr ⟨?_, ne⟩
      k_ne
    · rw [midRows, if_pos h4']
      exact paired_snoc (paired_imp R0 fun a b x => x.mono fun p hp => .tail _ hp) ⟨_, _, _, _, rfl, .head _, EM.mono fun p hp => .tail _ hp⟩
  · rename_i F' N'
    have hne : Int.fmod (c4 : Int) ((3 : Nat) : Int) ≠ 0 := by assumption
    rw [fmod_nat] at hne
    have h4' : c4 % 3 ≠ 0 := by omega
    have e0 : ∀ a b c d e : Value, (#[a, b, c] ++ #[d, e]) = List.toArray [a, b, c, d, e] := fun _ _ _ _ _ => rfl
    have e1 : ([(c0 : Int), c1, c2, c3, c4, c5].getD (Int.toNat 1) 0).fmod 9 = ((c1 % 9 : Nat) : Int) := fmod_nat c1 9
    have e2 : (([(c0 : Int), c1, c2, c3, c4, c5].getD (Int.toNat 1) 0).fdiv 9).fmod 9 = ((c1 / 9 % 9 : Nat) : Int) := by
      show Int.fmod (Int.fdiv (c1 : Int) ((9 : Nat) : Int)) ((9 : Nat) : Int) = _
      rw [fdiv_nat, fmod_nat]
    have e3 : ([(c0 : Int), c1, c2, c3, c4, c5].getD (Int.toNat 2) 0).fmod 8 + 1 = ((c2 % 8 + 1 : Nat) : Int) := by
      show Int.fmod (c2 : Int) ((8 : Nat) : Int) + 1 = _
      rw [fmod_nat]
      rfl
    have e4 : (([(c0 : Int), c1, c2, c3, c4, c5].getD (Int.toNat 2) 0).fdiv 8).fmod 9 = ((c2 / 8 % 9 : Nat) : Int) := by
      show Int.fmod (Int.fdiv (c2 : Int) ((8 : Nat) : Int)) ((9 : Nat) : Int) = _
      rw [fdiv_nat, fmod_nat]
    have e5 : (([(c0 : Int), c1, c2, c3, c4, c5].getD (Int.toNat 2) 0).fdiv 72).fmod 9 = ((c2 / 72 % 9 : Nat) : Int) := by
      show Int.fmod (Int.fdiv (c2 : Int) ((72 : Nat) : Int)) ((9 : Nat) : Int) = _
      rw [fdiv_nat, fmod_nat]
    rw [e0, e1, e2, e3, e4, e5] at N'
    refine told_loop (told := toldS c1 c2) F' (news_sub N' shuffle8) X T hdp ?_ rfl hmk hR hsg hcl (by k_mem) (.cons ⟨_, _, _, _, rfl, by k_mem⟩ (.cons ⟨_, _, _, _, rfl, by k_mem⟩ (.cons ⟨_, _, _, _, rfl, by k_mem⟩ (.cons ⟨_, _, _, _, rfl, by k_mem⟩ (.cons ⟨_, _, _, _, rfl, by k_mem⟩ .nil))))) (EM.mono drop7) (paired_imp R0 fun a b x => x.mono drop7) hlen (Nat.le_of_ble_eq_true rfl) fun rv' n' fz' m' h' tk F₁ N₁ ne₁ hR₁ hsg₁ hcl₁ P₁ => ?_
    · exact List.forall_mem_cons.mpr ⟨by k_ne, List.forall_mem_cons.mpr ⟨by k_ne, List.forall_mem_cons.mpr ⟨by k_ne, List.forall_mem_cons.mpr ⟨by k_ne, List.forall_mem_cons.mpr ⟨by k_ne, List.forall_mem_cons.mpr ⟨by k_ne, List.forall_mem_cons.mpr ⟨by k_ne, ne⟩⟩⟩⟩⟩⟩⟩
    · dsimp only
      refine wpAny_execs_nil (h _ _ _ _ _ _ F₁ N₁ ne₁ hR₁ hsg₁ hcl₁ ?_)
      rw [midRows, if_neg h4']
      exact P₁
end

theorem pick_from {its : List Value} {k : Nat} : kms_pick its.toArray.toList (some (k : Int)) none = its.drop k := by
  have hk : ¬ ((k : Int) < 0) := by omega
  simp only [kms_pick, kms_lo, kms_hi, if_neg hk, Int.toNat_natCast]
  by_cases h : k ≤ its.length
  · rw [Nat.min_eq_left h, List.take_of_length_le (by rw [List.length_drop]; omega)]
  · rw [Nat.min_eq_right (by omega), List.drop_eq_nil_of_le (Nat.le_refl _), List.drop_eq_nil_of_le (by omega), List.take_nil]
theorem pick_to {its : List Value} {k : Nat} : kms_pick its.toArray.toList none (some (k : Int)) = its.take k := by
  have hk : ¬ ((k : Int) < 0) := by omega
  simp only [kms_pick, kms_lo, kms_hi, if_neg hk, Int.toNat_natCast, List.drop_zero, Nat.sub_zero]
  by_cases h : k ≤ its.length
  · rw [Nat.min_eq_left h]
  · rw [Nat.min_eq_right (by omega), List.take_of_length_le (Nat.le_refl _), List.take_of_length_le (by omega)]
section
variable {prog : Program} {w : World} {A : Around} {E : Value → Shared → Prop} {s : Shared} {h₀ : Heap} {L : Addr} {m : Str → Option Value} {news : List (Addr × Obj)}
theorem slice_from {value slice : PySem.Expr} {l : Addr} {its : List Value} {n k : Nat} {i : Int} {x : Tok} {Q : Value → Shared → Prop} (F : Fr h₀ L s.heap m) (N : News h₀ L s.heap news) (hl : s.heap.get? l = some (PySem.W.listOf its.toArray n)) (hi : i = (k : Nat)) (hz : its.length ≤ 10000)
    (h : ∀ D h', Fr h₀ L h' m → News h₀ L h' ((D, PySem.W.listOf (its.drop k).toArray 0) :: news) → (∀ p ∈ news, p.1 < D) → Q (.ref D) { s with heap := h' })
    (hs : subscripted slice false (.ref l) (.ref s.heap.objs.size) = operate [.ref s.heap.objs.size, .ref l] (getItem (.ref l) (.ref s.heap.objs.size))) (ht : ∀ r, letTemporaryGo value (.ref l) r = pure ()) :
    wpAny (model prog w) A (subscriptTail value slice (.ref l) (.ref s.heap.objs.size)) Q E { s with heap := s.heap.push { cls := .type "slice", data := .fields #[.int i x, .none, .none] } } := by
  subst hi
  exact kms_slice_lit F N ⟨_, hl, rfl, _, rfl⟩ (IsPart.int _ _) IsPart.none pick_from h hs ht (by rw [List.size_toArray, sizeLine_eq]; omega)
theorem slice_to {value slice : PySem.Expr} {l : Addr} {its : List Value} {n k : Nat} {i : Int} {x : Tok} {Q : Value → Shared → Prop} (F : Fr h₀ L s.heap m) (N : News h₀ L s.heap news) (hl : s.heap.get? l = some (PySem.W.listOf its.toArray n)) (hi : i = (k : Nat)) (hz : its.length ≤ 10000)
    (h : ∀ D h', Fr h₀ L h' m → News h₀ L h' ((D, PySem.W.listOf (its.take k).toArray 0) :: news) → (∀ p ∈ news, p.1 < D) → Q (.ref D) { s with heap := h' })
    (hs : subscripted slice false (.ref l) (.ref s.heap.objs.size) = operate [.ref s.heap.objs.size, .ref l] (getItem (.ref l) (.ref s.heap.objs.size))) (ht : ∀ r, letTemporaryGo value (.ref l) r = pure ()) :
    wpAny (model prog w) A (subscriptTail value slice (.ref l) (.ref s.heap.objs.size)) Q E { s with heap := s.heap.push { cls := .type "slice", data := .fields #[.none, .int i x, .none] } } := by
  subst hi
  exact kms_slice_lit F N ⟨_, hl, rfl, _, rfl⟩ IsPart.none (IsPart.int _ _) pick_to h hs ht (by rw [List.size_toArray, sizeLine_eq]; omega)
end
local macro_rules | `(tactic| walk_at "subscriptTail Name Slice ref ref") => `(tactic| (k_here; (with_reducible show wpAny _ _ (subscriptTail _ (PySem.Expr.Slice _ _ none _) (Value.ref _) (Value.ref _)) _ _ _); k_dflt (first | (refine' slice_from ?F ?N ?l ?k ?z ?_ ?s ?t) | (refine' slice_to ?F ?N ?l ?k ?z ?_ ?s ?t)); (case F => k_asm); (case N => k_asm); (case l => exact News.get (by k_asm) (by k_mem)); (case k => first | assumption | exact rfl); (case z => first | assumption | omega); (case s => with_unfolding_all rfl); (case t => kmk_pure); intro D' h' F' N' l1; (try k_lt l1); (try k_sweep)))
local macro_rules | `(tactic| walk_at "binaryOp Add ref ref") => `(tactic| (k_here; k_dflt (refine' f_add ?F ?N ?a ?b ?z ?_; (case F => k_asm); (case N => k_asm); (case a => exact News.get (by k_asm) (by k_mem)); (case b => exact News.get (by k_asm) (by k_mem)); (case z => first | omega | (simp only [List.length_take, List.length_drop, List.length_cons, List.length_nil]; omega))); intro D' h' F' N' l1; (try k_lt l1); (try dsimp only); (try k_sweep)))
abbrev lastRow (c0 : Nat) : Str × Nat × List Str := ("", 1, letS c0 7)
theorem paired_app {α β : Type} {R : α → β → Prop} {l₁ m₁ : List α} {l₂ m₂ : List β} (h : Paired R l₁ l₂) (g : Paired R m₁ m₂) : Paired R (l₁ ++ m₁) (l₂ ++ m₂) := by
  induction h with
  | nil => exact g
  | cons x _ ih => exact .cons x ih
theorem paired_take {α β : Type} {R : α → β → Prop} {l₁ : List α} {l₂ : List β} (h : Paired R l₁ l₂) : ∀ n, Paired R (l₁.take n) (l₂.take n) := by
  induction h with
  | nil => intro n; simp; exact .nil
  | cons x _ ih =>
    intro n
    cases n with
    | zero => exact .nil
    | succ n => exact .cons x (ih n)
theorem paired_drop {α β : Type} {R : α → β → Prop} {l₁ : List α} {l₂ : List β} (h : Paired R l₁ l₂) : ∀ n, Paired R (l₁.drop n) (l₂.drop n) := by
  induction h with
  | nil => intro n; simp; exact .nil
  | cons x h' ih =>
    intro n
    cases n with
    | zero => exact .cons x h'
    | succ n => exact ih n
def tailLines (K : Frag) : List Stmt := (fnK K 143).1.drop 4
section
variable {w : World} {mg mb : Str → Option Value} {p : Program} {loose : List Str} {mean : ExcName → Option Value}
  {dp un : Nat} {fr : Option (List Env)} {gd : Option (List Code)} {s : Shared} {Q E : Value → Shared → Prop} {h₀ : Heap} {L : Addr} {m : Str → Option Value} {news : List (Addr × Obj)}
theorem lines_tail {R : Addr} {c0 c1 c2 c3 c4 c5 n : Nat} {t0 t1 t2 t3 t4 t5 tg : Tok} {rv : List Value} {fz : List (Addr × Obj)} {rows : List (Str × Nat × List Str)} {cl : Addr} {FQ : Flow → Shared → Prop}
   (F : Fr h₀ L s.heap m) (N : News h₀ L s.heap ((R, PySem.W.listOf (List.toArray rv) n) :: fz)) (X : (hd.heap_39 w.params).In h₀) (T : Top p loose mean mg mb h₀) (hdp : dp + 11 < recursionLimit)
   (hc : h₀.IsList cl #[.int c0 t0, .int c1 t1, .int c2 t2, .int c3 t3, .int c4 t4, .int c5 t5])
   (ne : ∀ p ∈ fz, p.1 ≠ R) (hR : m "rows" = some (.ref R)) (hsg : m "signs" = some (.str ⟨(fmChars c0).toArray⟩ tg)) (hcl : m "cells" = some (.ref cl))
   (R0 : Paired (RowIn w.params fz) rv rows) (hlen : rv.length ≤ 100)
   (h : ∀ D rv' n' fz' m' h' tk, Fr h₀ L h' m' → News h₀ L h' ((D, PySem.W.listOf (List.toArray rv') n') :: fz') → 
     Paired (RowIn w.params fz') rv' ((rows ++ [lastRow c0]).drop (c4 / 3 % (rows.length + 1)) ++ (rows ++ [lastRow c0]).take (c4 / 3 % (rows.length + 1))) → FQ (.ret (.ref D)) { s with heap := h', toks := tk }) :
   wpAny (model PySem.Challenge.pw_tv0029_01 w) (aA dp fr gd un) (execs (tailLines (hd.heap_39 w.params)) (envOf "_law_lines" (fnK (hd.heap_39 w.params) 143).2 L 143 (.ref 142))) FQ (fun _ _ => False) s := by
  show wpAny _ _ (execs (Stmt.Expr _ _ :: _) (envOf _ (Scope.mk _ _ _ _ _) _ _ _)) _ _ _
  k_steps
  rename_i D _ _ _ _ _ _ _ F' N' _
  rw [List.push_toArray] at N'
  refine kun_lenL (k := ((rv.length + 1 : Nat) : Int)) (N'.isList (by k_mem)) (by simp) (by omega) ?_
  show wpAny _ _ (binaryOp Operator.Mod (.int (Int.fdiv (c4 : Int) ((3 : Nat) : Int)) _) _) _ _ _
  rw [fdiv_nat]
  walk1
  rw [fmod_nat]
  have hz : (rv ++ [Value.ref D]).length ≤ 10000 := by rw [List.length_append, List.length_singleton]; omega
  k_steps
  rename_i F' N' _ _ _ _ _ _ _
  refine h _ _ _ _ _ _ _ F' N' ?_
  rw [show rows.length = rv.length from (paired_len R0).symm]
  refine (fun P => paired_app (paired_drop P _) (paired_take P _)) (paired_snoc (paired_imp R0 fun a b x => x.mono fun p hp => .tail _ (.tail _ (.tail _ (List.mem_append_right _ (.tail _ (.tail _ hp)))))) ?_)
  exact ⟨_, _, _, _, rfl, .tail _ (.tail _ (.head _)), _, _, _, _, _, _, _, _, _, _, by k_mem, by k_mem, by k_mem, by assumption, by k_mem⟩
end

theorem mid_len (c0 c1 c2 c4 : Nat) : (midRows c0 c1 c2 c4).length ≤ 5 := by
  unfold midRows
  split
  · exact Nat.le_of_ble_eq_true rfl
  · exact List.length_filterMap_le _ _
section
variable {w : World} {mg mb : Str → Option Value} {p : Program} {loose : List Str} {mean : ExcName → Option Value}
  {dp un : Nat} {fr : Option (List Env)} {gd : Option (List Code)} {s : Shared} {Q E : Value → Shared → Prop} {h₀ : Heap} {L : Addr} {m : Str → Option Value} {news : List (Addr × Obj)}
theorem lines_new {cl : Addr} {c0 c1 c2 c3 c4 c5 : Nat} {t0 t1 t2 t3 t4 t5 : Tok} (F₀ : Fr h₀ L s.heap m) (N₀ : News h₀ L s.heap news) (X₀ : (hd.heap_39 w.params).In h₀) (T₀ : Top p loose mean mg mb h₀) (hdp : dp + 12 < recursionLimit)
   (hc : s.heap.IsList cl #[.int c0 t0, .int c1 t1, .int c2 t2, .int c3 t3, .int c4 t4, .int c5 t5])
   (h : ∀ D rv n fz h' tk, Fr h₀ L h' m → News h₀ L h' (((D, PySem.W.listOf (List.toArray rv) n) :: fz) ++ news) → Apart news ((D, PySem.W.listOf (List.toArray rv) n) :: fz) → Paired (RowIn w.params fz) rv (linesS c0 c1 c2 c4) → Q (.ref D) { s with heap := h', toks := tk }) :
   wpAny (model PySem.Challenge.pw_tv0029_01 w) (aA dp fr gd un) (call (.ref 143) [.ref cl]) Q E s := by
  have X := X₀.keeps F₀.keep
  have T := T₀.keeps F₀.keep
  refine enter X T (by k_is) (by k_is) (by omega) (BindsTo.of_eq rfl) (locs rfl) ?_ rfl rfl rfl (by decide)
  intro h₁ tk F N
  clear X₀ T₀
  repeat' (first | ((fail_if_success ((with_reducible show wpAny _ _ (execs (Stmt.If _ _ _ _ :: _) _) _ _ _))); (fail_if_success ((with_reducible show wpAny _ _ (exec (Stmt.For _ _ _ _ _) _) _ _ _))); first | (k_unfold; (try dsimp only)) | (k_end; wrow_close) | walk1 | (dsimp only; walk1) | (leave1; walk_say "STEP leave1"; try dsimp only) | fail "no step"))
  rename_i hC F' N'
  have key : ∃ fz R rv n xm m' t', Fr s.heap s.heap.objs.size hC m' ∧ News s.heap s.heap.objs.size hC ((R, PySem.W.listOf (List.toArray rv) n) :: fz) ∧ rv.length = 1 ∧ (∀ p ∈ fz, p.1 ≠ R) ∧ m' "rows" = some (.ref R) ∧ m' "signs" = some (.str ⟨(fmChars c0).toArray⟩ t') ∧ m' "cells" = some (.ref cl) ∧ m' "mask" = some (.ref xm) ∧
      Paired (RowIn w.params fz) rv [("u0", 4, letS c0 1)] ∧ EntIn w.params fz xm (letS c0 4) := by
    refine ⟨_, _, [_], _, _, _, _, F', N', rfl, ?_, rfl, rfl, rfl, rfl, .cons ?_ .nil, ?_⟩
    · refine List.forall_mem_cons.mpr ⟨?_, ?_⟩
      · k_ne
      · refine all_app ?_ (List.forall_mem_cons.mpr ⟨?_, all_app ?_ (List.forall_mem_cons.mpr ⟨?_, List.forall_mem_nil _⟩)⟩)
        · exact lt_ne (by assumption)
        · k_ne
        · exact lt_ne (by assumption)
        · k_ne
    · exact ⟨_, _, _, _, rfl, .head _, _, _, _, _, _, _, _, _, _, _, by k_mem, by k_mem, by k_mem, by assumption, by k_mem⟩
    · exact ⟨_, _, _, _, _, _, _, _, _, _, by k_mem, by k_mem, by k_mem, by assumption, by k_mem⟩
  obtain ⟨fz, R, rv, n, xm, m', tg, F₁, N₁, hrv, ne, hr, hsg, hcl, hmk, R0, EM⟩ := key
  clear F' N'
  refine wpAny_execs_cons (lines_if F₁ N₁ X T (by omega) hc ne hmk hr hsg hcl EM R0 hrv fun rv₂ n₂ fz₂ m₂ h₂ tk₂ F₂ N₂ ne₂ hr₂ hsg₂ hcl₂ R₂ => ?_)
  clear F₁ N₁ R0 EM
  refine lines_tail F₂ N₂ X T (by omega) hc ne₂ hr₂ hsg₂ hcl₂ R₂ ?_ fun D rv₃ n₃ fz₃ m₃ h₃ tk₃ F₃ N₃ P₃ => ?_
  · have hl := paired_len R₂
    have h5 : (midRows c0 c1 c2 c4).length ≤ 5 := mid_len _ _ _ _
    rw [List.length_append, List.length_singleton] at hl
    omega
  · obtain ⟨F'', N'', A''⟩ := back F₀ N₀ F₃ N₃
    refine h _ _ _ _ _ _ F'' N'' A'' ?_
    have el : (rowsS c0 c1 c2 c4).length = ([((("u0" : Str), (4 : Nat), letS c0 1) : Str × Nat × List Str)] ++ midRows c0 c1 c2 c4).length + 1 := by
      rw [show rowsS c0 c1 c2 c4 = [((("u0" : Str), (4 : Nat), letS c0 1) : Str × Nat × List Str)] ++ midRows c0 c1 c2 c4 ++ [lastRow c0] from rfl, List.length_append]
      rfl
    unfold linesS
    rw [el]
    exact P₃
end

def StrsOk (ss : List Str) : Prop := ∀ x ∈ ss, PyData.strOk x = true
theorem StrsOk.filter {ss : List Str} {f : Str → Bool} (h : StrsOk ss) : StrsOk (ss.filter f) := fun x hx => h x (List.mem_filter.mp hx).1
theorem lay_strs : ∀ ss : List Str, StrsOk ss → PyData.canLayAll0 (ss.map PyData.str) = true
  | [], _ => rfl
  | x :: r, h => by simp [PyData.canLayAll0, PyData.canLay0, h x (.head _), lay_strs r fun y hy => h y (.tail _ hy)]
theorem dep_strs : ∀ ss : List Str, PyData.depthAll (ss.map PyData.str) = 0
  | [] => rfl
  | _ :: r => by simp [PyData.depthAll, PyData.depth, dep_strs r]
theorem shaped_strs (ss : List Str) (h : StrsOk ss) : SeqAt.shaped (.list (ss.map PyData.str)) = true := by
  simp [SeqAt.shaped, PyData.canLay0, PyData.depth, lay_strs ss h, dep_strs]
theorem same_strs : ∀ ns ms : List Str, PySem.Spec.sameAll (ns.map PyData.str) (ms.map PyData.str) = decide (ns = ms)
  | [], [] => by simp [PySem.Spec.sameAll]
  | [], _ :: _ => by simp [PySem.Spec.sameAll]
  | _ :: _, [] => by simp [PySem.Spec.sameAll]
  | a :: r, b :: t => by
    simp only [List.map_cons, PySem.Spec.sameAll, PySem.Spec.same, same_strs r t]
    by_cases h : a = b <;> by_cases h' : r = t <;> simp [h, h']
theorem carried_strs : ∀ {vs : List Value} {ss : List Str}, StrsAre vs ss → CarriedAll vs (ss.map PyData.str)
  | _, _, .nil => .nil
  | _, _, .cons _ t r => .cons (.str _ t) (carried_strs r)
section
variable {prog : Program} {w : World} {A : Around} {E : Value → Shared → Prop} {s : Shared} {a b : Addr} {xs ys : List Value} {ns ms : List Str} {Q : Value → Shared → Prop}
theorem eq_strs (ha : s.heap.IsList a xs.toArray) (hb : s.heap.IsList b ys.toArray) (hi : StrsAre xs ns) (hj : StrsAre ys ms) (o1 : StrsOk ns) (o2 : StrsOk ms) (hu : A.units + 64 < cLine) (h : Q (.bool (decide (ns = ms))) s) :
    wpAny (model prog w) A (compareOp .Eq (.ref a) (.ref b)) Q E s :=
  eq_dataH_same (reads_newData ha (carried_strs hi)) (reads_newData hb (carried_strs hj)) (shaped_strs _ o1) (shaped_strs _ o2) hu (SeqAt.noMix_of_shape (.list .str) rfl _ _ (list_map_has fun _ => rfl) (list_map_has fun _ => rfl)) (by simp only [PySem.Spec.same]; rw [same_strs]; exact h)
end
local macro_rules | `(tactic| walk_at "compareOp Eq ref ref") => `(tactic| (k_here; (with_reducible show wpAny _ _ (compareOp CmpOp.Eq (Value.ref _) (Value.ref _)) _ _ _); k_dflt (refine' eq_strs ?a ?b ?i ?j ?o1 ?o2 ?u ?_; (case a => first | exact News.isList (by k_asm) (by k_mem) | exact ⟨_, Fr.keep (by k_asm) _ _ (by assumption), rfl, _, rfl⟩); (case b => first | exact News.isList (by k_asm) (by k_mem) | exact ⟨_, Fr.keep (by k_asm) _ _ (by assumption), rfl, _, rfl⟩); (case i => assumption); (case j => assumption); (case o1 => first | assumption | exact StrsOk.filter (by assumption)); (case o2 => first | assumption | exact StrsOk.filter (by assumption)); (case u => (dsimp only; omega)))))

noncomputable def tabOf (P : Params) : Option Addr → Array Value
  | none => #[]
  | some c => lamTab P c
section
variable {w : World} {mg mb : Str → Option Value} {p : Program} {loose : List Str} {mean : ExcName → Option Value}
  {dp un : Nat} {fr : Option (List Env)} {gd : Option (List Code)} {s : Shared} {Q E : Value → Shared → Prop} {h₀ : Heap} {L : Addr} {m : Str → Option Value} {news : List (Addr × Obj)}
theorem rule_any {o : Option Addr} {agent verdict : Str} {ta tv tr : Tok} {reach : Int} (F₀ : Fr h₀ L s.heap m) (N₀ : News h₀ L s.heap [(131, tabObj (tabOf w.params o))]) (X₀ : (hd.heap_39 w.params).In h₀) (T₀ : Top p loose mean mg mb h₀) (C₀ : CodeHd h₀ 135 131) (hdp : dp + 6 < recursionLimit)
   (h : ∀ x c' fz h' tk', Fr h₀ L h' m → News h₀ L h' ((131, tabObj (lamTab w.params c')) :: fz) → (∀ b o, b ≠ 131 → s.heap.get? b = some o → h'.get? b = some o ∧ ∀ p ∈ fz, p.1 ≠ b) → (∀ p ∈ fz, p.1 ≠ 131) →
     RuleIn w.params fz x agent reach verdict c' → (o = none ∧ CodeIn fz c') ∨ o = some c' → Q (.ref x) { s with heap := h', toks := tk' }) :
   wpAny (model PySem.Challenge.pw_tv0029_01 w) (aA dp fr gd un) (call (.ref 136) [.str agent ta, .int reach tr, .str verdict tv]) Q E s := by
  cases o with
  | none => exact rule_first F₀ N₀ X₀ T₀ C₀ hdp fun x c' fz h' tk' a b c d e f => h x c' fz h' tk' a b c d e (.inl ⟨rfl, f⟩)
  | some c => exact rule_again F₀ N₀ X₀ T₀ C₀ hdp fun x fz h' tk' a b c d e => h x _ fz h' tk' a b c d e (.inr rfl)
/-- the same in the loop of _law_book: the table stands third behind what merge_entries has made -/
theorem rule_step {o : Option Addr} {agent verdict : Str} {ta tv tr : Tok} {reach : Int} {fz1 fz : List (Addr × Obj)} {a b : Addr × Obj} (F₀ : Fr h₀ L s.heap m) (N₀ : News h₀ L s.heap (fz1 ++ a :: b :: (131, tabObj (tabOf w.params o)) :: fz)) (X₀ : (hd.heap_39 w.params).In h₀) (T₀ : Top p loose mean mg mb h₀) (C₀ : CodeHd h₀ 135 131) (hdp : dp + 6 < recursionLimit)
   (n1 : ∀ p ∈ fz1, p.1 ≠ 131) (na : a.1 ≠ 131) (nb : b.1 ≠ 131) (n2 : ∀ p ∈ fz, p.1 ≠ 131)
   (h : ∀ x c' fz2 h' tk', Fr h₀ L h' m → News h₀ L h' (a :: b :: (131, tabObj (lamTab w.params c')) :: (fz2 ++ (fz1 ++ fz))) → (∀ p ∈ fz2, p.1 ≠ a.1 ∧ p.1 ≠ b.1 ∧ p.1 ≠ 131) →
     RuleIn w.params fz2 x agent reach verdict c' → (o = none ∧ CodeIn fz2 c') ∨ o = some c' → Q (.ref x) { s with heap := h', toks := tk' }) :
   wpAny (model PySem.Challenge.pw_tv0029_01 w) (aA dp fr gd un) (call (.ref 136) [.str agent ta, .int reach tr, .str verdict tv]) Q E s := by
  refine rule_any (o := o) F₀ (news_sub N₀ fun p hp => ?_) X₀ T₀ C₀ hdp fun x c' fz2 h' tk' F' N' K ne R C => ?_
  · rw [List.mem_singleton.mp hp]
    exact List.mem_append_right _ (.tail _ (.tail _ (.head _)))
  · have ma : a ∈ fz1 ++ a :: b :: (131, tabObj (tabOf w.params o)) :: fz := List.mem_append_right _ (.head _)
    have mb : b ∈ fz1 ++ a :: b :: (131, tabObj (tabOf w.params o)) :: fz := List.mem_append_right _ (.tail _ (.head _))
    have up : ∀ q ∈ fz1 ++ a :: b :: (131, tabObj (tabOf w.params o)) :: fz, q.1 ≠ 131 → h'.get? q.1 = some q.2 ∧ q.1 ≠ L ∧ h₀.get? q.1 = none := fun q hq hn => ⟨(K _ _ hn (N₀ q hq).1).1, (N₀ q hq).2⟩
    refine h x c' fz2 h' tk' F' (fun q hq => ?_) (fun q hq => ⟨(K _ _ na (N₀ a ma).1).2 q hq, (K _ _ nb (N₀ b mb).1).2 q hq, ne q hq⟩) R C
    rcases List.mem_cons.mp hq with rfl | hq
    · exact up _ ma na
    rcases List.mem_cons.mp hq with rfl | hq
    · exact up _ mb nb
    rcases List.mem_cons.mp hq with rfl | hq
    · exact N' _ (.head _)
    rcases List.mem_append.mp hq with hq | hq
    · exact N' q (.tail _ hq)
    rcases List.mem_append.mp hq with hq | hq
    · exact up q (List.mem_append_left _ hq) (n1 q hq)
    · exact up q (List.mem_append_right _ (.tail _ (.tail _ (.tail _ hq)))) (n2 q hq)
end
def EntAt (P : Params) (h : Heap) (x : Addr) (lets : List Str) : Prop := ∃ (d u r : Addr) (t1 t2 t3 t4 : Tok) (vs : List Value) (c c2 : Nat), h.get? x = some (instObj 52 d) ∧ h.get? d = some (dictOf (entD P t1 t2 t3 t4 u r) 4) ∧ h.get? u = some (PySem.W.listOf (List.toArray vs) c) ∧ StrsAre vs lets ∧ h.get? r = some (PySem.W.listOf #[] c2)
def RowAt (P : Params) (h : Heap) (v : Value) (row : Str × Nat × List Str) : Prop := ∃ (T x : Addr) (t tr : Tok), v = .ref T ∧ h.get? T = some ({ cls := .type "tuple", data := .seq #[.str row.1 t, .int (row.2.1 : Nat) tr, .ref x] } : Obj) ∧ EntAt P h x row.2.2
theorem EntIn.toAt {P : Params} {h₀ h : Heap} {L : Addr} {fz : List (Addr × Obj)} {x : Addr} {lets : List Str} (e : EntIn P fz x lets) (N : News h₀ L h fz) : EntAt P h x lets := by
  obtain ⟨d, u, r, t1, t2, t3, t4, vs, c, c2, m1, m2, m3, e, m4⟩ := e
  exact ⟨d, u, r, t1, t2, t3, t4, vs, c, c2, (N _ m1).1, (N _ m2).1, (N _ m3).1, e, (N _ m4).1⟩
theorem RowIn.toAt {P : Params} {h₀ h : Heap} {L : Addr} {fz : List (Addr × Obj)} {v : Value} {row : Str × Nat × List Str} (e : RowIn P fz v row) (N : News h₀ L h fz) : RowAt P h v row := by
  obtain ⟨T, x, t, tr, e, m1, m2⟩ := e
  exact ⟨T, x, t, tr, e, (N _ m1).1, m2.toAt N⟩
/-- the verdict of a line -/
def verdS (wl lets : List Str) : Str := if wl.filter (fun x => decide (x ∈ lets)) = wl then Str.ofString "yes" else Str.ofString ""
def specOf (wl : List Str) (row : Str × Nat × List Str) : Str × Nat × Str := (row.1, row.2.1, verdS wl row.2.2)
def RuleEx (P : Params) (fz : List (Addr × Obj)) (o : Option Addr) (v : Value) (q : Str × Nat × Str) : Prop := ∃ (x c' : Addr), v = .ref x ∧ o = some c' ∧ RuleIn P fz x q.1 (q.2.1 : Nat) q.2.2 c'
theorem RuleIn.mono {P : Params} {fz fz' : List (Addr × Obj)} {x : Addr} {agent : Str} {reach : Int} {verdict : Str} {c' : Addr} (h : RuleIn P fz x agent reach verdict c') (hs : ∀ p ∈ fz, p ∈ fz') : RuleIn P fz' x agent reach verdict c' := by
  obtain ⟨dx, t1, t2, t3, t4, t5, t6, u, r, f, cw, cr, pm, ctv, tv, m1, m2, m3, ow, or, tr, wx, wd, wt1, wt2, wt3, wt4, wu, wr, ta, cc, m4, d4, m5, d5, m6, m7, m8⟩ := h
  exact ⟨dx, t1, t2, t3, t4, t5, t6, u, r, f, cw, cr, pm, ctv, tv, hs _ m1, hs _ m2, hs _ m3, ow, or, tr, wx, wd, wt1, wt2, wt3, wt4, wu, wr, ta, cc, hs _ m4, d4, hs _ m5, d5, hs _ m6, hs _ m7, hs _ m8⟩
theorem RuleEx.mono {P : Params} {fz fz' : List (Addr × Obj)} {o : Option Addr} {v : Value} {q : Str × Nat × Str} (h : RuleEx P fz o v q) (hs : ∀ p ∈ fz, p ∈ fz') : RuleEx P fz' o v q := by
  obtain ⟨x, c', e, ho, r⟩ := h
  exact ⟨x, c', e, ho, r.mono hs⟩
theorem CodeIn.mono {fz fz' : List (Addr × Obj)} {c' : Addr} (h : CodeIn fz c') (hs : ∀ p ∈ fz, p ∈ fz') : CodeIn fz' c' := by
  obtain ⟨oc, vs, t, m, d, e⟩ := h
  exact ⟨oc, vs, t, hs _ m, d, e⟩

local macro_rules | `(tactic| k_steps) => `(tactic| repeat' (first | ((fail_if_success ((with_reducible show LCt.CompRestT _ _ _ _ _ _ _ _ _ _ _ _ _ _ _ _ _ _ _ _))); (fail_if_success ((with_reducible show wpAny _ _ (execs (Stmt.Assign _ (Expr.ListComp _ _ _ _) _ :: _) _) _ _ _))); (fail_if_success ((with_reducible show wpAny _ _ (eval (Expr.ListComp _ _ _ _) _) _ _ _))); (fail_if_success ((with_reducible show wpAny _ _ (call (Value.builtin "str.split") _) _ _ _))); (fail_if_success ((with_reducible show wpAny _ _ (call (Value.type "zip") _) _ _ _))); (fail_if_success ((with_reducible show wpAny _ _ (call (Value.ref 136) _) _ _ _))); (fail_if_success ((with_reducible show wpAny _ _ (exec (Stmt.For _ _ _ _ _) _) _ _ _))); first | (k_unfold; (try dsimp only)) | (k_end; wrow_close) | walk1 | (dsimp only; walk1) | (leave1; walk_say "STEP leave1"; try dsimp only) | fail "no step")))
theorem verd_yes {wl lets : List Str} (h : wl.filter (fun x => decide (x ∈ lets)) = wl) : verdS wl lets = Str.ofString "yes" := if_pos h
theorem verd_no {wl lets : List Str} (h : ¬ wl.filter (fun x => decide (x ∈ lets)) = wl) : verdS wl lets = Str.ofString "" := if_neg h
def bookFor (K : Frag) : Stmt := match (fnK K 150).1 with
  | _ :: f :: _ => f
  | _ => .Pass ⟨0, 0, 0, 0⟩
section
variable {w : World} {mg mb : Str → Option Value} {p : Program} {loose : List Str} {mean : ExcName → Option Value}
  {dp un : Nat} {fr : Option (List Env)} {gd : Option (List Code)} {s : Shared} {Q E : Value → Shared → Prop} {h₀ : Heap} {L : Addr} {m : Str → Option Value} {news : List (Addr × Obj)}
theorem book_loop {R xw dw uw rw' Dr : Addr} {b1 b2 b3 b4 : Tok} {n nr cw1 cw2 : Nat} {rv wv : List Value} {rows : List (Str × Nat × List Str)} {wl : List Str} {o₀ : Option Addr} {FQ : Flow → Shared → Prop}
   (F : Fr h₀ L s.heap m) (N : News h₀ L s.heap [(R, PySem.W.listOf (List.toArray []) n), (131, tabObj (tabOf w.params o₀))]) (X : (hd.heap_39 w.params).In h₀) (T : Top p loose mean mg mb h₀) (C : CodeHd h₀ 135 131) (hdp : dp + 7 < recursionLimit) (hun : un + 100 < cLine)
   (h131 : @LT.lt Nat _ 131 R) (hR : m "rules" = some (.ref R)) (hrw : m "rows" = some (.ref Dr)) (hws : m "wish" = some (.ref xw))
   (w1 : h₀.get? xw = some (instObj 52 dw)) (w2 : h₀.get? dw = some (dictOf (entD w.params b1 b2 b3 b4 uw rw') 4)) (w3 : h₀.get? uw = some (PySem.W.listOf (List.toArray wv) cw1)) (w4 : StrsAre wv wl) (w5 : h₀.get? rw' = some (PySem.W.listOf #[] cw2)) (wok : StrsOk wl) (wlen : wl.length ≤ 1000)
   (hr : h₀.get? Dr = some (PySem.W.listOf (List.toArray rv) nr)) (hv : Paired (RowAt w.params h₀) rv rows) (hrl : ∀ row ∈ rows, row.2.2.length ≤ 1000) (hrn : rows.length ≤ 100)
   (h : ∀ o rl n' fz m' h' tk, Fr h₀ L h' m' → News h₀ L h' ((R, PySem.W.listOf (List.toArray rl) n') :: (131, tabObj (tabOf w.params o)) :: fz) → (∀ p ∈ fz, p.1 ≠ R ∧ p.1 ≠ 131) → m' "rules" = some (.ref R) →
     Paired (RuleEx w.params fz o) rl (rows.map (specOf wl)) → (rows = [] ∧ o = o₀ ∨ ∃ c', o = some c' ∧ (o₀ = some c' ∨ CodeIn fz c')) → FQ .next { s with heap := h', toks := tk }) :
   wpAny (model PySem.Challenge.pw_tv0029_01 w) (aA dp fr gd un) (exec (bookFor (hd.heap_39 w.params)) (envOf "_law_book" (fnK (hd.heap_39 w.params) 150).2 L 150 (.ref 149))) FQ (fun _ _ => False) s := by
  show wpAny _ _ (exec (Stmt.For _ _ _ _ _) (envOf _ (Scope.mk _ _ _ _ _) _ _ _)) _ _ _
  refine for_seq (h₀ := h₀) rfl ?_
  walk1
  refine ⟨false, Dr, _, m, _, fun i m' news' => ∃ o rl n' fz, news' = (R, PySem.W.listOf (List.toArray rl) n') :: (131, tabObj (tabOf w.params o)) :: fz ∧ (∀ p ∈ fz, p.1 ≠ R ∧ p.1 ≠ 131) ∧ m' "rules" = some (.ref R) ∧ m' "wish" = some (.ref xw) ∧
      Paired (RuleEx w.params fz o) rl ((rows.take i).map (specOf wl)) ∧ rl.length = i ∧ (i = 0 ∧ o = o₀ ∨ ∃ c', o = some c' ∧ (o₀ = some c' ∨ CodeIn fz c')),
    rfl, ⟨_, F.keep _ _ hr, rfl, _, rfl⟩, F, N, ⟨o₀, [], n, [], rfl, fun _ hp => (nomatch hp), hR, hws, by simpa using .nil, rfl, .inl ⟨rfl, rfl⟩⟩, ?_, fun it k1 k2 => ⟨?_, ?_⟩⟩
  · rintro i m' news' h' - F' N'
    exact ⟨_, F'.keep _ _ hr, rfl, _, rfl⟩
  · rintro i v m' news' h' tk hiv ⟨o, rl, n', fz, rfl, ne', hR', hws', R', len', cd'⟩ nit F' N'
    obtain ⟨q, hq, Tq, x2, t1, t2, rfl, hT, d2, u2, r2, c1, c2, c3, c4, vs2, cc1, cc2, y1, y2, y3, y4, y5⟩ := paired_get hv i v (by simpa using hiv)
    refine assign_triple rfl F' N' ⟨_, F'.keep _ _ hT, rfl, _, rfl⟩ rfl rfl rfl rfl fun h₁ tk₁ F₁ N₁ => ?_
    clear F' N' F N
    have lR : R < it := k1 _ (.head _)
    k_lt2 lR
    have hi : i < rows.length := by
      have := (Array.getElem?_eq_some_iff.mp hiv).1
      rw [List.size_toArray, paired_len hv] at this
      exact this
    have hql : q.2.2.length ≤ 1000 := hrl q (List.mem_of_getElem? hq)
    have ht2 : rows.take (i + 1) = rows.take i ++ [q] := by rw [List.take_add_one, hq]; rfl
    k_steps
    all_goals
      rename_i fz1 _ _ _ _ A1 _ _ _ _ _ _ F₂ N₂ hv₂
      have n1 : ∀ p ∈ fz1, p.1 ≠ 131 := A1.out (List.mem_cons_of_mem _ (List.mem_cons_of_mem _ (List.mem_cons_self)))
      have n1R : ∀ p ∈ fz1, p.1 ≠ R := A1.out (List.mem_cons_of_mem _ (List.mem_cons_self))
      have n1i : ∀ p ∈ fz1, p.1 ≠ it := A1.out (List.mem_cons_self)
      have nR : ∀ p ∈ fz, p.1 ≠ R := fun p hp => (ne' p hp).1
      have n131 : ∀ p ∈ fz, p.1 ≠ 131 := fun p hp => (ne' p hp).2
      have i131 : it ≠ 131 := Ne.symm (nit _ (List.mem_cons_of_mem _ (List.mem_cons_self)))
      refine rule_step F₂ N₂ X T C (by omega) n1 i131 (Nat.ne_of_gt h131) n131 fun x c' fz2 h₃ tk₃ F₃ N₃ ne₃ R₃ cd₃ => ?_
      clear F₂ N₂
      have n2R : ∀ p ∈ fz2, p.1 ≠ R := fun p hp => (ne₃ p hp).2.1
      have n2i : ∀ p ∈ fz2, p.1 ≠ it := fun p hp => (ne₃ p hp).1
      have n2 : ∀ p ∈ fz2, p.1 ≠ 131 := fun p hp => (ne₃ p hp).2.2
      k_steps
      rename_i F' N'
      rw [List.push_toArray] at N'
      have up : ∀ p ∈ fz, p ∈ fz2 ++ (fz1 ++ fz) := fun p hp => List.mem_append_right _ (List.mem_append_right _ hp)
      refine ⟨_, _, _, _, rfl, F', N', ?_, some c', _, _, _, rfl, ?_, hR', hws', ?_, ?_, .inr ⟨c', rfl, ?_⟩⟩
      · exact List.forall_mem_cons.mpr ⟨Nat.ne_of_lt lR, List.forall_mem_cons.mpr ⟨Ne.symm i131, all_app n2i (all_app n1i fun p hp => nit p (List.mem_cons_of_mem _ (List.mem_cons_of_mem _ hp)))⟩⟩
      · exact fun p hp => ⟨all_app n2R (all_app n1R nR) p hp, all_app n2 (all_app n1 n131) p hp⟩
      · rw [ht2, List.map_append]
        refine paired_snoc (paired_imp R' fun a b hx => ?_) ⟨x, c', rfl, rfl, ?_⟩
        · obtain ⟨y, c, e, ho, r⟩ := hx
          rcases cd₃ with ⟨e1, _⟩ | e1
          · rw [e1] at ho; cases ho
          · rw [e1] at ho
            exact ⟨y, c, e, ho, r.mono up⟩
        · show RuleIn _ _ _ _ _ (verdS wl q.2.2) _
          first | rw [verd_yes hv₂] | rw [verd_no hv₂]
          exact R₃.mono fun p hp => List.mem_append_left _ hp
      · rw [List.length_append, List.length_singleton, len']
      · rcases cd₃ with ⟨_, e1⟩ | e1
        · exact .inr (e1.mono fun p hp => List.mem_append_left _ hp)
        · rcases cd' with ⟨_, e2⟩ | ⟨c₂, e2, e3⟩
          · exact .inl (e2 ▸ e1)
          · rw [e1] at e2
            cases e2
            exact e3.imp id fun e => e.mono up
  · rintro m' news' h' tk ⟨o, rl, n', fz, rfl, ne', hR', hws', R', len', cd'⟩ F' N'
    rw [show (List.toArray rv).size = rows.length from by rw [List.size_toArray]; exact paired_len hv, List.take_length] at R'
    refine wpAny_execs_nil ?_
    refine h _ _ _ _ _ _ _ F' N' ne' hR' R' ?_
    rcases cd' with ⟨e, ho⟩ | c
    · left
      rw [List.size_toArray, paired_len hv] at e
      exact ⟨List.eq_nil_of_length_eq_zero e, ho⟩
    · exact .inr c
end

theorem lt_up {a b c d : Addr} {news : List (Addr × Obj)} (h : ∀ p ∈ news, p.1 < a) (h1 : a < b) (h2 : b < c) (h3 : c < d) : ∀ p ∈ news, p.1 < d := fun p hp => Nat.lt_trans (Nat.lt_trans (Nat.lt_trans (h p hp) h1) h2) h3
local macro_rules | `(tactic| walk_at "call ref") => `(tactic| ((with_reducible show wpAny _ _ (call (Value.ref 52) _) _ _ _); k_dflt (refine' entry_new ?F ?N ?X ?T ?d ?_; (case F => k_asm); (case N => k_asm); (case X => k_asm); (case T => k_asm); (case d => omega); k_whole); intro u' r' x' dx' t1' t2' t3' t4' h' tk' F' N' l1 l2 l3 l4; have l5 := lt_up l1 l2 l3 l4; (try k_lt l1); (try k_lt l5); k_lt2 l2; k_lt2 l3; k_lt2 l4; (try dsimp only); (try k_sweep)))
local macro_rules | `(tactic| walk_at "call builtin:list.extend") => `(tactic| (k_here; (with_reducible show wpAny _ _ (call (Value.builtin _) [Value.ref _, Value.ref _]) _ _ _); k_dflt (refine' m_extend ?F ?N ?b ?U ?_ ?z; (case F => k_asm); (case N => k_asm); (case b => first | exact News.get (by k_asm) (by k_mem) | exact Fr.keep (by k_asm) _ _ (by assumption)); (case U => k_updF); (case z => first | (simp only [List.size_toArray, List.length_take, List.length_drop, List.length_nil, sizeLine_eq]; omega) | (simp only [sizeLine_eq]; omega) | size_fits)); intro h' n' F' N'; (try dsimp only at N'); (try simp only [Array.empty_append] at N'); (try k_sweep)))
theorem drop10 {a b c d e f g i j k l : Addr × Obj} {r : List (Addr × Obj)} : ∀ p ∈ r, p ∈ a :: b :: c :: d :: e :: f :: g :: i :: j :: k :: l :: r := fun p hp => .tail _ (.tail _ (.tail _ (.tail _ (drop7 p hp))))
structure BookIn (P : Params) (fz : List (Addr × Obj)) (x : Addr) (specs : List (Str × Nat × Str)) (c' : Addr) : Prop where
  body : ∃ (d u r : Addr) (t1 t2 t3 t4 : Tok) (us rl : List Value) (c c2 : Nat), (x, instObj 52 d) ∈ fz ∧ (d, dictOf (entD P t1 t2 t3 t4 u r) 4) ∈ fz ∧ (r, PySem.W.listOf (List.toArray rl) c2) ∈ fz ∧ Paired (RuleEx P fz (some c')) rl specs
theorem EntAt.map {P : Params} {h h' : Heap} {x : Addr} {lets : List Str} (e : EntAt P h x lets) (hk : ∀ b o, h.get? b = some o → o.cls ≠ .none → h'.get? b = some o) : EntAt P h' x lets := by
  obtain ⟨d, u, r, t1, t2, t3, t4, vs, c, c2, m1, m2, m3, e, m4⟩ := e
  exact ⟨d, u, r, t1, t2, t3, t4, vs, c, c2, hk _ _ m1 (by simp), hk _ _ m2 (by simp), hk _ _ m3 (by simp), e, hk _ _ m4 (by simp)⟩
theorem RowAt.map {P : Params} {h h' : Heap} {v : Value} {row : Str × Nat × List Str} (e : RowAt P h v row) (hk : ∀ b o, h.get? b = some o → o.cls ≠ .none → h'.get? b = some o) : RowAt P h' v row := by
  obtain ⟨T, x, t, tr, e, m1, m2⟩ := e
  exact ⟨T, x, t, tr, e, hk _ _ m1 (by simp), m2.map hk⟩
section
variable {w : World} {mg mb : Str → Option Value} {p : Program} {loose : List Str} {mean : ExcName → Option Value}
  {dp un : Nat} {fr : Option (List Env)} {gd : Option (List Code)} {s : Shared} {Q E : Value → Shared → Prop} {h₀ : Heap} {L : Addr} {m : Str → Option Value} {news : List (Addr × Obj)}
theorem book_end {g h' : Heap} {L' : Addr} {m' : Str → Option Value} {full fz : List (Addr × Obj)} {tk' : Nat} {x dx u r c' : Addr} {t1 t2 t3 t4 : Tok} {rl us : List Value} {cc : Nat} {specs : List (Str × Nat × Str)} {o₀ : Option Addr} {ks : List Addr}
    (F' : Fr g L' h' m') (N' : News g L' h' full) (kF : Fr h₀ L h' m) (kN : News h₀ L h' full) (keep : ∀ b o, s.heap.get? b = some o → b ∉ ks → g.get? b = some o) (hks : ks = [131])
    (m0 : (131, tabObj (lamTab w.params c')) ∈ full) (hs : ∀ p ∈ fz, p ∈ full) (h131 : ∀ p ∈ fz, p.1 ≠ 131) (m1 : (x, instObj 52 dx) ∈ full) (m2 : (dx, dictOf (entD w.params t1 t2 t3 t4 u r) 4) ∈ full) (m4 : (r, PySem.W.listOf (List.toArray rl) cc) ∈ full)
    (P₂ : Paired (RuleEx w.params fz (some c')) rl specs) (hc : o₀ = some c' ∨ CodeIn fz c')
    (h : ∀ x c' fz h' tk', Fr h₀ L h' m → News h₀ L h' ((131, tabObj (lamTab w.params c')) :: fz) → (∀ b o, b ≠ 131 → s.heap.get? b = some o → h'.get? b = some o ∧ ∀ p ∈ fz, p.1 ≠ b) → (∀ p ∈ fz, p.1 ≠ 131) →
     BookIn w.params fz x specs c' → (o₀ = some c' ∨ CodeIn fz c') → Q (.ref x) { s with heap := h', toks := tk' }) :
    Q (.ref x) { s with heap := h', toks := tk' } := by
  subst hks
  have up : ∀ p ∈ fz, p ∈ full.filter (fun p => p.1 != 131) := fun p hp => List.mem_filter.mpr ⟨hs p hp, bne_iff_ne.mpr (h131 p hp)⟩
  refine h x c' (full.filter (fun p => p.1 != 131)) h' tk' kF (news_front kN m0 fun p hp => (List.mem_filter.mp hp).1) (fun b o hb e => ?_) (fun p hp => bne_iff_ne.mp (List.mem_filter.mp hp).2)
    ⟨dx, u, r, t1, t2, t3, t4, us, rl, 0, cc, mem_f kN m0 m1 (cls_ne (by simp)), mem_f kN m0 m2 (cls_ne (by simp)), mem_f kN m0 m4 (cls_ne (by simp)), paired_imp P₂ fun a b e => e.mono up⟩ (hc.imp id fun e => e.mono up)
  have gk := keep b o e (by simpa using hb)
  refine ⟨F'.keep _ _ gk, fun p hp q => ?_⟩
  have n := (N' p (List.mem_filter.mp hp).1).2.2
  rw [q, gk] at n; cases n
theorem book_new {xw Dr : Addr} {nr : Nat} {rv : List Value} {rows : List (Str × Nat × List Str)} {wl : List Str} {o₀ : Option Addr}
   (F₀ : Fr h₀ L s.heap m) (N₀ : News h₀ L s.heap [(131, tabObj (tabOf w.params o₀))]) (X₀ : (hd.heap_39 w.params).In h₀) (T₀ : Top p loose mean mg mb h₀) (C₀ : CodeHd h₀ 135 131) (hdp : dp + 9 < recursionLimit) (hun : un + 110 < cLine)
   (hw : EntAt w.params s.heap xw wl) (wok : StrsOk wl) (wlen : wl.length ≤ 1000)
   (hr : s.heap.get? Dr = some (PySem.W.listOf (List.toArray rv) nr)) (hv : Paired (RowAt w.params s.heap) rv rows) (hrl : ∀ row ∈ rows, row.2.2.length ≤ 1000) (hrn : rows.length ≤ 100) (hne : rows ≠ [])
   (h : ∀ x c' fz h' tk', Fr h₀ L h' m → News h₀ L h' ((131, tabObj (lamTab w.params c')) :: fz) → (∀ b o, b ≠ 131 → s.heap.get? b = some o → h'.get? b = some o ∧ ∀ p ∈ fz, p.1 ≠ b) → (∀ p ∈ fz, p.1 ≠ 131) →
     BookIn w.params fz x (rows.map (specOf wl)) c' → (o₀ = some c' ∨ CodeIn fz c') → Q (.ref x) { s with heap := h', toks := tk' }) :
   wpAny (model PySem.Challenge.pw_tv0029_01 w) (aA dp fr gd un) (call (.ref 150) [.ref Dr, .ref xw]) Q E s := by
  have h1 : s.heap.get? 131 = some (tabObj (tabOf w.params o₀)) := (N₀ _ (.head _)).1
  refine wpAny_call ?_
  refine enterN (dp := dp) (fr := fr) (gd := gd) (un := un) F₀ N₀ X₀ T₀ (by k_is) (by k_is) (by omega) (BindsTo.of_eq rfl) (locs rfl) ?_ rfl rfl rfl (by decide)
  intro g h₁ tk FG F N X T keep
  have C := C₀.keeps FG.keep
  have kc : ∀ b o, s.heap.get? b = some o → o.cls ≠ .none → g.get? b = some o := fun b o e hc => keep b o e fun hm => by
    have e' : b = 131 := by simpa using hm
    rw [e', h1] at e
    exact hc (by rw [← Option.some.inj e])
  obtain ⟨dw, uw, rw', b1, b2, b3, b4, wv, cw1, cw2, w1, w2, w3, w4, w5⟩ := hw.map kc
  have hv' : Paired (RowAt w.params g) rv rows := paired_imp hv fun a b x => x.map kc
  k_steps
  rename_i F' N'
  refine book_loop F' N' X T C (by omega) (by omega) (by assumption) rfl rfl rfl w1 w2 w3 w4 w5 wok wlen (kc _ _ hr (by simp)) hv' hrl hrn fun o rl n' fz m' h₂ tk₂ F₂ N₂ ne₂ hR₂ P₂ cd₂ => ?_
  clear F' N'
  have hrl' : rl.length ≤ 100 := by rw [paired_len P₂, List.length_map]; exact hrn
  have hrl2 : rl.length ≤ 10000 := by omega
  obtain ⟨c', ho, hc⟩ : ∃ c', o = some c' ∧ (o₀ = some c' ∨ CodeIn fz c') := cd₂.elim (fun e => absurd e.1 hne) id
  subst ho
  k_steps
  rename_i F' N' A' M1 M2 M3 S M4 kF kN _ _
  rw [List.take_append_drop] at M4
  refine book_end (us := []) F' N' kF kN keep rfl (by k_mem) (fun p hp => ?_) (fun p hp => (ne₂ p hp).2) (by k_mem) (by k_mem) (by k_mem) P₂ hc h
  exact List.mem_append_right _ (.tail _ (drop10 p hp))
end

section
variable {prog : Program} {w : World} {A : Around} {s : Shared} {h₀ : Heap} {L : Addr} {m : Str → Option Value} {env : Env}
/-- the turns of a list comprehension with one test, the two ends of each turn joined -/
theorem rest_join {ct elt : Expr} {x : Str} {scope : Scope} {cl : List (Str × Addr)} {S : List (Addr × Obj) → Prop} {P : Nat → Value → Prop} {Fin : List Value → List (Addr × Obj) → Prop} {news : List (Addr × Obj)} (hS : S news) (p : Nat → Bool) (R : Nat → Value → Prop) {b : Nat}
    (turn : ∀ i v I oI C oC D ys m₂ h tk (E' : Value → Shared → Prop), i < b → P i v → LCg.NsObj oC m₂ → m₂ x = some v → Fr h₀ L h m → News h₀ L h ((I, oI) :: (C, oC) :: (D, LCg.lst ys) :: news) → C ≠ D →
      wpAny (model prog w) A (isTrue ct (compEnvC scope cl C env) (eval ct (compEnvC scope cl C env))) (fun ok s' => ok = p i ∧ ∃ tk', s' = { s with heap := h, toks := tk' }) E' { s with heap := h, toks := tk } ∧
      (p i = true → ∀ tk, wpAny (model prog w) A (eval elt (compEnvC scope cl C env)) (fun y s' => R i y ∧ ∃ tk', s' = { s with heap := h, toks := tk' }) E' { s with heap := h, toks := tk }))
    : ∀ (n i : Nat) (ys : List Value), i + n ≤ b → (∀ ys', Paired R ((List.range' i n).filter p) ys' → Fin (ys ++ ys') news) → LCt.CompRestT prog w A h₀ L m env ct elt x scope cl s S P Fin n i ys news
  | 0, i, ys, _, fin => by
    have := fin [] .nil
    rw [List.append_nil] at this
    exact LCt.CompRestT.zero this
  | n + 1, i, ys, hb, fin => by
    refine LCt.CompRestT.succ fun v I oI C oC D m₂ h tk E' hP hN hx F N off ne => ?_
    obtain ⟨ht, he⟩ := turn i v I oI C oC D ys m₂ h tk E' (by omega) hP hN hx F N ne.2.2
    refine wpAny_mono ht (fun ok s' hq => ?_) fun _ _ e => e
    obtain ⟨rfl, tk', rfl⟩ := hq
    cases hp : p i with
    | true =>
      simp only [if_true]
      refine wpAny_mono (he hp tk') (fun y s' hq => ?_) fun _ _ e => e
      obtain ⟨hR, tk₂, rfl⟩ := hq
      refine LCg.CompEnd.intro F N news (fun _ h => h) off hS ?_
      refine rest_join hS p R turn n (i + 1) (ys ++ [y]) (by omega) fun ys' hP' => ?_
      rw [List.append_assoc]
      refine fin _ ?_
      rw [List.range'_succ, List.filter_cons, if_pos hp]
      exact .cons hR hP'
    | false =>
      simp only [Bool.false_eq_true, if_false]
      refine LCg.CompEnd.intro F N news (fun _ h => h) off hS ?_
      refine rest_join hS p R turn n (i + 1) ys (by omega) fun ys' hP' => ?_
      refine fin _ ?_
      rw [List.range'_succ, List.filter_cons, hp]
      exact hP'
end
def gS (k : Nat) : Str := Str.ofString "G" ++ Str.ofString (toString ((0 : Int) + (k : Int)))
def bitB (g k : Nat) : Bool := decide (g / 2 ^ k % 2 = 1)
def uS (u : Nat) : Str := Str.ofString "U" ++ Str.ofString (toString (u : Int))
def wordsL (u g : Nat) : List Str := uS u :: ((List.range' 0 3).filter (bitB g)).map gS
def wordsS (u g : Nat) : Str := Txt.join (Str.ofString " ") (wordsL u g) ++ Str.ofString "/u0 g0"
theorem words_fit : ∀ u < 5, ∀ g < 8, JoinOk (Str.ofString " ") (wordsL u g) = true := by decide +kernel
theorem words_len : ∀ u < 5, ∀ g < 8, (Txt.join (Str.ofString " ") (wordsL u g)).length ≤ 100 := by decide +kernel
theorem strs_of {f : Nat → Str} {is : List Nat} {ys : List Value} (h : Paired (fun i y => ∃ t, y = .str (f i) t) is ys) : StrsAre ys (is.map f) := by
  induction h with
  | nil => exact .nil
  | cons x _ ih => obtain ⟨t, rfl⟩ := x; exact .cons _ t ih
theorem f_join {prog : Program} {w : World} {A : Around} {E : Value → Shared → Prop} {s : Shared} {Q : Value → Shared → Prop} {D : Addr} {vs : List Value} {ss : List Str} {n : Nat} {x : Str} {t : Tok} (hl : s.heap.get? D = some (PySem.W.listOf (List.toArray vs) n)) (hs : StrsAre vs ss) (hok : JoinOk x ss = true)
    (hq : ∀ t' k, Q (.str (Txt.join x ss) t') { s with toks := k }) : wpAny (model prog w) A (call (.builtin "str.join") [.str x t, .ref D]) Q E s := by
  obtain ⟨l, rfl, hls⟩ := strs_vals hs
  exact SC.join ⟨_, hl, rfl, _, rfl⟩ hls hok hq
theorem bit_eq (g i : Nat) : ((Int.fdiv (g : Int) (2 ^ ((0 : Int) + (i : Int)).toNat)).fmod 2 == 1) = bitB g i := by
  have e1 : ((0 : Int) + (i : Int)).toNat = i := by omega
  have e2 : (2 : Int) ^ i = ((2 ^ i : Nat) : Int) := by norm_cast
  rw [e1, e2, fdiv_nat]
  show (Int.fmod ((g / 2 ^ i : Nat) : Int) ((2 : Nat) : Int) == 1) = _
  rw [fmod_nat]
  unfold bitB
  by_cases h : g / 2 ^ i % 2 = 1
  · rw [h]; rfl
  · have : ((g / 2 ^ i % 2 : Nat) : Int) ≠ 1 := by omega
    rw [decide_eq_false h]
    exact beq_eq_false_iff_ne.mpr this
section
variable {w : World} {mg mb : Str → Option Value} {p : Program} {loose : List Str} {mean : ExcName → Option Value}
  {dp un : Nat} {fr : Option (List Env)} {gd : Option (List Code)} {s : Shared} {Q E : Value → Shared → Prop} {h₀ : Heap} {L : Addr} {m : Str → Option Value} {news : List (Addr × Obj)}
theorem words_new {user groups : Nat} {t1 t2 : Tok}
   (F₀ : Fr h₀ L s.heap m) (N₀ : News h₀ L s.heap news) (X₀ : (hd.heap_39 w.params).In h₀) (T₀ : Top p loose mean mg mb h₀) (hdp : dp + 6 < recursionLimit)
   (hu : user < 5) (hg : groups < 8)
   (h : ∀ h' tk' t, Fr h₀ L h' m → News h₀ L h' news → Q (.str (wordsS user groups) t) { s with heap := h', toks := tk' }) :
   wpAny (model PySem.Challenge.pw_tv0029_01 w) (aA dp fr gd un) (call (.ref 155) [.int user t1, .int groups t2]) Q E s := by
  refine wpAny_call ?_
  refine enterC (dp := dp) (fr := fr) (gd := gd) (un := un) F₀ (news := []) (fun _ hp => nomatch hp) X₀ T₀ (by k_is) (by k_is) (by omega) (BindsTo.of_eq rfl) rfl (by decide +kernel) ?_ rfl rfl rfl
  intro g h₁ tk cells FG F N Y X T keep l1
  k_cells Y
  simp only [List.cons_append, List.nil_append] at N
  k_steps
  k_dflt (refine LCt.ListComp_T (F₀ := by k_asm) (by with_unfolding_all rfl) (by decide) (by rfl) (by decide) (by rfl) ?_)
  k_dflt lct_toSrc
  refine rest_join trivial (bitB groups) (fun i y => ∃ t, y = .str (gS i) t) (b := 3) ?_ 3 0 [] (by omega) fun ys' hys => ?_
  · intro i v I oI C oC D ys m₂ h tk E' hi hP hN hx F' N' hCD
    obtain ⟨t, rfl⟩ := hP
    constructor
    · k_steps
      exact bit_eq groups i
    · intro _ tk
      k_steps
  · dsimp only [List.nil_append]
    have hyl : ys'.length ≤ 3 := by
      rw [← paired_len hys]
      exact Nat.le_trans (List.length_filter_le _ _) (by decide)
    k_steps
    rename_i F' N'
    refine f_join (N'.get (by k_mem)) (.cons (uS user) _ (strs_of hys)) (words_fit user hu groups hg) fun t' k => ?_
    have hwl := words_len user hu groups hg
    unfold wordsL at hwl
    k_steps
    exact h _ _ _ (by assumption) (news_keeps N₀ fun b o e => Fr.keep (h₀ := g) (by assumption) _ _ (keep b o e (by simp)))
end

def subB (h q : Nat) : Bool := decide (h &&& q = q)
def mineS (rights : List Nat) (groups : Nat) : List Nat := ((List.range' 0 3).filter (fun k => decide (0 < rights.getD k 0) && bitB groups k)).map (fun k => rights.getD k 0 - 1)
def tailS (rights : List Nat) (c0 groups wish : Nat) : Bool :=
  if mineS rights groups ≠ [] then decide ((mineS rights groups).filter (fun one => subB (one &&& (c0 / 8 % 8)) wish) ≠ []) else subB c0 wish
theorem ints_of {f : Nat → Nat} {is : List Nat} {ys : List Value} (h : Paired (fun i y => ∃ t, y = .int ((f i : Nat) : Int) t) is ys) : IntsAre ys (is.map fun i => ((f i : Nat) : Int)) := by
  induction h with
  | nil => exact .nil
  | cons x _ ih => obtain ⟨t, rfl⟩ := x; exact .cons _ t ih
theorem pos_int {r0 r1 r2 i : Nat} : [(r0 : Int), r1, r2].getD ((0 : Int) + (i : Int)).toNat 0 = (([r0, r1, r2].getD i 0 : Nat) : Int) := by
  rw [show ((0 : Int) + (i : Int)).toNat = i by omega]
  match i with
  | 0 => rfl
  | 1 => rfl
  | 2 => rfl
  | _ + 3 => rfl
theorem paired_get2 {α β : Type} {R : α → β → Prop} {l₁ : List α} {l₂ : List β} (h : Paired R l₁ l₂) : ∀ (j : Nat) b, l₂[j]? = some b → ∃ a, l₁[j]? = some a ∧ R a b := by
  induction h with
  | nil => intro j a e; simp at e
  | cons x _ ih =>
    intro j a e
    cases j with
    | zero => simp at e; subst e; exact ⟨_, rfl, x⟩
    | succ j => exact ih j a (by simpa using e)
theorem sub_eq (a q : Nat) : (Builtin.bitAnd (a : Int) (q : Int) == (q : Int)) = subB a q := by
  rw [bitAnd_nat]
  unfold subB
  by_cases h : a &&& q = q
  · rw [h, decide_eq_true rfl]; exact beq_iff_eq.mpr rfl
  · rw [decide_eq_false h]
    exact beq_eq_false_iff_ne.mpr (by omega)
local macro_rules | `(tactic| walk_at "eval Name") => `(tactic| (name_kind "local"; first | refine ldLoc (by assumption) (by rfl) ?_ | refine ldLoc (by assumption) (by assumption) ?_))
theorem range_map (l : List Nat) : (List.range' 0 l.length).map (fun i => l.getD i 0) = l := by
  refine List.ext_getElem (by simp) fun i h1 h2 => ?_
  rw [List.getElem_map, List.getElem_range', List.getD_eq_getElem?_getD]
  simp only [Nat.zero_add, Nat.one_mul]
  rw [List.getElem?_eq_getElem h2]
  rfl
theorem filt_ne (l : List Nat) (p : Nat → Bool) : (!decide ((List.map (fun i => ((l.getD i 0 : Nat) : Int)) ((List.range' 0 l.length).filter fun i => p (l.getD i 0))) = [])) = decide (l.filter p ≠ []) := by
  have e : l.filter p = ((List.range' 0 l.length).filter fun i => p (l.getD i 0)).map fun i => l.getD i 0 := by
    conv => lhs; rw [← range_map l]
    rw [List.filter_map]
    rfl
  rw [e]
  by_cases h : ((List.range' 0 l.length).filter fun i => p (l.getD i 0)) = []
  · rw [h]; rfl
  · rw [decide_eq_false (by simpa using h), decide_eq_true (by simpa using h)]
    rfl
def tailMay (K : Frag) : List Stmt := (fnK K 160).1.drop 7
section
variable {w : World} {mg mb : Str → Option Value} {p : Program} {loose : List Str} {mean : ExcName → Option Value}
  {dp un : Nat} {fr : Option (List Env)} {gd : Option (List Code)} {s : Shared} {Q E : Value → Shared → Prop} {h₀ : Heap} {L : Addr} {m : Str → Option Value} {news : List (Addr × Obj)}
theorem may_tail {R U : Addr} {or om ow og : Obj} {r0 r1 r2 c0 groups wish nr nu : Nat} {t0 t1 t2 tm tk tg tw : Tok} {us : Array Value} {FQ : Flow → Shared → Prop}
   (F : Fr h₀ L s.heap m) (N : News h₀ L s.heap [(R, PySem.W.listOf (List.toArray [.int r0 t0, .int r1 t1, .int r2 t2]) nr), (U, PySem.W.listOf us nu), (L + 1 + 1 + 1 + 1, or), (L + 1 + 1 + 1, om), (L + 1 + 1, ow), (L + 1, og)]) (X : (hd.heap_39 w.params).In h₀) (T : Top p loose mean mg mb h₀)
   (hun : un + 100 < cLine) (dr : or.data = .cell (some (.ref R))) (dm : om.data = .cell (some (.int (c0 / 8 % 8 : Nat) tk))) (dw : ow.data = .cell (some (.int wish tw))) (dg : og.data = .cell (some (.int groups tg))) (hmo : m "mode" = some (.int c0 tm))
   (l1 : @LT.lt Nat _ (L + 1 + 1 + 1 + 1) U) (l2 : @LT.lt Nat _ U R)
   (h : ∀ h' tk m' news', Fr h₀ L h' m' → News h₀ L h' news' → FQ (.ret (.bool (tailS [r0, r1, r2] c0 groups wish))) { s with heap := h', toks := tk }) :
   wpAny (model PySem.Challenge.pw_tv0029_01 w) (aA dp fr gd un) (execs (tailMay (hd.heap_39 w.params)) (envOfC "_law_may" (fnK (hd.heap_39 w.params) 160).2 L 160 (.ref 159))) FQ (fun _ _ => False) s := by
  show wpAny _ _ (execs (Stmt.Assign _ _ _ :: _) (envOfC _ (Scope.mk _ _ _ _ _) _ _ _)) _ _ _
  walk1
  walk1
  refine rest_join trivial (fun i => decide (0 < [r0, r1, r2].getD i 0) && bitB groups i) (fun i y => ∃ t, y = .int (([r0, r1, r2].getD i 0 - 1 : Nat) : Int) t) (b := 3) ?_ 3 0 [] (by omega) fun ys' hys => ?_
  · intro i v I oI C oC D ys m₂ h tk E' hi hP hN hx F' N' hCD
    obtain ⟨t, rfl⟩ := hP
    constructor
    · k_steps
      · rename_i h1 h2
        rw [pos_int] at h1
        have h3 : 0 < [r0, r1, r2].getD i 0 := by omega
        rw [decide_eq_true h3, Bool.true_and, ← bit_eq]
        exact (beq_iff_eq.mpr h2).symm
      · rename_i h1 h2
        rw [pos_int] at h1
        have h3 : 0 < [r0, r1, r2].getD i 0 := by omega
        rw [decide_eq_true h3, Bool.true_and, ← bit_eq]
        exact (beq_eq_false_iff_ne.mpr h2).symm
      · rename_i h1
        rw [pos_int] at h1
        have h3 : ¬ 0 < [r0, r1, r2].getD i 0 := by omega
        rw [decide_eq_false h3, Bool.false_and]
    · intro hp tk
      have h3 : 0 < [r0, r1, r2].getD i 0 := of_decide_eq_true (Bool.and_eq_true_iff.mp hp).1
      k_steps
      rw [pos_int, sub1 h3]
  · dsimp only [List.nil_append]
    have hyl : ys'.length ≤ 3 := by
      rw [← paired_len hys]
      exact Nat.le_trans (List.length_filter_le _ _) (by decide)
    have hI := ints_of hys
    k_steps
    · rename_i F' N' _ _ _ _ _ _ _ hm
      dsimp only
      have hm0 : mineS [r0, r1, r2] groups = [] := by
        have := of_decide_eq_true hm
        rw [List.map_eq_nil_iff] at this
        unfold mineS
        rw [this]
        rfl
      have e : subB c0 wish = tailS [r0, r1, r2] c0 groups wish := by rw [tailS, if_neg (fun c => c hm0)]
      rw [sub_eq, e]
      exact h _ _ _ _ F' N'
    · rename_i hm
      have hml : mineS [r0, r1, r2] groups ≠ [] := by
        intro e
        refine of_decide_eq_false hm ?_
        rw [List.map_eq_nil_iff]
        unfold mineS at e
        rwa [List.map_eq_nil_iff] at e
      have hlen : ys'.toArray.size = (mineS [r0, r1, r2] groups).length := by
        rw [List.size_toArray, ← paired_len hys]
        unfold mineS
        rw [List.length_map]
      k_dflt (refine LCt.ListComp_T (F₀ := by k_asm) (by with_unfolding_all rfl) (by decide) (by rfl) (by decide) (by rfl) ?_)
      walk1
      refine LCt.CompSrcT.ledger rfl (by k_asm) (by k_asm) (by k_mem) ?_ fun g' => ?_
      · rw [List.size_toArray, sizeLine_eq]; omega
      · refine rest_join (.inr ⟨_, by k_mem, rfl, _, rfl⟩) (fun i => subB ((mineS [r0, r1, r2] groups).getD i 0 &&& (c0 / 8 % 8)) wish) (fun i y => ∃ t, y = .int (((mineS [r0, r1, r2] groups).getD i 0 : Nat) : Int) t) (b := ys'.toArray.size) ?_ _ 0 [] (by omega) fun zs hzs => ?_
        · intro i v I oI C oC D ys m₂ h tk E' hi hP hN hx F' N' hCD
          obtain ⟨k, hk, t, rfl⟩ := paired_get2 hys i v (by simpa using hP)
          have hml : (mineS [r0, r1, r2] groups).getD i 0 = [r0, r1, r2].getD k 0 - 1 := by
            unfold mineS
            rw [List.getD_eq_getElem?_getD, List.getElem?_map, hk]
            rfl
          rw [hml]
          constructor
          · k_steps
            rw [bitAnd_nat]
            exact sub_eq _ _
          · intro _ tk
            k_steps
        · dsimp only [List.nil_append]
          have hJ := ints_of hzs
          k_steps
          rename_i F' N' _ _ _ _ _ _ _ _ _
          have e := filt_ne (mineS [r0, r1, r2] groups) (fun one => subB (one &&& (c0 / 8 % 8)) wish)
          rw [← hlen] at e
          have e2 : decide ((mineS [r0, r1, r2] groups).filter (fun one => subB (one &&& (c0 / 8 % 8)) wish) ≠ []) = tailS [r0, r1, r2] c0 groups wish := by rw [tailS, if_pos hml]
          rw [e, e2]
          exact h _ _ _ _ F' N'
end

def rightsS (c0 c2 c4 : Nat) : List Nat := if c4 % 3 = 0 then [c0 / 8 % 8 + 1, 0, 0] else [c2 % 8 + 1, c2 / 8 % 9, c2 / 72 % 9]
def usersS (c1 : Nat) : List Nat := [0, c1 % 9, c1 / 9 % 9, 0, 0]
def mayS (c0 c1 c2 c4 user groups wish : Nat) : Bool :=
  if user = 0 then subB (c0 / 64) wish
  else if c4 % 3 ≠ 0 ∧ 0 < (usersS c1).getD user 0 then subB (((usersS c1).getD user 0 - 1) &&& (c0 / 8 % 8)) wish
  else tailS (rightsS c0 c2 c4) c0 groups wish
theorem users_int {c1 user : Nat} : [0, Int.fmod (c1 : Int) ((9 : Nat) : Int), Int.fmod (Int.fdiv (c1 : Int) ((9 : Nat) : Int)) ((9 : Nat) : Int), 0, 0].getD (Int.toNat (user : Int)) 0 = (((usersS c1).getD user 0 : Nat) : Int) := by
  rw [fdiv_nat, fmod_nat, fmod_nat]
  match user with
  | 0 => rfl
  | 1 => rfl
  | 2 => rfl
  | 3 => rfl
  | 4 => rfl
  | _ + 5 => rfl
section
variable {w : World} {mg mb : Str → Option Value} {p : Program} {loose : List Str} {mean : ExcName → Option Value}
  {dp un : Nat} {fr : Option (List Env)} {gd : Option (List Code)} {s : Shared} {Q E : Value → Shared → Prop} {h₀ : Heap} {L : Addr} {m : Str → Option Value} {news : List (Addr × Obj)}
theorem may_tail' {R U : Addr} {or om ow og : Obj} {r0 r1 r2 c0 groups wish nr nu : Nat} {i0 i1 i2 ik : Int} {t0 t1 t2 tm tk tg tw : Tok} {us : Array Value} {FQ : Flow → Shared → Prop}
   (F : Fr h₀ L s.heap m) (N : News h₀ L s.heap [(R, PySem.W.listOf (List.toArray [.int i0 t0, .int i1 t1, .int i2 t2]) nr), (U, PySem.W.listOf us nu), (L + 1 + 1 + 1 + 1, or), (L + 1 + 1 + 1, om), (L + 1 + 1, ow), (L + 1, og)]) (X : (hd.heap_39 w.params).In h₀) (T : Top p loose mean mg mb h₀)
   (hun : un + 100 < cLine) (dr : or.data = .cell (some (.ref R))) (dm : om.data = .cell (some (.int ik tk))) (dw : ow.data = .cell (some (.int wish tw))) (dg : og.data = .cell (some (.int groups tg))) (hmo : m "mode" = some (.int c0 tm))
   (l1 : @LT.lt Nat _ (L + 1 + 1 + 1 + 1) U) (l2 : @LT.lt Nat _ U R) (e0 : i0 = (r0 : Nat)) (e1 : i1 = (r1 : Nat)) (e2 : i2 = (r2 : Nat)) (ek : ik = (c0 / 8 % 8 : Nat))
   (h : ∀ h' tk m' news', Fr h₀ L h' m' → News h₀ L h' news' → FQ (.ret (.bool (tailS [r0, r1, r2] c0 groups wish))) { s with heap := h', toks := tk }) :
   wpAny (model PySem.Challenge.pw_tv0029_01 w) (aA dp fr gd un) (execs (tailMay (hd.heap_39 w.params)) (envOfC "_law_may" (fnK (hd.heap_39 w.params) 160).2 L 160 (.ref 159))) FQ (fun _ _ => False) s := by
  subst e0; subst e1; subst e2; subst ek
  exact may_tail F N X T hun dr dm dw dg hmo l1 l2 h
theorem may_new {cl : Addr} {c0 c1 c2 c3 c4 c5 user groups wish : Nat} {t0 t1 t2 t3 t4 t5 tu tg tw : Tok}
   (F₀ : Fr h₀ L s.heap m) (N₀ : News h₀ L s.heap news) (X₀ : (hd.heap_39 w.params).In h₀) (T₀ : Top p loose mean mg mb h₀) (hdp : dp + 6 < recursionLimit) (hun : un + 110 < cLine)
   (hc : s.heap.IsList cl #[.int c0 t0, .int c1 t1, .int c2 t2, .int c3 t3, .int c4 t4, .int c5 t5])
   (hu : user < 5)
   (h : ∀ h' tk' , Fr h₀ L h' m → News h₀ L h' news → Q (.bool (mayS c0 c1 c2 c4 user groups wish)) { s with heap := h', toks := tk' }) :
   wpAny (model PySem.Challenge.pw_tv0029_01 w) (aA dp fr gd un) (call (.ref 160) [.ref cl, .int user tu, .int groups tg, .int wish tw]) Q E s := by
  refine wpAny_call ?_
  refine enterC (dp := dp) (fr := fr) (gd := gd) (un := un) F₀ (news := []) (fun _ hp => nomatch hp) X₀ T₀ (by k_is) (by k_is) (by omega) (BindsTo.of_eq rfl) rfl (by decide +kernel) ?_ rfl rfl rfl
  intro g h₁ tk cells FG F N Y X T keep l1
  have hc' : g.IsList cl #[.int c0 t0, .int c1 t1, .int c2 t2, .int c3 t3, .int c4 t4, .int c5 t5] := by
    obtain ⟨o, e, r⟩ := hc
    exact ⟨o, keep _ _ e (by simp), r⟩
  k_cells Y
  simp only [List.cons_append, List.nil_append] at N
  have fin : ∀ h' tk' (m' : Str → Option Value) news', Fr g s.heap.objs.size h' m' → News g s.heap.objs.size h' news' → LeaveK h₀ L m g (fun r s' => match r with | .ok (.ret v) => Q v s' | .ok _ => False | .error e => E e s') (.bool (mayS c0 c1 c2 c4 user groups wish)) { s with heap := h', toks := tk' } := fun h' tk' m' news' F' N' =>
    leaveK_ F' N' fun kF _ => h _ _ kF (news_keeps N₀ fun b o e => F'.keep _ _ (keep b o e (by simp)))
  have fin2 : ∀ h' tk', Fr h₀ L h' m → (∀ b o, g.get? b = some o → h'.get? b = some o) → Q (.bool (mayS c0 c1 c2 c4 user groups wish)) { s with heap := h', toks := tk' } := fun h' tk' kF hk =>
    h _ _ kF (news_keeps N₀ fun b o e => hk _ _ (keep b o e (by simp)))
  have z0 : (([(c0 : Int), c1, c2, c3, c4, c5].getD (Int.toNat 0) 0).fdiv 8).fmod 8 = ((c0 / 8 % 8 : Nat) : Int) := by
    show Int.fmod (Int.fdiv (c0 : Int) ((8 : Nat) : Int)) ((8 : Nat) : Int) = _
    rw [fdiv_nat, fmod_nat]
  have z3 : ([(c0 : Int), c1, c2, c3, c4, c5].getD (Int.toNat 2) 0).fmod 8 + 1 = ((c2 % 8 + 1 : Nat) : Int) := by
    show Int.fmod (c2 : Int) ((8 : Nat) : Int) + 1 = _
    rw [fmod_nat]
    rfl
  have z4 : (([(c0 : Int), c1, c2, c3, c4, c5].getD (Int.toNat 2) 0).fdiv 8).fmod 9 = ((c2 / 8 % 9 : Nat) : Int) := by
    show Int.fmod (Int.fdiv (c2 : Int) ((8 : Nat) : Int)) ((9 : Nat) : Int) = _
    rw [fdiv_nat, fmod_nat]
  have z5 : (([(c0 : Int), c1, c2, c3, c4, c5].getD (Int.toNat 2) 0).fdiv 72).fmod 9 = ((c2 / 72 % 9 : Nat) : Int) := by
    show Int.fmod (Int.fdiv (c2 : Int) ((72 : Nat) : Int)) ((9 : Nat) : Int) = _
    rw [fdiv_nat, fmod_nat]
  k_steps
  · have a1 : (user : Int) = 0 := by assumption
    show Q (.bool (Builtin.bitAnd (Int.fdiv (c0 : Int) ((64 : Nat) : Int)) (wish : Int) == (wish : Int))) _
    rw [fdiv_nat, sub_eq]
    have e : subB (c0 / 64) wish = mayS c0 c1 c2 c4 user groups wish := by rw [mayS, if_pos (by omega)]
    rw [e]
    exact fin2 _ _ (by assumption) (Fr.keep (by assumption))
  · have a0 : Int.fmod (c4 : Int) ((3 : Nat) : Int) ≠ 0 := by assumption
    have a1 : (user : Int) ≠ 0 := by assumption
    have a2 : 0 < [0, Int.fmod (c1 : Int) ((9 : Nat) : Int), Int.fmod (Int.fdiv (c1 : Int) ((9 : Nat) : Int)) ((9 : Nat) : Int), 0, 0].getD (Int.toNat (user : Int)) 0 := by assumption
    rw [fmod_nat] at a0
    rw [users_int] at a2
    show Q (.bool (Builtin.bitAnd (Builtin.bitAnd ([0, Int.fmod (c1 : Int) ((9 : Nat) : Int), Int.fmod (Int.fdiv (c1 : Int) ((9 : Nat) : Int)) ((9 : Nat) : Int), 0, 0].getD (Int.toNat (user : Int)) 0 - 1) (Int.fmod (Int.fdiv (c0 : Int) ((8 : Nat) : Int)) ((8 : Nat) : Int))) (wish : Int) == (wish : Int))) _
    have a3 : 0 < (usersS c1).getD user 0 := by omega
    rw [users_int, fdiv_nat, fmod_nat, sub1 a3, bitAnd_nat, sub_eq]
    have e : subB (((usersS c1).getD user 0 - 1) &&& (c0 / 8 % 8)) wish = mayS c0 c1 c2 c4 user groups wish := by rw [mayS, if_neg (by omega), if_pos ⟨by omega, a3⟩]
    rw [e]
    exact fin2 _ _ (by assumption) (Fr.keep (by assumption))
  · have a0 : Int.fmod (c4 : Int) ((3 : Nat) : Int) ≠ 0 := by assumption
    have a1 : (user : Int) ≠ 0 := by assumption
    have a2 : ¬ 0 < [0, Int.fmod (c1 : Int) ((9 : Nat) : Int), Int.fmod (Int.fdiv (c1 : Int) ((9 : Nat) : Int)) ((9 : Nat) : Int), 0, 0].getD (Int.toNat (user : Int)) 0 := by assumption
    rw [fmod_nat] at a0
    rw [users_int] at a2
    dsimp only
    refine may_tail' (r0 := c2 % 8 + 1) (r1 := c2 / 8 % 9) (r2 := c2 / 72 % 9) (c0 := c0) (groups := groups) (wish := wish) (by assumption) (by assumption) X T (by omega) (by assumption) (by assumption) (by assumption) (by assumption) rfl (by omega) (by omega) z3 z4 z5 z0 fun h' tk m' news' F'' N'' => ?_
    dsimp only
    have e : tailS [c2 % 8 + 1, c2 / 8 % 9, c2 / 72 % 9] c0 groups wish = mayS c0 c1 c2 c4 user groups wish := by rw [mayS, if_neg (by omega), if_neg (by omega), rightsS, if_neg (by omega)]
    rw [e]
    exact fin _ _ _ _ F'' N''
  · have a0 : Int.fmod (c4 : Int) ((3 : Nat) : Int) ≠ 0 := by assumption
    have a1 : Int.fmod (c4 : Int) ((3 : Nat) : Int) = 0 := by assumption
    exact absurd a1 a0
  · have a1 : (user : Int) = 0 := by assumption
    show Q (.bool (Builtin.bitAnd (Int.fdiv (c0 : Int) ((64 : Nat) : Int)) (wish : Int) == (wish : Int))) _
    rw [fdiv_nat, sub_eq]
    have e : subB (c0 / 64) wish = mayS c0 c1 c2 c4 user groups wish := by rw [mayS, if_pos (by omega)]
    rw [e]
    exact fin2 _ _ (by assumption) (Fr.keep (by assumption))
  · have a0 : Int.fmod (c4 : Int) ((3 : Nat) : Int) ≠ 0 := by assumption
    have a1 : Int.fmod (c4 : Int) ((3 : Nat) : Int) = 0 := by assumption
    exact absurd a1 a0
  · have a0 : Int.fmod (c4 : Int) ((3 : Nat) : Int) = 0 := by assumption
    have a1 : (user : Int) ≠ 0 := by assumption
    rw [fmod_nat] at a0
    dsimp only
    refine may_tail' (r0 := c0 / 8 % 8 + 1) (r1 := 0) (r2 := 0) (c0 := c0) (groups := groups) (wish := wish) (by assumption) (by assumption) X T (by omega) (by assumption) (by assumption) (by assumption) (by assumption) rfl (by omega) (by omega) (congrArg (· + (1 : Int)) z0) rfl rfl z0 fun h' tk m' news' F'' N'' => ?_
    dsimp only
    have e : tailS [c0 / 8 % 8 + 1, 0, 0] c0 groups wish = mayS c0 c1 c2 c4 user groups wish := by rw [mayS, if_neg (by omega), if_neg (by omega), rightsS, if_pos (by omega)]
    rw [e]
    exact fin _ _ _ _ F'' N''
end

abbrev rgO (x left : Int) : Obj := { cls := .type "range_iterator", data := .fields #[rawInt x, rawInt left, rawInt 1] }
section
variable {prog : Program} {w : World} {A : Around} {E : Value → Shared → Prop} {s : Shared}
theorem rg_size (n : Nat) : Builtin.Range.rangeSize 0 (n : Int) 1 = (n : Int) := by
  rw [rangeSize_one]
  split <;> omega
/-- a for statement over range(n), one name as its target -/
theorem for_range {x : Str} {px : Pos} {iter : Expr} {body orelse : List Stmt} {pos : Pos} {env : Env} {Q : Flow → Shared → Prop} {h₀ : Heap} (hh : A.handled = none)
    (hx : env.kindOf x = some .local) (hp : (env.scope.kind == .class || (env.scope.kind == .module && env.locals != env.globals)) = false)
    (h : wpAny (model prog w) A (eval iter env) (fun xv s₁ => ∃ (r : Addr) (n : Nat) (t u v : Tok) (m : Str → Option Value) (news : List (Addr × Obj)) (J : Nat → (Str → Option Value) → List (Addr × Obj) → Prop),
      xv = .ref r ∧ IsRange s₁.heap r 0 (n : Int) 1 t u v ∧ n ≤ 1000 ∧ Fr h₀ env.locals s₁.heap m ∧ News h₀ env.locals s₁.heap news ∧ J 0 m news ∧
      ∀ it, (∀ p ∈ news, p.1 < it) → env.locals < it →
        (∀ i m' news' h' tk tk', i < n → J i m' news' → (∀ p ∈ news', p.1 ≠ it) → Fr h₀ env.locals h' (fun y => if y = x then some (.int (i : Nat) tk') else m' y) → News h₀ env.locals h' ((it, rgO ((i + 1 : Nat) : Int) ((n : Int) - ((i + 1 : Nat) : Int))) :: news') →
          wpAny (model prog w) A (execs body env) (TurnEnd h₀ env.locals it (rgO ((i + 1 : Nat) : Int) ((n : Int) - ((i + 1 : Nat) : Int))) (J (i + 1)) Q s₁) E { s₁ with heap := h', toks := tk }) ∧
        (∀ m' news' h' tk, J n m' news' → Fr h₀ env.locals h' m' → News h₀ env.locals h' news' → wpAny (model prog w) A (execs orelse env) Q E { s₁ with heap := h', toks := tk })) E s)
    (hs : ∀ x, foldedSetIterable iter env x = pure x := by intro _; rfl) (hE : PassesOwn (model prog w) A env E := by passes_own) :
    wpAny (model prog w) A (exec (.For (.Name x px) iter body orelse pos) env) Q E s := by
  refine wpAny_For (wpAny_mono h (fun xv s₁ h₁ => ?_) fun _ _ e => e) hs
  obtain ⟨r, n, t, u, v, m, news, J, rfl, hr, hn, F, N, h0, rest⟩ := h₁
  refine wpAny_pyIter_range hr (small_one (by omega) (by omega) (by omega) (by omega)) ?_
  rw [rg_size]
  have lt : ∀ p ∈ news, p.1 < s₁.heap.objs.size := news_lt N (Nat.le_refl _)
  have Llt : env.locals < s₁.heap.objs.size := by obtain ⟨_, _, _, hL, _⟩ := F.ns; exact Heap.lt_size hL
  obtain ⟨turn, fin⟩ := rest s₁.heap.objs.size lt Llt
  have up : ∀ b o, s₁.heap.get? b = some o → (s₁.heap.push (rgO 0 (n : Int))).get? b = some o := fun b o e => Heap.get?_push_of_some _ e
  have F1 : Fr h₀ env.locals (s₁.heap.push (rgO 0 (n : Int))) m := F.keeps up
  have N1 : News h₀ env.locals (s₁.heap.push (rgO 0 (n : Int))) ((s₁.heap.objs.size, rgO 0 (n : Int)) :: news) := news_put F (news_keeps N up) (Nat.le_refl _) (Heap.get?_push_size _ rfl)
  have ne1 : ∀ p ∈ news, p.1 ≠ s₁.heap.objs.size := fun p hp => Nat.ne_of_lt (lt p hp)
  generalize s₁.heap.objs.size = it at *
  generalize s₁.heap.push (rgO 0 (n : Int)) = g1 at *
  refine codeAny_forLoop_any (R := fun r s' => match r with | .ok f => Q f s' | .error e => cameBackBy (model prog w) A env E e s')
    (fun k s' => ∃ h' tk i m' news', s' = { s₁ with heap := h', toks := tk } ∧ i ≤ n ∧ k = n + 1 - i ∧ Fr h₀ env.locals h' m' ∧ News h₀ env.locals h' ((it, rgO (i : Nat) ((n : Int) - (i : Nat))) :: news') ∧ (∀ p ∈ news', p.1 ≠ it) ∧ J i m' news') ?_ (n + 1)
    ⟨g1, s₁.toks, 0, m, news, rfl, Nat.zero_le _, rfl, F1, by simpa using N1, ne1, h0⟩
  rintro k s' ⟨h', tk, i, m', news', rfl, hi, rfl, F', N', ne', hJ⟩
  have Nr : News h₀ env.locals h' news' := news_sub N' fun p hp => .tail _ hp
  have hit := (N' _ (.head _)).1
  have n2 := (N' _ (.head _)).2
  by_cases hlt : i < n
  · refine wpAny_pyNext_range_item (it := it) (x := (i : Int)) (left := (n : Int) - (i : Nat)) (step := 1) hit (by omega) fun h₂ g₂ hs₂ => ?_
    have g₃ : h₂.get? it = some (rgO ((i + 1 : Nat) : Int) ((n : Int) - ((i + 1 : Nat) : Int))) := by
      have e1 : (i : Int) + 1 = ((i + 1 : Nat) : Int) := by omega
      have e2 : (n : Int) - (i : Nat) - 1 = (n : Int) - ((i + 1 : Nat) : Int) := by omega
      have g₂' : h₂.get? it = some (rgO ((i : Int) + 1) ((n : Int) - (i : Nat) - 1)) := g₂
      rw [e1, e2] at g₂'
      exact g₂'
    have F₂ := fr_same F' N' hs₂.extBut
    have N₂ := news_cons (news_same Nr ne' hs₂.extBut) g₃ n2.1 n2.2
    refine wpAny_pure ?_
    refine wpAny_assign_Name (wpAny_storeName_local hx F₂.ns (fun h₅ hn₅ hs₅ => ?_) hp)
    have F₅ := F₂.set hn₅ hs₅
    have N₅ : News h₀ env.locals h₅ ((it, rgO ((i + 1 : Nat) : Int) ((n : Int) - ((i + 1 : Nat) : Int))) :: news') := fun p hp => ⟨hs₅.extBut _ _ (N₂ p hp).2.1 (N₂ p hp).1, (N₂ p hp).2⟩
    refine wpAny_passesOwn hE (wpAny_mono (turn i m' news' h₅ _ _ hlt hJ ne' F₅ N₅) (fun f s₃ h₃ => ?_) fun _ _ e => e)
    cases f with
    | next =>
      obtain ⟨h₄, tk₄, m₄, news₄, rfl, F₄, N₄, ne₄, J₄⟩ := h₃
      exact ⟨n + 1 - (i + 1), by omega, h₄, tk₄, i + 1, m₄, news₄, rfl, hlt, rfl, F₄, N₄, ne₄, J₄⟩
    | cont =>
      obtain ⟨h₄, tk₄, m₄, news₄, rfl, F₄, N₄, ne₄, J₄⟩ := h₃
      exact ⟨n + 1 - (i + 1), by omega, h₄, tk₄, i + 1, m₄, news₄, rfl, hlt, rfl, F₄, N₄, ne₄, J₄⟩
    | brk => exact h₃
    | ret v => exact h₃
  · have hin : i = n := by omega
    refine wpAny_pyNext_range_end (it := it) (x := (i : Int)) (left := (n : Int) - (i : Nat)) (step := 1) hh hit (by omega) fun h₂ hx₂ => ?_
    exact wpAny_passesOwn hE (fin m' news' h₂ tk (hin ▸ hJ) (fr_same F' N' hx₂) (news_same Nr ne' hx₂))
end

theorem len_base {prog : Program} {w : World} {A : Around} {E : Value → Shared → Prop} {s : Shared} {h₀ : Heap} {L l : Addr} {m : Str → Option Value} {vs : List Value} {Q : Value → Shared → Prop} (F : Fr h₀ L s.heap m) (hl : h₀.IsList l vs.toArray) (hz : vs.length ≤ 10000)
    (h : Q (.int (vs.length : Nat) (s.toks + 1)) { s with toks := s.toks + 1 + 1 }) : wpAny (model prog w) A (call (.builtin "len") [.ref l]) Q E s :=
  by
  obtain ⟨o, e, r⟩ := hl
  exact kun_lenL (k := ((vs.length : Nat) : Int)) ⟨o, F.keep _ _ e, r⟩ (by rw [List.size_toArray]) (by omega) h
local macro_rules | `(tactic| walk_at "call builtin:len") => `(tactic| (k_here; (with_reducible show wpAny _ _ (call (Value.builtin "len") [Value.ref _]) _ _ _); k_dflt (refine' len_base ?F ?l ?z ?_; (case F => k_asm); (case l => assumption); (case z => omega))))
def AtRange (s : Shared) (h₀ : Heap) (L : Addr) (m : Str → Option Value) (news : List (Addr × Obj)) (n : Nat) (xv : Value) (s₁ : Shared) : Prop := ∃ r t u v h' tk, xv = .ref r ∧ s₁ = { s with heap := h', toks := tk } ∧ IsRange h' r 0 (n : Int) 1 t u v ∧ Fr h₀ L h' m ∧ News h₀ L h' news
theorem min60 (n : Nat) : (if 60 < (n : Int) then (60 : Int) else (n : Int)) = ((min n 60 : Nat) : Int) := by
  split <;> omega
theorem set_nat {c' : List Nat} {k : Nat} {v : Int} (hv : 0 ≤ v) : (c'.map fun c => ((c : Nat) : Int)).set k v = (c'.set k v.toNat).map fun c => ((c : Nat) : Int) := by
  rw [List.map_set, Int.toNat_of_nonneg hv]
theorem map_nonneg (c' : List Nat) (k : Nat) : 0 ≤ (c'.map fun c => ((c : Nat) : Int)).getD k 0 := by
  rw [List.getD_eq_getElem?_getD, List.getElem?_map]
  cases c'[k]? with
  | none => exact Int.le_refl _
  | some c => exact Int.natCast_nonneg c
theorem mod_nonneg (x : Int) : 0 ≤ x.fmod 1000000 := by
  rw [Int.fmod_eq_emod_of_nonneg _ (by decide)]
  exact Int.emod_nonneg _ (by decide)
theorem add_nonneg {a b : Int} (h1 : 0 ≤ a) (h2 : 0 ≤ b) : 0 ≤ a + b := by omega
def cellsFor (K : Frag) : Stmt := match (fnK K 117).1 with
  | _ :: f :: _ => f
  | _ => .Pass ⟨0, 0, 0, 0⟩
section
variable {w : World} {mg mb : Str → Option Value} {p : Program} {loose : List Str} {mean : ExcName → Option Value}
  {dp un : Nat} {fr : Option (List Env)} {gd : Option (List Code)} {s : Shared} {Q E : Value → Shared → Prop} {h₀ : Heap} {L : Addr} {m : Str → Option Value} {news : List (Addr × Obj)}
theorem cells_loop {D sc : Addr} {n : Nat} {cs vs : List Value} {ns : List Int} {c0 : List Nat} {FQ : Flow → Shared → Prop}
   (F : Fr h₀ L s.heap m) (N : News h₀ L s.heap [(D, PySem.W.listOf (List.toArray cs) n)]) (X : (hd.heap_39 w.params).In h₀) (T : Top p loose mean mg mb h₀)
   (hs : h₀.IsList sc vs.toArray) (hns : IntsAre vs ns) (hlen : vs.length ≤ 63) (hcs : IntsAre cs (c0.map fun c => ((c : Nat) : Int))) (h6 : c0.length = 6) (hsc : m "script" = some (.ref sc)) (hce : m "cells" = some (.ref D))
   (h : ∀ cs' n' (c' : List Nat) m' h' tk, Fr h₀ L h' m' → News h₀ L h' [(D, PySem.W.listOf (List.toArray cs') n')] → m' "cells" = some (.ref D) → IntsAre cs' (c'.map fun c => ((c : Nat) : Int)) → c'.length = 6 → FQ .next { s with heap := h', toks := tk }) :
   wpAny (model PySem.Challenge.pw_tv0029_01 w) (aA dp fr gd un) (exec (cellsFor (hd.heap_39 w.params)) (envOf "_law_cells" (fnK (hd.heap_39 w.params) 117).2 L 117 (.ref 116))) FQ (fun _ _ => False) s := by
  show wpAny _ _ (exec (Stmt.For (Expr.Name _ _) _ _ _ _) (envOf _ (Scope.mk _ _ _ _ _) _ _ _)) _ _ _
  refine for_range (h₀ := h₀) rfl rfl rfl ?_
  refine wpAny_mono (Q := AtRange s h₀ L m [(D, PySem.W.listOf (List.toArray cs) n)] (min vs.length 60)) ?_ (fun xv s₁ hr => ?_) fun _ _ e => e
  · k_steps
    rename_i hr F' N' _
    rw [min60] at hr
    exact ⟨_, _, _, _, _, _, rfl, rfl, hr, F', N'⟩
  · obtain ⟨r, t, u, v, h', tk, rfl, rfl, hr, F', N'⟩ := hr
    refine ⟨r, min vs.length 60, t, u, v, m, _, fun i m' news' => m' "script" = some (.ref sc) ∧ m' "cells" = some (.ref D) ∧ ∃ (cs' : List Value) (n' : Nat) (c' : List Nat), news' = [(D, PySem.W.listOf (List.toArray cs') n')] ∧ IntsAre cs' (c'.map fun c => ((c : Nat) : Int)) ∧ c'.length = 6,
      rfl, hr, by omega, F', N', ⟨hsc, hce, cs, n, c0, rfl, hcs, h6⟩, fun it k1 k2 => ⟨?_, ?_⟩⟩
    · have lD : D < it := k1 _ (.head _)
      k_lt2 lD
      clear F N F' N' hcs hsc hce h6
      rintro i m' news' h₁ tk₁ tk₂ hi ⟨hsc, hce, cs', n', c', rfl, hcs, h6⟩ nit F₁ N₁
      have hnl : vs.length = ns.length := hns.length
      have hi2 : i < ns.length := by omega
      have hi3 : (i : Int) < (ns.length : Int) := by omega
      k_steps
      rename_i F' N' hI' _ _
      have hv := add_nonneg (map_nonneg c' ((i : Int).fmod 6).toNat) (mod_nonneg ((ns.getD (i : Int).toNat 0)))
      rw [set_nat hv] at hI'
      exact ⟨_, _, _, _, rfl, F', N', fun p hp => by rw [List.mem_singleton.mp hp]; exact Nat.ne_of_lt lD, hsc, hce, _, _, _, rfl, hI', by rw [List.length_set]; exact h6⟩
    · rintro m' news' h₁ tk₁ ⟨hsc, hce, cs', n', c', rfl, hcs, h6⟩ F₁ N₁
      exact wpAny_execs_nil (h _ _ _ _ _ _ F₁ N₁ hce hcs h6)
end

section
variable {w : World} {mg mb : Str → Option Value} {p : Program} {loose : List Str} {mean : ExcName → Option Value}
  {dp un : Nat} {fr : Option (List Env)} {gd : Option (List Code)} {s : Shared} {Q E : Value → Shared → Prop} {h₀ : Heap} {L : Addr} {m : Str → Option Value} {news : List (Addr × Obj)}
theorem ints6 {vs : List Value} {c : List Nat} (h : IntsAre vs (c.map fun c => ((c : Nat) : Int))) (h6 : c.length = 6) : ∃ (c0 c1 c2 c3 c4 c5 : Nat) (t0 t1 t2 t3 t4 t5 : Tok), vs = [.int c0 t0, .int c1 t1, .int c2 t2, .int c3 t3, .int c4 t4, .int c5 t5] := by
  match c, h6 with
  | [c0, c1, c2, c3, c4, c5], _ =>
    cases h with | cons _ t0 h => cases h with | cons _ t1 h => cases h with | cons _ t2 h => cases h with | cons _ t3 h => cases h with | cons _ t4 h => cases h with | cons _ t5 h =>
    cases h
    exact ⟨c0, c1, c2, c3, c4, c5, t0, t1, t2, t3, t4, t5, rfl⟩
theorem cells_new {sc : Addr} {vs : List Value} {ns : List Int} (F₀ : Fr h₀ L s.heap m) (N₀ : News h₀ L s.heap news) (X₀ : (hd.heap_39 w.params).In h₀) (T₀ : Top p loose mean mg mb h₀) (hdp : dp + 3 < recursionLimit)
   (hs : s.heap.IsList sc vs.toArray) (hns : IntsAre vs ns) (hlen : vs.length ≤ 63)
   (h : ∀ D (c0 c1 c2 c3 c4 c5 : Nat) t0 t1 t2 t3 t4 t5 n h' tk', Fr h₀ L h' m → News h₀ L h' ((D, PySem.W.listOf #[.int c0 t0, .int c1 t1, .int c2 t2, .int c3 t3, .int c4 t4, .int c5 t5] n) :: news) → (∀ p ∈ news, p.1 ≠ D) → Q (.ref D) { s with heap := h', toks := tk' }) :
   wpAny (model PySem.Challenge.pw_tv0029_01 w) (aA dp fr gd un) (call (.ref 117) [.ref sc]) Q E s := by
  have X := X₀.keeps F₀.keep
  have T := T₀.keeps F₀.keep
  refine enter X T (by k_is) (by k_is) (by omega) (BindsTo.of_eq rfl) (locs rfl) ?_ rfl rfl rfl (by decide)
  intro h₁ tk F N
  clear X₀ T₀
  k_steps
  rename_i F' N'
  refine cells_loop (c0 := [36284, 5, 554, 1976, 1, 12]) F' N' X T hs hns hlen (.cons _ _ (.cons _ _ (.cons _ _ (.cons _ _ (.cons _ _ (.cons _ _ .nil)))))) rfl rfl rfl fun cs' n' c' m' h' tk F₂ N₂ hce hI h6 => ?_
  obtain ⟨c0, c1, c2, c3, c4, c5, t0, t1, t2, t3, t4, t5, rfl⟩ := ints6 hI h6
  k_steps
  dsimp only
  obtain ⟨F'', N'', A''⟩ := back F₀ N₀ F₂ N₂
  exact h _ _ _ _ _ _ _ _ _ _ _ _ _ _ _ _ F'' N'' fun p hp e => A'' p hp _ (List.mem_singleton_self _) e.symm
end

def inS (x a : Str) : Bool := !(Builtin.Str.occurrences x a 0 x.length 1).isEmpty
local macro_rules | `(tactic| walk_at "call builtin:str.lower") => `(tactic| ((refine' SC.lower ?f ?_); (case f => assumption)))
section
variable {w : World} {mg mb : Str → Option Value} {p : Program} {loose : List Str} {mean : ExcName → Option Value}
  {dp un : Nat} {fr : Option (List Env)} {gd : Option (List Code)} {s : Shared} {Q E : Value → Shared → Prop} {h₀ : Heap} {L : Addr} {m : Str → Option Value} {news : List (Addr × Obj)}
def AtVal (s : Shared) (v : Value) (h₀ : Heap) (L : Addr) (m : Str → Option Value) (news : List (Addr × Obj)) (xv : Value) (s₁ : Shared) : Prop := ∃ h' tk, xv = v ∧ s₁ = { s with heap := h', toks := tk } ∧ Fr h₀ L h' m ∧ News h₀ L h' news
theorem assign_one {prog : Program} {A : Around} {h₀ : Heap} {m : Str → Option Value} {news : List (Addr × Obj)} {env : Env} {x1 : Str} {p1 : Pos} {a : Value} {Q : Unit → Shared → Prop} (F : Fr h₀ env.locals s.heap m) (N : News h₀ env.locals s.heap news)
    (hx1 : env.kindOf x1 = some .local) (hp : (env.scope.kind == .class || (env.scope.kind == .module && env.locals != env.globals)) = false)
    (h : ∀ h' tk, Fr h₀ env.locals h' (fun y => if y = x1 then some a else m y) → News h₀ env.locals h' news → Q () { s with heap := h', toks := tk }) :
    wpAny (model prog w) A (assign (.Name x1 p1) env a) Q E s :=
  wpAny_assign_Name (wpAny_storeName_local hx1 F.ns (fun h₅ hn₅ hs₅ => h _ _ (F.set hn₅ hs₅) fun p hp => ⟨hs₅.extBut _ _ (N p hp).2.1 (N p hp).1, (N p hp).2⟩) hp)
theorem applies_new {x dx u r : Addr} {a1 a2 a3 a4 t ta : Tok} {cc : Nat} {y agent hd' : Str} {tl : List Str} (F₀ : Fr h₀ L s.heap m) (N₀ : News h₀ L s.heap news) (X₀ : (hd.heap_39 w.params).In h₀) (T₀ : Top p loose mean mg mb h₀) (hdp : dp + 3 < recursionLimit)
   (hx : s.heap.get? x = some (instObj 52 dx)) (hd : s.heap.get? dx = some (dictOf (entD w.params a1 a2 a3 a4 u r) 4)) (hu : s.heap.get? u = some (PySem.W.listOf #[.str agent ta] cc))
   (hy : y.length ≤ 1000) (hsp : Txt.split y (Str.ofString "/") = hd' :: tl) (hl1 : Builtin.Str.tooLong (Txt.lower hd').length = false) (hl2 : Builtin.Str.tooLong (Txt.lower agent).length = false) (hst : agent ≠ Str.ofString "*")
   (h : ∀ h' tk', Fr h₀ L h' m → News h₀ L h' news → Q (.bool (inS (Txt.lower hd') (Txt.lower agent))) { s with heap := h', toks := tk' }) :
   wpAny (model PySem.Challenge.pw_tv0029_01 w) (aA dp fr gd un) (call (.ref 42) [.ref x, .str y t]) Q E s := by
  have X := X₀.keeps F₀.keep
  have T := T₀.keeps F₀.keep
  refine enter X T (by k_is) (by k_is) (by omega) (BindsTo.of_eq rfl) (locs rfl) ?_ rfl rfl rfl (by decide)
  intro h₁ tk F N
  clear X₀ T₀
  k_steps
  refine splitN1A F N (by decide +kernel) (fun l h₂ k e hS _ _ F₂ N₂ => ?_) (by rw [sizeLine_eq]; omega)
  clear F N
  match l, e with
  | (a, ta') :: l', e =>
    rw [hsp] at e
    obtain ⟨rfl, _⟩ := List.cons.inj e
    first | walk1 | (dsimp only; walk1)
    refine item_strsR (N₂.isList (.head _)) hS (by decide) (Int.ofNat_lt.mpr (Nat.succ_pos _)) (by decide) fun t₂ => ?_
    rw [show (List.map (fun x : Str × Tok => x.1) ((a, ta') :: l')).getD (Int.toNat 0) Str.empty = a from rfl]
    k_steps
    rename_i F₃ N₃
    refine for_seq (h₀ := s.heap) rfl ?_
    walk1
    walk1
    walk1
    refine ⟨false, u, _, _, _, fun i m' news' => (∃ t, m' "useragent" = some (.str (Txt.lower a) t)) ∧ (0 < i → inS (Txt.lower a) (Txt.lower agent) = false), rfl, ⟨_, F₃.keep _ _ hu, rfl, _, rfl⟩, F₃, N₃, ⟨⟨_, rfl⟩, fun c => absurd c (Nat.lt_irrefl _)⟩, ?_, fun it k1 k2 => ⟨?_, ?_⟩⟩
    · rintro i m' news' h' - F' N'
      exact ⟨_, F'.keep _ _ hu, rfl, _, rfl⟩
    · rintro i v m' news' h' tk hiv ⟨⟨t₃, hm⟩, _⟩ nit F' N'
      have hi0 : i = 0 := by
        have := (Array.getElem?_eq_some_iff.mp hiv).1
        simp at this
        exact this
      subst hi0
      have hv : v = .str agent ta := by simpa using hiv.symm
      subst hv
      refine assign_one F' N' rfl rfl fun h₅ tk₅ F₅ N₅ => ?_
      clear F' N' F₃ N₃
      k_steps
      · rename_i F' N' ho
        have ho' : inS (Txt.lower a) (Txt.lower agent) = false := by unfold inS; rw [ho]; rfl
        exact ⟨_, _, _, _, rfl, F', N', nit, ⟨t₃, hm⟩, fun _ => ho'⟩
      · rename_i F' N' ho
        have ho' : inS (Txt.lower a) (Txt.lower agent) = true := by unfold inS; rw [ho]; rfl
        dsimp only
        obtain ⟨F'', N'', _⟩ := back F₀ N₀ F' N'
        rw [← ho']
        exact h _ _ F'' (news_sub N'' fun p hp => List.mem_append_right _ hp)
      · rename_i ho
        exact absurd (bne_eq_false_iff_eq.mp ho) hst
    · rintro m' news' h' tk ⟨⟨t₃, hm⟩, hno⟩ F' N'
      have hno' := hno (Nat.succ_pos _)
      walk1
      walk1
      walk1
      walk1
      dsimp only
      obtain ⟨F'', N'', _⟩ := back F₀ N₀ F' N'
      rw [← hno']
      exact h _ _ F'' (news_sub N'' fun p hp => List.mem_append_right _ hp)
  | [], e => rw [hsp] at e; cases e
end

section
variable {prog : Program} {w : World} {mg mb : Str → Option Value} {p : Program} {loose : List Str} {mean : ExcName → Option Value}
  {dp un : Nat} {fr : Option (List Env)} {gd : Option (List Code)} {s : Shared} {Q E : Value → Shared → Prop}
theorem enterL {name qual : Str} {params : Arguments} {body : Expr} {scope : Scope} {cl : List (Str × Addr)} {pm ctv : Value} {c' f : Addr} {args : List Value} {binds : List (Str × Value)} (T : Top p loose mean mg mb s.heap)
    (ho : s.heap.get? f = some (kla_obj name qual params body scope cl pm c' ctv)) (hcd : s.heap.CodeRec (.ref c') qual) (hroom : dp < recursionLimit)
    (hbind : bindArgs (kla_fn name qual params body scope cl pm (.ref c') ctv) ⟨args, []⟩ = pure binds) (hloc : ∀ y ∈ binds, scope.names.lookup y.1 = some .local)
    (h : ∀ h₁ tk, Fr s.heap s.heap.objs.size h₁ (fun y => binds.reverse.lookup y) → News s.heap s.heap.objs.size h₁ [] →
      wpAny (model prog w) (aA (dp + 1) (fr.map (envX qual scope s.heap.objs.size f (.ref c') cl :: ·)) gd (un + 3)) (eval body (envX qual scope s.heap.objs.size f (.ref c') cl)) Q (fun _ _ => False) { s with heap := h₁, toks := tk })
    (hco : scope.isCoroutine = false) (hgen : scope.isGenerator = false) (hk : scope.kind = .function) (hcell : ∀ x ∈ scope.names, x.2 ≠ .cell) :
    wpAny (model prog w) (aA dp fr gd un) (call (.ref f) args) Q E s := by
  refine wpAny_call (kla_callFunE hroom ho rfl hco hgen rfl hcd ?_)
  rw [hbind]
  refine wpAny_pure (wpAny_newFunctionEnv hcell hloc (fun h₁ hns hsb => ⟨(T.nolimit).fresh _ hsb, ?_⟩) hk)
  show codeAny _ _ (.expr body (envX qual scope s.heap.objs.size f (.ref c') cl)) _ _
  have hk₁ : ∀ b o, s.heap.get? b = some o → h₁.get? b = some o := fun b o e => hsb.extBut b o (Nat.ne_of_lt (Heap.lt_size e)) (Heap.get?_push_of_some _ e)
  exact kla_codeExpr (wpAny_mono (h h₁ _ ⟨hns, hk₁, Nat.le_refl _⟩ (fun _ hp => nomatch hp)) (fun v s' hl => hl) fun _ _ y => y.elim)
end

local macro_rules | `(tactic| walk_at "eval Name") => `(tactic| ((with_reducible show wpAny _ _ (eval (Expr.Name _ _) (envX _ _ _ _ _ _)) _ _ _); k_dflt (first | refine wpAny_Name (wpAny_loadName_free rfl rfl rfl ⟨_, Fr.keep (by assumption) _ _ (by assumption), by assumption⟩ ?_) (by decide) | refine wpAny_Name (wpAny_loadName_local rfl rfl (Fr.ns (by assumption)) (by rfl) ?_) (by decide))))
local macro_rules | `(tactic| walk_at "call ref") => `(tactic| ((with_reducible show wpAny _ _ (call (Value.ref 42) [Value.ref _, Value.str _ _]) _ _ _); k_dflt (refine' applies_new (by k_asm) (by k_asm) (by k_asm) (by k_asm) (by omega) (by exact Fr.keep (by k_asm) _ _ (by assumption)) (by exact Fr.keep (by k_asm) _ _ (by assumption)) (by exact Fr.keep (by k_asm) _ _ (by assumption)) (by assumption) (by assumption) (by assumption) (by assumption) (by assumption) ?_; k_whole); intro h' tk' F' N'; (try dsimp only); (try k_sweep)))
section
variable {w : World} {mg mb : Str → Option Value} {p : Program} {loose : List Str} {mean : ExcName → Option Value}
  {dp un : Nat} {fr : Option (List Env)} {gd : Option (List Code)} {s : Shared} {Q E : Value → Shared → Prop} {h₀ : Heap} {L : Addr} {m : Str → Option Value} {news : List (Addr × Obj)}
theorem lam_call {f cw cr c' wx wd wu wr : Addr} {pm ctv : Value} {ow or : Obj} {a1 a2 a3 a4 t ta tr : Tok} {cc : Nat} {reach : Int} {y agent hd' : Str} {tl : List Str} (F₀ : Fr h₀ L s.heap m) (N₀ : News h₀ L s.heap news) (X₀ : (hd.heap_39 w.params).In h₀) (T₀ : Top p loose mean mg mb h₀) (hdp : dp + 5 < recursionLimit)
   (hf : s.heap.get? f = some (lamObj w.params cw cr c' pm ctv)) (hcd : s.heap.CodeRec (.ref c') lamQual) (hcw : s.heap.get? cw = some ow) (dcw : ow.data = .cell (some (.ref wx))) (hcr : s.heap.get? cr = some or) (dcr : or.data = .cell (some (.int reach tr)))
   (hx : s.heap.get? wx = some (instObj 52 wd)) (hd : s.heap.get? wd = some (dictOf (entD w.params a1 a2 a3 a4 wu wr) 4)) (hu : s.heap.get? wu = some (PySem.W.listOf #[.str agent ta] cc))
   (hy : y.length ≤ 1000) (hsp : Txt.split y (Str.ofString "/") = hd' :: tl) (hl1 : Builtin.Str.tooLong (Txt.lower hd').length = false) (hl2 : Builtin.Str.tooLong (Txt.lower agent).length = false) (hst : agent ≠ Str.ofString "*")
   (h : ∀ h' tk' t, Fr h₀ L h' m → News h₀ L h' news → Q (.int (if inS (Txt.lower hd') (Txt.lower agent) then reach else 0) t) { s with heap := h', toks := tk' }) :
   wpAny (model PySem.Challenge.pw_tv0029_01 w) (aA dp fr gd un) (call (.ref f) [.str y t]) Q E s := by
  have X := X₀.keeps F₀.keep
  have T := T₀.keeps F₀.keep
  refine enterL T hf hcd (by omega) rfl (locs rfl) ?_ rfl rfl rfl (by decide)
  intro h₁ tk F N
  clear X₀ T₀
  show wpAny _ _ (eval (Expr.IfExp _ _ _ _) (envX _ (Scope.mk _ _ _ _ _) _ _ _ _)) _ _ _
  walk1
  k_steps
  · rename_i F' N' hb
    obtain ⟨F'', N'', _⟩ := back F₀ N₀ F' N'
    have e : (if inS (Txt.lower hd') (Txt.lower agent) then reach else 0) = reach := if_pos hb
    rw [e] at h
    exact h _ _ _ F'' (news_sub N'' fun p hp => List.mem_append_right _ hp)
  · rename_i F' N' hb
    obtain ⟨F'', N'', _⟩ := back F₀ N₀ F' N'
    have e : (if inS (Txt.lower hd') (Txt.lower agent) then reach else 0) = 0 := if_neg (by rw [hb]; exact Bool.false_ne_true)
    rw [e] at h
    exact h _ _ _ F'' (news_sub N'' fun p hp => List.mem_append_right _ hp)
end

def RuleAt (P : Params) (h : Heap) (x : Addr) (agent : Str) (reach : Int) (verdict : Str) (c' : Addr) : Prop := ∃ fz : List (Addr × Obj), (∀ a o, (a, o) ∈ fz → h.get? a = some o) ∧ RuleIn P fz x agent reach verdict c'
theorem RuleIn.toAt {P : Params} {h₀ h : Heap} {L : Addr} {fz : List (Addr × Obj)} {x : Addr} {agent : Str} {reach : Int} {verdict : Str} {c' : Addr} (e : RuleIn P fz x agent reach verdict c') (N : News h₀ L h fz) : RuleAt P h x agent reach verdict c' := ⟨fz, fun _ _ hm => (N _ hm).1, e⟩
def RuleVal (P : Params) (h : Heap) (c' : Addr) (v : Value) (q : Str × Nat × Str) : Prop := ∃ x : Addr, v = .ref x ∧ RuleAt P h x q.1 (q.2.1 : Nat) q.2.2 c'
theorem RuleEx.toVal {P : Params} {h₀ h : Heap} {L : Addr} {fz : List (Addr × Obj)} {c' : Addr} {v : Value} {q : Str × Nat × Str} (e : RuleEx P fz (some c') v q) (N : News h₀ L h fz) : RuleVal P h c' v q := by
  obtain ⟨x, c, e, ho, r⟩ := e
  cases ho
  exact ⟨x, e, r.toAt N⟩
theorem CodeIn.toRec {h₀ h : Heap} {L : Addr} {fz : List (Addr × Obj)} {c' : Addr} (e : CodeIn fz c') (N : News h₀ L h fz) : h.CodeRec (.ref c') lamQual := by
  obtain ⟨oc, vs, t, m, d, q⟩ := e
  exact ⟨c', oc, vs, t, rfl, (N _ m).1, d, q⟩

section
variable {prog : Program} {w : World} {A : Around} {E : Value → Shared → Prop} {s : Shared} {K : Frag} {x C f L : Addr} {ox : Obj} {name : Str} {h₀ : Heap} {m : Str → Option Value} {es : List DictEntry} {n : Nat} {pl : Sem Bool} {v g : Value} {expr : Bool}
theorem findObj_shadow {od : Obj} (hh : hasDictIn K C = true) (ha : findIn K (.ref C) name = some (some (.ref f))) (hg : specialIn K (.ref f) "__get__" = some (some g)) (ht : takesIn K (.ref f) = some false) (hl : lookIn name od = some (some v)) :
    findObj K C (some od) name = some (.value v) := by
  obtain ⟨cd, hc', hd⟩ := any_some hh
  unfold findObj
  have ho : PySem.W.ownOf cd (some od) name = some (some v) := by unfold PySem.W.ownOf; rw [if_pos hd]; exact hl
  rw [hc', Option.bind_some, ha, Option.bind_some]
  simp only [hg, ht, Option.bind_some, ho]
theorem get_shadow {Q : Value → Shared → Prop} (F : Fr h₀ L s.heap m) (X₀ : K.In h₀) (I : InstAt s.heap x ox C (some (dictOf es n))) (hg : plainGet K C name = true) (hh : hasDictIn K C = true)
    (ha : findIn K (.ref C) name = some (some (.ref f))) (hgf : specialIn K (.ref f) "__get__" = some (some g)) (ht : takesIn K (.ref f) = some false) (hl : getL name es = some (some v)) (hv : handedIn v = true) (h : Q v { s with toks := s.toks + 1 }) :
    wpAny (model prog w) A (getAttr (.ref x) name expr) Q E s :=
  get_value (X₀.keeps F.keep) I (plainGet_of hg).1 (findObj_shadow hh ha hgf ht (by show lookIn name (dictOf es n) = _; rw [lookIn_dict, hl])) hv h
theorem method_shadow {Q : Value × List Value → Shared → Prop} (F : Fr h₀ L s.heap m) (X₀ : K.In h₀) (I : InstAt s.heap x ox C (some (dictOf es n))) (hg : plainGet K C name = true) (hh : hasDictIn K C = true)
    (ha : findIn K (.ref C) name = some (some (.ref f))) (hgf : specialIn K (.ref f) "__get__" = some (some g)) (ht : takesIn K (.ref f) = some false) (hfn : isFn K (.ref f) = true) (hl : getL name es = some (some v)) (hv : handedIn v = true) (h : Q (v, []) { s with toks := s.toks + 1 }) :
    wpAny (model prog w) A (getMethod (.ref x) name pl) Q E s := by
  have X := X₀.keeps F.keep
  have hcan := PySem.F.canon_object_ga
  have u : wpAny (model prog w) A (do return (← getAttr (.ref x) name, ([] : List Value))) Q E s := wpAny_bind (get_shadow F X₀ I hg hh ha hgf ht hl hv (wpAny_pure h))
  unfold getMethod specialOf
  refine wpAny_bind (wpAny_bind (I.type.here ((looks_findIn X (plainGet_of hg).1).here ?_)))
  dsimp only
  rw [hcan, if_neg (by decide)]
  refine wpAny_bind (wpAny_bind (I.type.here ((looks_findIn X (plainGet_of hg).2).here ?_)))
  refine wpAny_bind (wpAny_bind (I.type.here ((looks_findIn X ha).here (wpAny_bind ((looks_typeIn X (beq_iff_eq.mp hfn)).here ?_)))))
  rw [if_neg (by decide +kernel)]
  refine wpAny_bind (wpAny_loadPart I.at_ ?_)
  have hd := I.dict
  cases e : ox.dict with
  | none => rw [e] at hd; exact hd.elim
  | some dx =>
    rw [e] at hd
    refine wpAny_bind (wpAny_bind (wpAny_loadPart hd ?_))
    have hs : lookIn name (dictOf es n) = some (some v) := by rw [lookIn_dict, hl]
    rw [nsLook_of hs]
    exact wpAny_pure u
end
local macro_rules | `(tactic| walk_at "getMethod ref") => `(tactic| (k_here; k_dflt (refine' method_shadow ?k1 ?k2 ?k3 ?k4 ?k5 ?k6 ?k7 ?k8 ?k9 ?k10 ?k11 ?_; (case k1 => k_asm); (case k2 => k_asm); (case k3 => k_inst); (case k4 => k_is); (case k5 => k_is); (case k6 => k_is); (case k7 => k_is); (case k8 => k_is); (case k9 => k_is); (case k10 => k_get); (case k11 => k_handed); k_whole)))
local macro_rules | `(tactic| walk_at "getAttr ref") => `(tactic| (k_here; k_dflt (refine' get_shadow ?k1 ?k2 ?k3 ?k4 ?k5 ?k6 ?k7 ?k8 ?k9 ?k10 ?_; (case k1 => k_asm); (case k2 => k_asm); (case k3 => k_inst); (case k4 => k_is); (case k5 => k_is); (case k6 => k_is); (case k7 => k_is); (case k8 => k_is); (case k9 => k_get); (case k10 => k_handed); k_whole)))

def mOf (hdL : Str) (q : Str × Nat × Str) : Nat := if inS hdL (Txt.lower q.1) then q.2.1 else 0
def stepA (hdL : Str) (st : Int × Option Str) (q : Str × Nat × Str) : Int × Option Str :=
  if mOf hdL q = 0 then st else if st.1 < (mOf hdL q : Nat) then ((mOf hdL q : Nat), some q.2.2)
  else if ((mOf hdL q : Nat) : Int) = st.1 ∧ st.2 = some (Str.ofString "") then (st.1, some q.2.2) else st
def foldA (hdL : Str) (specs : List (Str × Nat × Str)) : Int × Option Str := specs.foldl (stepA hdL) (-1, none)
section
variable {hdL : Str} {st : Int × Option Str} {q : Str × Nat × Str}
theorem stepA_zero (h : ((mOf hdL q : Nat) : Int) = 0) : stepA hdL st q = st := if_pos (by omega)
theorem stepA_gt (h : ((mOf hdL q : Nat) : Int) ≠ 0) (h2 : st.1 < (mOf hdL q : Nat)) : stepA hdL st q = (((mOf hdL q : Nat) : Int), some q.2.2) := by
  unfold stepA
  rw [if_neg (by omega), if_pos h2]
theorem stepA_keep (h : ((mOf hdL q : Nat) : Int) ≠ 0) (h2 : ¬ st.1 < (mOf hdL q : Nat)) (h3 : ¬ (((mOf hdL q : Nat) : Int) = st.1 ∧ st.2 = some (Str.ofString ""))) : stepA hdL st q = st := by
  unfold stepA
  rw [if_neg (by omega), if_neg h2, if_neg h3]
theorem stepA_eq (h : ((mOf hdL q : Nat) : Int) ≠ 0) (h2 : ¬ st.1 < (mOf hdL q : Nat)) (h3 : ((mOf hdL q : Nat) : Int) = st.1) (h4 : st.2 = some (Str.ofString "")) : stepA hdL st q = (st.1, some q.2.2) := by
  unfold stepA
  rw [if_neg (by omega), if_neg h2, if_pos ⟨h3, h4⟩]
end
theorem stepA_val {hdL : Str} {st : Int × Option Str} {q : Str × Nat × Str} : stepA hdL st q = st ∨ (stepA hdL st q).2 = some q.2.2 := by
  unfold stepA
  split
  · exact .inl rfl
  split
  · exact .inr rfl
  split
  · exact .inr rfl
  · exact .inl rfl
theorem fold_vals (hdL : Str) : ∀ (specs : List (Str × Nat × Str)) (st : Int × Option Str), (∀ q ∈ specs, q.2.2 = Str.ofString "yes" ∨ q.2.2 = Str.ofString "") → (st.2 = none ∨ st.2 = some (Str.ofString "yes") ∨ st.2 = some (Str.ofString "")) →
    ((specs.foldl (stepA hdL) st).2 = none ∨ (specs.foldl (stepA hdL) st).2 = some (Str.ofString "yes") ∨ (specs.foldl (stepA hdL) st).2 = some (Str.ofString ""))
  | [], _, _, h => h
  | q :: r, st, hq, h => by
    refine fold_vals hdL r (stepA hdL st q) (fun q' hq' => hq q' (.tail _ hq')) ?_
    rcases stepA_val (hdL := hdL) (st := st) (q := q) with e | e
    · rw [e]; exact h
    · rw [e]
      rcases hq q (.head _) with h2 | h2 <;> rw [h2] <;> simp
theorem foldA_vals (hdL : Str) (specs : List (Str × Nat × Str)) (hq : ∀ q ∈ specs, q.2.2 = Str.ofString "yes" ∨ q.2.2 = Str.ofString "") :
    (foldA hdL specs).2 = none ∨ (foldA hdL specs).2 = some (Str.ofString "yes") ∨ (foldA hdL specs).2 = some (Str.ofString "") := fold_vals hdL specs _ hq (.inl rfl)
def IsAllow (v : Value) : Option Str → Prop
  | none => v = .bool true
  | some y => ∃ t, v = .str y t
section
variable {w : World} {mg mb : Str → Option Value} {p : Program} {loose : List Str} {mean : ExcName → Option Value}
  {dp un : Nat} {fr : Option (List Env)} {gd : Option (List Code)} {s : Shared} {Q E : Value → Shared → Prop} {h₀ : Heap} {L : Addr} {m : Str → Option Value} {news : List (Addr × Obj)}
theorem lam_call2 {f cw cr c' wx wd wu wr : Addr} {pm ctv : Value} {ow or : Obj} {a1 a2 a3 a4 t ta tr : Tok} {cc : Nat} {q : Str × Nat × Str} {y hd' : Str} {tl : List Str} (F₀ : Fr h₀ L s.heap m) (N₀ : News h₀ L s.heap news) (X₀ : (hd.heap_39 w.params).In h₀) (T₀ : Top p loose mean mg mb h₀) (hdp : dp + 5 < recursionLimit)
   (hf : s.heap.get? f = some (lamObj w.params cw cr c' pm ctv)) (hcd : s.heap.CodeRec (.ref c') lamQual) (hcw : s.heap.get? cw = some ow) (dcw : ow.data = .cell (some (.ref wx))) (hcr : s.heap.get? cr = some or) (dcr : or.data = .cell (some (.int (q.2.1 : Nat) tr)))
   (hx : s.heap.get? wx = some (instObj 52 wd)) (hd : s.heap.get? wd = some (dictOf (entD w.params a1 a2 a3 a4 wu wr) 4)) (hu : s.heap.get? wu = some (PySem.W.listOf #[.str q.1 ta] cc))
   (hy : y.length ≤ 1000) (hsp : Txt.split y (Str.ofString "/") = hd' :: tl) (hl1 : Builtin.Str.tooLong (Txt.lower hd').length = false) (hl2 : Builtin.Str.tooLong (Txt.lower q.1).length = false) (hst : q.1 ≠ Str.ofString "*")
   (h : ∀ h' tk' t, Fr h₀ L h' m → News h₀ L h' news → Q (.int (mOf (Txt.lower hd') q : Nat) t) { s with heap := h', toks := tk' }) :
   wpAny (model PySem.Challenge.pw_tv0029_01 w) (aA dp fr gd un) (call (.ref f) [.str y t]) Q E s := by
  refine lam_call F₀ N₀ X₀ T₀ hdp hf hcd hcw dcw hcr dcr hx hd hu hy hsp hl1 hl2 hst fun h' tk' t F' N' => ?_
  have e : (if inS (Txt.lower hd') (Txt.lower q.1) then ((q.2.1 : Nat) : Int) else 0) = ((mOf (Txt.lower hd') q : Nat) : Int) := by
    unfold mOf
    split <;> rfl
  rw [e]
  exact h _ _ _ F' N'
end
local macro_rules | `(tactic| walk_at "call ref") => `(tactic| ((with_reducible show wpAny _ _ (call (Value.ref _) [Value.str _ _]) _ _ _); k_dflt (refine' lam_call2 (by k_asm) (by k_asm) (by k_asm) (by k_asm) (by omega) (by exact Fr.keep (by k_asm) _ _ (by assumption)) (by exact Heap.CodeRec.keeps (by assumption) (Fr.keep (by k_asm))) (by exact Fr.keep (by k_asm) _ _ (by assumption)) (by assumption) (by exact Fr.keep (by k_asm) _ _ (by assumption)) (by assumption) (by exact Fr.keep (by k_asm) _ _ (by assumption)) (by exact Fr.keep (by k_asm) _ _ (by assumption)) (by exact Fr.keep (by k_asm) _ _ (by assumption)) (by assumption) (by assumption) (by assumption) (by assumption) (by assumption) ?_; k_whole); intro h' tk' t' F' N'; (try dsimp only); (try k_sweep)))
theorem lam_data (P : Params) (cw cr c' : Addr) (pm ctv : Value) : ∃ fd, (lamObj P cw cr c' pm ctv).data = .func fd := ⟨_, rfl⟩
theorem callWith_lam {M : Model} {A : Around} {E : Value → Shared → Prop} {s : Shared} {h₀ : Heap} {P : Params} {cw cr c' f : Addr} {pm ctv : Value} {env : Env} {pos : Pos} {first : List Value} {e : Expr} {rest : List Expr} {Q : Value → Shared → Prop} (ho : h₀.get? f = some (lamObj P cw cr c' pm ctv))
    (h : wpAny M A (spliced (backTo pos (starEach (e :: rest) env))) (fun vs s₁ => (∀ b o, h₀.get? b = some o → s₁.heap.get? b = some o) ∧ wpAny M A (call (.ref f) (first ++ vs)) Q E s₁) E s)
    (he : starEach (e :: rest) env = (false, eval e env) :: starEach rest env := by rfl) :
    wpAny M A (callWith pos (.ref f) first (backTo pos (starEach (e :: rest) env)) []) Q E s := by
  obtain ⟨fd, hd⟩ := lam_data P cw cr c' pm ctv
  exact callWith_meth hd ho h he
local macro_rules | `(tactic| walk_at "callWith") => `(tactic| ((try dsimp only); k_dflt (refine' callWith_lam ?o ?_; (case o => assumption))))
def allowFor (K : Frag) : Stmt := match (fnK K 49).1 with
  | _ :: _ :: f :: _ => f
  | _ => .Pass ⟨0, 0, 0, 0⟩
section
variable {w : World} {mg mb : Str → Option Value} {p : Program} {loose : List Str} {mean : ExcName → Option Value}
  {dp un : Nat} {fr : Option (List Env)} {gd : Option (List Code)} {s : Shared} {Q E : Value → Shared → Prop} {h₀ : Heap} {L : Addr} {m : Str → Option Value} {news : List (Addr × Obj)}
theorem allow_loop {x dx u r c' : Addr} {a1 a2 a3 a4 t tb : Tok} {nr : Nat} {rl : List Value} {specs : List (Str × Nat × Str)} {y hd' : Str} {tl : List Str} {FQ : Flow → Shared → Prop} (F : Fr h₀ L s.heap m) (N : News h₀ L s.heap []) (X : (hd.heap_39 w.params).In h₀) (T : Top p loose mean mg mb h₀) (hdp : dp + 6 < recursionLimit)
   (hx : h₀.get? x = some (instObj 52 dx)) (hdx : h₀.get? dx = some (dictOf (entD w.params a1 a2 a3 a4 u r) 4)) (hr : h₀.get? r = some (PySem.W.listOf (List.toArray rl) nr)) (hv : Paired (RuleVal w.params h₀ c') rl specs) (hcd : h₀.CodeRec (.ref c') lamQual)
   (hy : y.length ≤ 1000) (hsp : Txt.split y (Str.ofString "/") = hd' :: tl) (hl1 : Builtin.Str.tooLong (Txt.lower hd').length = false) (hag : ∀ q ∈ specs, Builtin.Str.tooLong (Txt.lower q.1).length = false ∧ q.1 ≠ Str.ofString "*")
   (hvd : ∀ q ∈ specs, q.2.2 = Str.ofString "yes" ∨ q.2.2 = Str.ofString "")
   (hself : m "self" = some (.ref x)) (hfn : m "filename" = some (.str y t)) (hbm : m "best_match" = some (.int (-1) tb)) (hal : m "allowance" = some (.bool true))
   (h : ∀ v m' h' tk', Fr h₀ L h' m' → News h₀ L h' [] → m' "allowance" = some v → IsAllow v (foldA (Txt.lower hd') specs).2 → FQ .next { s with heap := h', toks := tk' }) :
   wpAny (model PySem.Challenge.pw_tv0029_01 w) (aA dp fr gd un) (exec (allowFor (hd.heap_39 w.params)) (envOf "Entry.allowance" (fnK (hd.heap_39 w.params) 49).2 L 49 (.ref 48))) FQ (fun _ _ => False) s := by
  show wpAny _ _ (exec (Stmt.For (Expr.Name _ _) _ _ _ _) (envOf _ (Scope.mk _ _ _ _ _) _ _ _)) _ _ _
  refine for_seq (h₀ := h₀) rfl ?_
  walk1
  walk1
  walk1
  refine ⟨false, r, _, m, [], fun i m' news' => m' "filename" = some (.str y t) ∧ news' = [] ∧ (∃ tb, m' "best_match" = some (.int (foldA (Txt.lower hd') (specs.take i)).1 tb)) ∧ ∃ v, m' "allowance" = some v ∧ IsAllow v (foldA (Txt.lower hd') (specs.take i)).2,
    rfl, ⟨_, F.keep _ _ hr, rfl, _, rfl⟩, F, N, ⟨hfn, rfl, ⟨_, hbm⟩, _, hal, rfl⟩, ?_, fun it k1 k2 => ⟨?_, ?_⟩⟩
  · rintro i m' news' h' - F' N'
    exact ⟨_, F'.keep _ _ hr, rfl, _, rfl⟩
  · rintro i v m' news' h' tk hiv ⟨hfn', rfl, ⟨tb', hbm'⟩, va, hal', hva⟩ nit F' N'
    obtain ⟨q, hq, lx, rfl, rz, hz, dx2, t1, t2, t3, t4, t5, t6, u2, r2, f2, cw, cr, pm, ctv, tv, m1, m2, m3, ow, or, tr, wx, wd, wt1, wt2, wt3, wt4, wu, wr, ta, cc, m4, d4, m5, d5, m6, m7, m8⟩ := paired_get hv i v (by simpa using hiv)
    replace m1 := hz _ _ m1; replace m2 := hz _ _ m2; replace m3 := hz _ _ m3; replace m4 := hz _ _ m4; replace m5 := hz _ _ m5; replace m6 := hz _ _ m6; replace m7 := hz _ _ m7; replace m8 := hz _ _ m8
    obtain ⟨hl2, hst⟩ := hag q (List.mem_of_getElem? hq)
    have ht2 : specs.take (i + 1) = specs.take i ++ [q] := by rw [List.take_add_one, hq]; rfl
    have hfold : foldA (Txt.lower hd') (specs.take (i + 1)) = stepA (Txt.lower hd') (foldA (Txt.lower hd') (specs.take i)) q := by rw [ht2]; exact List.foldl_append
    refine assign_one F' N' rfl rfl fun h₅ tk₅ F₅ N₅ => ?_
    clear F' N' F N
    have hvals := foldA_vals (Txt.lower hd') (specs.take i) fun q hq => hvd q (List.mem_of_mem_take hq)
    generalize foldA (Txt.lower hd') (specs.take i) = st at *
    obtain ⟨best, al⟩ := st
    dsimp only at hbm' hva hvals
    k_steps
    · rename_i ha hb _ _ F' N'
      have e := stepA_gt ha (q := q) (st := (best, al)) hb
      exact ⟨_, _, _, _, rfl, F', N', (fun _ hp => nomatch hp), hfn', rfl, ⟨_, by rw [hfold, e]; rfl⟩, _, rfl, by rw [hfold, e]; exact ⟨_, rfl⟩⟩
    · rename_i F₆ N₆ ha hb hc
      rcases hvals with hn | hn | hn
      · obtain rfl : al = none := hn
        obtain rfl : va = .bool true := hva
        have e := stepA_keep ha (q := q) (st := (best, none)) hb (fun c => nomatch c.2)
        k_steps
        exact ⟨_, _, _, _, rfl, F₆, N₆, (fun _ hp => nomatch hp), hfn', rfl, ⟨tb', by rw [hfold, e]; exact hbm'⟩, _, hal', by rw [hfold, e]; rfl⟩
      · obtain rfl : al = some (Str.ofString "yes") := hn
        obtain ⟨tva, rfl⟩ := hva
        have hne : (some (Str.ofString "yes") : Option Str) ≠ some (Str.ofString "") := by decide +kernel
        have e := stepA_keep ha (q := q) (st := (best, some (Str.ofString "yes"))) hb (fun c => hne c.2)
        k_steps
        exact ⟨_, _, _, _, rfl, F₆, N₆, (fun _ hp => nomatch hp), hfn', rfl, ⟨tb', by rw [hfold, e]; exact hbm'⟩, _, hal', by rw [hfold, e]; exact ⟨_, rfl⟩⟩
      · obtain rfl : al = some (Str.ofString "") := hn
        obtain ⟨tva, rfl⟩ := hva
        have e := stepA_eq ha (q := q) (st := (best, some (Str.ofString ""))) hb hc rfl
        k_steps
        rename_i F' N'
        exact ⟨_, _, _, _, rfl, F', N', (fun _ hp => nomatch hp), hfn', rfl, ⟨tb', by rw [hfold, e]; exact hbm'⟩, _, rfl, by rw [hfold, e]; exact ⟨_, rfl⟩⟩
    · rename_i F' N' ha hb hc
      have e := stepA_keep ha (q := q) (st := (best, al)) hb (fun c => hc c.1)
      exact ⟨_, _, _, _, rfl, F', N', (fun _ hp => nomatch hp), hfn', rfl, ⟨tb', by rw [hfold, e]; exact hbm'⟩, _, hal', by rw [hfold, e]; exact hva⟩
    · rename_i F' N' ha
      have e := stepA_zero (q := q) (st := (best, al)) ha
      exact ⟨_, _, _, _, rfl, F', N', (fun _ hp => nomatch hp), hfn', rfl, ⟨tb', by rw [hfold, e]; exact hbm'⟩, _, hal', by rw [hfold, e]; exact hva⟩
  · rintro m' news' h' tk ⟨hfn', rfl, ⟨tb', hbm'⟩, va, hal', hva⟩ F' N'
    rw [show (List.toArray rl).size = specs.length from by rw [List.size_toArray]; exact paired_len hv, List.take_length] at hva
    exact wpAny_execs_nil (h _ _ _ _ F' N' hal' hva)
end

section
variable {w : World} {mg mb : Str → Option Value} {p : Program} {loose : List Str} {mean : ExcName → Option Value}
  {dp un : Nat} {fr : Option (List Env)} {gd : Option (List Code)} {s : Shared} {Q E : Value → Shared → Prop} {h₀ : Heap} {L : Addr} {m : Str → Option Value} {news : List (Addr × Obj)}
theorem allow_new {x dx u r c' : Addr} {a1 a2 a3 a4 t : Tok} {nr : Nat} {rl : List Value} {specs : List (Str × Nat × Str)} {y hd' : Str} {tl : List Str} (F₀ : Fr h₀ L s.heap m) (N₀ : News h₀ L s.heap news) (X₀ : (hd.heap_39 w.params).In h₀) (T₀ : Top p loose mean mg mb h₀) (hdp : dp + 8 < recursionLimit)
   (hx : s.heap.get? x = some (instObj 52 dx)) (hdx : s.heap.get? dx = some (dictOf (entD w.params a1 a2 a3 a4 u r) 4)) (hr : s.heap.get? r = some (PySem.W.listOf (List.toArray rl) nr)) (hv : Paired (RuleVal w.params s.heap c') rl specs) (hcd : s.heap.CodeRec (.ref c') lamQual)
   (hy : y.length ≤ 1000) (hsp : Txt.split y (Str.ofString "/") = hd' :: tl) (hl1 : Builtin.Str.tooLong (Txt.lower hd').length = false) (hag : ∀ q ∈ specs, Builtin.Str.tooLong (Txt.lower q.1).length = false ∧ q.1 ≠ Str.ofString "*") (hvd : ∀ q ∈ specs, q.2.2 = Str.ofString "yes" ∨ q.2.2 = Str.ofString "")
   (h : ∀ v h' tk', Fr h₀ L h' m → News h₀ L h' news → IsAllow v (foldA (Txt.lower hd') specs).2 → Q v { s with heap := h', toks := tk' }) :
   wpAny (model PySem.Challenge.pw_tv0029_01 w) (aA dp fr gd un) (call (.ref 49) [.ref x, .str y t]) Q E s := by
  have X := X₀.keeps F₀.keep
  have T := T₀.keeps F₀.keep
  refine enter X T (by k_is) (by k_is) (by omega) (BindsTo.of_eq rfl) (locs rfl) ?_ rfl rfl rfl (by decide)
  intro h₁ tk F N
  clear X₀ T₀
  k_steps
  rename_i F' N'
  refine allow_loop F' N' X T (by omega) hx hdx hr hv hcd hy hsp hl1 hag hvd rfl rfl rfl rfl fun v m' h' tk' F₂ N₂ hal hva => ?_
  k_steps
  dsimp only
  obtain ⟨F'', N'', _⟩ := back F₀ N₀ F₂ N₂
  exact h _ _ _ F'' (news_sub N'' fun p hp => List.mem_append_right _ hp) hva
end

section
variable {w : World} {mg mb : Str → Option Value} {p : Program} {loose : List Str} {mean : ExcName → Option Value}
  {dp un : Nat} {fr : Option (List Env)} {gd : Option (List Code)} {s : Shared} {Q E : Value → Shared → Prop} {h₀ : Heap} {L : Addr} {m : Str → Option Value} {news : List (Addr × Obj)}
/-- _law_book in the law's own frame: the rest of the ledger is kept -/
theorem book_step {full : List (Addr × Obj)} {xw Dr : Addr} {nr : Nat} {rv : List Value} {rows : List (Str × Nat × List Str)} {wl : List Str} {o₀ : Option Addr}
   (F₀ : Fr h₀ L s.heap m) (N₀ : News h₀ L s.heap full) (m0 : (131, tabObj (tabOf w.params o₀)) ∈ full) (X₀ : (hd.heap_39 w.params).In h₀) (T₀ : Top p loose mean mg mb h₀) (C₀ : CodeHd h₀ 135 131) (hdp : dp + 9 < recursionLimit) (hun : un + 110 < cLine)
   (hw : EntIn w.params full xw wl) (wok : StrsOk wl) (wlen : wl.length ≤ 1000)
   (hr : (Dr, PySem.W.listOf (List.toArray rv) nr) ∈ full) (hv : Paired (RowIn w.params full) rv rows) (hrl : ∀ row ∈ rows, row.2.2.length ≤ 1000) (hrn : rows.length ≤ 100) (hne : rows ≠ [])
   (h : ∀ x c' fz h' tk', Fr h₀ L h' m → (∀ rest, (∀ p ∈ rest, p ∈ full ∧ p.1 ≠ 131) → News h₀ L h' ((131, tabObj (lamTab w.params c')) :: (fz ++ rest))) → (∀ q ∈ full, q.1 ≠ 131 → ∀ p ∈ fz, p.1 ≠ q.1) → (∀ p ∈ fz, p.1 ≠ 131) →
     BookIn w.params fz x (rows.map (specOf wl)) c' → (o₀ = some c' ∨ CodeIn fz c') → Q (.ref x) { s with heap := h', toks := tk' }) :
   wpAny (model PySem.Challenge.pw_tv0029_01 w) (aA dp fr gd un) (call (.ref 150) [.ref Dr, .ref xw]) Q E s := by
  refine book_new (o₀ := o₀) F₀ (news_sub N₀ fun p hp => by rw [List.mem_singleton.mp hp]; exact m0) X₀ T₀ C₀ hdp hun (hw.toAt N₀) wok wlen (N₀ _ hr).1 (paired_imp hv fun a b x => x.toAt N₀) hrl hrn hne fun x c' fz h' tk' F' N' K ne B cd => ?_
  refine h x c' fz h' tk' F' (fun rest hs q hq => ?_) (fun q hq hn p hp => (K _ _ hn (N₀ q hq).1).2 p hp) ne B cd
  rcases List.mem_cons.mp hq with rfl | hq
  · exact N' _ (.head _)
  rcases List.mem_append.mp hq with hq | hq
  · exact N' q (.tail _ hq)
  · obtain ⟨h1, h2⟩ := hs q hq
    exact ⟨(K _ _ h2 (N₀ q h1).1).1, (N₀ q h1).2⟩
theorem may_int {cl : Addr} {c0 c1 c2 c3 c4 c5 user groups wish : Nat} {ig : Int} {t0 t1 t2 t3 t4 t5 tu tg tw : Tok}
   (F₀ : Fr h₀ L s.heap m) (N₀ : News h₀ L s.heap news) (X₀ : (hd.heap_39 w.params).In h₀) (T₀ : Top p loose mean mg mb h₀) (hdp : dp + 6 < recursionLimit) (hun : un + 110 < cLine)
   (hc : s.heap.IsList cl #[.int c0 t0, .int c1 t1, .int c2 t2, .int c3 t3, .int c4 t4, .int c5 t5])
   (hu : user < 5) (hg : ig = (groups : Nat))
   (h : ∀ h' tk' , Fr h₀ L h' m → News h₀ L h' news → Q (.bool (mayS c0 c1 c2 c4 user groups wish)) { s with heap := h', toks := tk' }) :
   wpAny (model PySem.Challenge.pw_tv0029_01 w) (aA dp fr gd un) (call (.ref 160) [.ref cl, .int user tu, .int ig tg, .int wish tw]) Q E s := by
  subst hg
  exact may_new F₀ N₀ X₀ T₀ hdp hun hc hu h
theorem words_int {user groups : Nat} {ig : Int} {t1 t2 : Tok}
   (F₀ : Fr h₀ L s.heap m) (N₀ : News h₀ L s.heap news) (X₀ : (hd.heap_39 w.params).In h₀) (T₀ : Top p loose mean mg mb h₀) (hdp : dp + 6 < recursionLimit)
   (hu : user < 5) (hi : ig = (groups : Nat)) (hg : groups < 8)
   (h : ∀ h' tk' t, Fr h₀ L h' m → News h₀ L h' news → Q (.str (wordsS user groups) t) { s with heap := h', toks := tk' }) :
   wpAny (model PySem.Challenge.pw_tv0029_01 w) (aA dp fr gd un) (call (.ref 155) [.int user t1, .int ig t2]) Q E s := by
  subst hi
  exact words_new F₀ N₀ X₀ T₀ hdp hu hg h
end
def headS (u g : Nat) : Str := Txt.join (Str.ofString " ") (wordsL u g)
theorem words_split : ∀ u < 5, ∀ g < 8, Txt.split (wordsS u g) (Str.ofString "/") = [headS u g, Str.ofString "u0 g0"] := by decide +kernel
theorem words_lower : ∀ u < 5, ∀ g < 8, Builtin.Str.tooLong (Txt.lower (headS u g)).length = false := by decide +kernel
theorem words_short : ∀ u < 5, ∀ g < 8, (wordsS u g).length ≤ 1000 := by decide +kernel
theorem grp_eq (c3 i : Nat) : (Int.fdiv (c3 : Int) (8 ^ ((i : Int)).toNat)).fmod 8 = ((c3 / 8 ^ i % 8 : Nat) : Int) := by
  have e1 : ((i : Int)).toNat = i := by omega
  have e2 : (8 : Int) ^ i = ((8 ^ i : Nat) : Int) := by norm_cast
  rw [e1, e2, fdiv_nat]
  exact fmod_nat _ 8
theorem grp_lt (c3 i : Nat) : c3 / 8 ^ i % 8 < 8 := Nat.mod_lt _ (by decide)

local macro_rules | `(tactic| k_steps) => `(tactic| repeat' (first | ((fail_if_success ((with_reducible show LCt.CompRestT _ _ _ _ _ _ _ _ _ _ _ _ _ _ _ _ _ _ _ _))); (fail_if_success ((with_reducible show wpAny _ _ (eval (Expr.ListComp _ _ _ _) _) _ _ _))); (fail_if_success ((with_reducible show wpAny _ _ (call (Value.ref 49) _) _ _ _))); (fail_if_success ((with_reducible show wpAny _ _ (call (Value.ref 150) _) _ _ _))); (fail_if_success ((with_reducible show AtRange _ _ _ _ _ _ _ _))); (fail_if_success ((with_reducible show wpAny _ _ (exec (Stmt.For _ _ _ _ _) _) _ _ _))); first | (k_unfold; (try dsimp only)) | (k_end; wrow_close) | walk1 | (dsimp only; walk1) | (leave1; walk_say "STEP leave1"; try dsimp only) | fail "no step")))
local macro_rules | `(tactic| walk_at "call ref") => `(tactic| ((with_reducible show wpAny _ _ (call (Value.ref 160) _) _ _ _); k_dflt (refine' may_int ?F ?N ?X ?T ?d ?un ?c ?u ?g ?_; (case F => k_asm); (case N => k_asm); (case X => k_asm); (case T => k_asm); (case d => omega); (case un => omega); (case c => exact News.isList (by k_asm) (by k_mem)); (case u => assumption); (case g => exact grp_eq _ _); k_whole); intro h' tk' F' N'; (try dsimp only); (try k_sweep)))
local macro_rules | `(tactic| walk_at "call ref") => `(tactic| ((with_reducible show wpAny _ _ (call (Value.ref 155) _) _ _ _); k_dflt (refine' words_int ?F ?N ?X ?T ?d ?u ?i ?g ?_; (case F => k_asm); (case N => k_asm); (case X => k_asm); (case T => k_asm); (case d => omega); (case u => assumption); (case i => exact grp_eq _ _); (case g => exact grp_lt _ _); k_whole); intro h' tk' t' F' N'; (try dsimp only); (try k_sweep)))
local macro_rules | `(tactic| walk_at "subscriptTail") => `(tactic| ((with_reducible show wpAny _ _ (subscriptTail _ _ (Value.ref _) (Value.int _ _)) _ _ _); k_dflt (refine' item_list_intsR ?l ?i ?a ?b ?c ?_ ?h; (case i => assumption); (case l => exact News.isList (by k_asm) (by k_mem)); (case a => decide); (case b => exact Int.ofNat_lt.mpr (by decide)); (case c => decide); (case h => with_unfolding_all rfl)); intro t'))
theorem pow8 (i : Nat) (h : i < 5) : (8 : Int) ^ ((i : Int)).toNat ≠ 0 ∧ ((8 : Int) ^ ((i : Int)).toNat).natAbs < 1073741824 := by
  match i, h with
  | 0, _ => decide
  | 1, _ => decide
  | 2, _ => decide
  | 3, _ => decide
  | 4, _ => decide
local macro_rules | `(tactic| walk_at "binaryOp FloorDiv int int") => `(tactic| ((with_reducible show wpAny _ _ (binaryOp Operator.FloorDiv (Value.int _ _) (Value.int (HPow.hPow _ _) _)) _ _ _); k_dflt (refine floordiv_int (pow8 _ (by assumption)).1 ?_ (Or.inl (PyProof.noPylong_small (pow8 _ (by assumption)).2)))))
def lawInner (K : Frag) : Stmt := match (fnK K 167).1 with
  | _ :: _ :: .For _ _ (_ :: f :: _) _ _ :: _ => f
  | _ => .Pass ⟨0, 0, 0, 0⟩
def yn (b : Bool) : Str := if b then Str.ofString "yes" else Str.ofString ""
section
variable {w : World} {mg mb : Str → Option Value} {p : Program} {loose : List Str} {mean : ExcName → Option Value}
  {dp un : Nat} {fr : Option (List Env)} {gd : Option (List Code)} {s : Shared} {Q E : Value → Shared → Prop} {h₀ : Heap} {L : Addr} {m : Str → Option Value} {news : List (Addr × Obj)}
theorem law_inner {fa cl bx c' : Addr} {cd : Value} {c0 c1 c2 c3 c4 c5 q nc : Nat} {t0 t1 t2 t3 t4 t5 tq : Tok} {specs : List (Str × Nat × Str)} {vr : Value} {FQ : Flow → Shared → Prop}
   (F : Fr h₀ L s.heap m) (N : News h₀ L s.heap news) (X : (hd.heap_39 w.params).In h₀) (T : Top p loose mean mg mb h₀) (hdp : dp + 9 < recursionLimit) (hun : un + 120 < cLine)
   (hcl : (cl, PySem.W.listOf #[.int c0 t0, .int c1 t1, .int c2 t2, .int c3 t3, .int c4 t4, .int c5 t5] nc) ∈ news) (B : BookIn w.params news bx specs c') (hcd : CodeIn news c')
   (hag : ∀ q ∈ specs, Builtin.Str.tooLong (Txt.lower q.1).length = false ∧ q.1 ≠ Str.ofString "*") (hvd : ∀ q ∈ specs, q.2.2 = Str.ofString "yes" ∨ q.2.2 = Str.ofString "")
   (hlaw : ∀ u < 5, (foldA (Txt.lower (headS u (c3 / 8 ^ u % 8))) specs).2 = some (yn (mayS c0 c1 c2 c4 u (c3 / 8 ^ u % 8) q)))
   (mc : m "cells" = some (.ref cl)) (mn : m "number" = some (.int q tq)) (mk : m "book" = some (.ref bx)) (mr : m "rows" = some vr)
   (h : ∀ m' h' tk, Fr h₀ L h' m' → News h₀ L h' news → m' "cells" = some (.ref cl) → m' "rows" = some vr → FQ .next { s with heap := h', toks := tk }) :
   wpAny (model PySem.Challenge.pw_tv0029_01 w) (aA dp fr gd un) (exec (lawInner (hd.heap_39 w.params)) (envOf "law" (fnK (hd.heap_39 w.params) 167).2 L fa cd)) FQ (fun _ _ => False) s := by
  obtain ⟨bd, bu, br, b1, b2, b3, b4, us, rl, bc, bc2, e1, e2, e3, e4⟩ := B
  have hI : IntsAre [.int c0 t0, .int c1 t1, .int c2 t2, .int c3 t3, .int c4 t4, .int c5 t5] [(c0 : Int), c1, c2, c3, c4, c5] := .cons _ _ (.cons _ _ (.cons _ _ (.cons _ _ (.cons _ _ (.cons _ _ .nil)))))
  show wpAny _ _ (exec (Stmt.For (Expr.Name _ _) _ _ _ _) (envOf _ (Scope.mk _ _ _ _ _) _ _ _)) _ _ _
  refine for_range (h₀ := h₀) rfl rfl rfl ?_
  refine wpAny_mono (Q := AtRange s h₀ L m news 5) ?_ (fun xv s₁ hr => ?_) fun _ _ e => e
  · k_steps
    rename_i hr F' N' _
    exact ⟨_, _, _, _, _, _, rfl, rfl, hr, F', N'⟩
  · obtain ⟨r, t, u, v, h', tk, rfl, rfl, hr, F', N'⟩ := hr
    refine ⟨r, 5, t, u, v, m, news, fun i m' news' => news' = news ∧ m' "cells" = some (.ref cl) ∧ m' "number" = some (.int q tq) ∧ m' "book" = some (.ref bx) ∧ m' "rows" = some vr,
      rfl, hr, by omega, F', N', ⟨rfl, mc, mn, mk, mr⟩, fun it k1 k2 => ⟨?_, ?_⟩⟩
    · clear F N F' N' mc mn mk mr
      rintro i m' news' h₁ tk₁ tk₂ hi ⟨rfl, mc, mn, mk, mr⟩ nit F₁ N₁
      k_steps
      · rename_i F' N'
        have hm : mayS c0 c1 c2 c4 i (c3 / 8 ^ i % 8) q = true := by assumption
        have Nn : News h₀ L _ news' := news_sub N' fun p hp => .tail _ hp
        refine allow_new F' N' X T (by omega) (N'.get (by k_mem)) (N'.get (by k_mem)) (N'.get (by k_mem)) (paired_imp e4 fun a b e => e.toVal Nn) (hcd.toRec Nn) (words_short i hi _ (grp_lt _ _)) (words_split i hi _ (grp_lt _ _)) (words_lower i hi _ (grp_lt _ _)) hag hvd fun v h' tk' F₂ N₂ hv => ?_
        rw [hlaw i hi, hm] at hv
        obtain ⟨tv, rfl⟩ : ∃ tv, v = .str (Str.ofString "yes") tv := hv
        clear F' N' Nn
        k_steps
        exact ⟨_, _, _, _, rfl, F₂, N₂, nit, rfl, mc, mn, mk, mr⟩
      · rename_i F' N'
        have hm : mayS c0 c1 c2 c4 i (c3 / 8 ^ i % 8) q = false := by assumption
        have Nn : News h₀ L _ news' := news_sub N' fun p hp => .tail _ hp
        refine allow_new F' N' X T (by omega) (N'.get (by k_mem)) (N'.get (by k_mem)) (N'.get (by k_mem)) (paired_imp e4 fun a b e => e.toVal Nn) (hcd.toRec Nn) (words_short i hi _ (grp_lt _ _)) (words_split i hi _ (grp_lt _ _)) (words_lower i hi _ (grp_lt _ _)) hag hvd fun v h' tk' F₂ N₂ hv => ?_
        rw [hlaw i hi, hm] at hv
        obtain ⟨tv, rfl⟩ : ∃ tv, v = .str (Str.ofString "") tv := hv
        clear F' N' Nn
        k_steps
        exact ⟨_, _, _, _, rfl, F₂, N₂, nit, rfl, mc, mn, mk, mr⟩
    · rintro m' news' h₁ tk₁ ⟨rfl, mc, mn, mk, mr⟩ F₁ N₁
      exact wpAny_execs_nil (h _ _ _ F₁ N₁ mc mr)
end

local macro_rules | `(tactic| walk_at "call ref") => `(tactic| ((with_reducible show wpAny _ _ (call (Value.ref 117) _) _ _ _); k_dflt (refine' cells_new ?F ?N ?X ?T ?d ?s ?i ?l ?_; (case F => k_asm); (case N => k_asm); (case X => k_asm); (case T => k_asm); (case d => omega); (case s => exact Fr.lst (by k_asm) (by k_asm)); (case i => assumption); (case l => assumption); k_whole)))
def AtNums (s : Shared) (h₀ : Heap) (L : Addr) (m : Str → Option Value) (rest : List (Addr × Obj)) (a b : Nat) (xv : Value) (s₁ : Shared) : Prop := ∃ l s1 s2 s3 h' tk, xv = .ref l ∧ s₁ = { s with heap := h', toks := tk } ∧ Fr h₀ L h' m ∧ News h₀ L h' ((l, PySem.W.listOf #[.int ((6 : Nat) : Int) s1, .int (a : Int) s2, .int (b : Int) s3] 0) :: rest) ∧ @LT.lt Nat _ 131 l
theorem nums_at {a i : Nat} {s1 s2 s3 : Tok} {v : Value} (h : (#[.int ((6 : Nat) : Int) s1, .int ((a % 8 : Nat) : Int) s2, .int ((a / 8 % 8 : Nat) : Int) s3] : Array Value)[i]? = some v) : ∃ (q : Nat) (t : Tok), v = .int (q : Int) t ∧ q < 8 := by
  match i, h with
  | 0, h => exact ⟨6, s1, (Option.some.inj h).symm, by decide⟩
  | 1, h => exact ⟨_, s2, (Option.some.inj h).symm, Nat.mod_lt _ (by decide)⟩
  | 2, h => exact ⟨_, s3, (Option.some.inj h).symm, Nat.mod_lt _ (by decide)⟩
  | _ + 3, h => simp at h
theorem rwx_ok : ∀ c ∈ (Str.ofString "rwx").cps.toList, PyData.strOk ⟨#[c]⟩ = true := by decide +kernel
theorem lets_ok (y : Str) : StrsOk (lettersOf isSign (Str.ofString "rwx") y) := by
  intro x hx
  unfold lettersOf at hx
  obtain ⟨q, hq, rfl⟩ := List.mem_map.mp hx
  have := (List.mem_filter.mp hq).1
  obtain ⟨a, b⟩ := q
  exact rwx_ok _ (List.of_mem_zip this).1
theorem BookIn.mono {P : Params} {fz fz' : List (Addr × Obj)} {x : Addr} {specs : List (Str × Nat × Str)} {c' : Addr} (h : BookIn P fz x specs c') (hs : ∀ p ∈ fz, p ∈ fz') : BookIn P fz' x specs c' := by
  obtain ⟨d, u, r, t1, t2, t3, t4, us, rl, c, c2, m1, m2, m3, P₂⟩ := h
  exact ⟨d, u, r, t1, t2, t3, t4, us, rl, c, c2, hs _ m1, hs _ m2, hs _ m3, paired_imp P₂ fun a b e => e.mono hs⟩
theorem spec_ag {rows : List (Str × Nat × List Str)} {wl : List Str} (h : ∀ q ∈ rows, Builtin.Str.tooLong (Txt.lower q.1).length = false ∧ q.1 ≠ Str.ofString "*") : ∀ q ∈ rows.map (specOf wl), Builtin.Str.tooLong (Txt.lower q.1).length = false ∧ q.1 ≠ Str.ofString "*" := by
  intro q hq
  obtain ⟨row, hr, rfl⟩ := List.mem_map.mp hq
  exact h row hr
theorem spec_vd (rows : List (Str × Nat × List Str)) (wl : List Str) : ∀ q ∈ rows.map (specOf wl), q.2.2 = Str.ofString "yes" ∨ q.2.2 = Str.ofString "" := by
  intro q hq
  obtain ⟨row, hr, rfl⟩ := List.mem_map.mp hq
  show verdS wl row.2.2 = _ ∨ verdS wl row.2.2 = _
  unfold verdS
  split
  · exact .inl rfl
  · exact .inr rfl
theorem shuf6 {a d i : Addr × Obj} {f g r : List (Addr × Obj)} : ∀ p ∈ i :: a :: (f ++ (g ++ d :: r)), p ∈ a :: (f ++ (g ++ d :: i :: r)) := by
  intro p hp
  simp only [List.mem_cons, List.mem_append] at hp ⊢
  rcases hp with h | h | h | h | h | h <;> simp [h]
def lawOuter (K : Frag) : Stmt := match (fnK K 167).1 with
  | _ :: _ :: f :: _ => f
  | _ => .Pass ⟨0, 0, 0, 0⟩
section
variable {w : World} {mg mb : Str → Option Value} {p : Program} {loose : List Str} {mean : ExcName → Option Value}
  {dp un : Nat} {fr : Option (List Env)} {gd : Option (List Code)} {s : Shared} {Q E : Value → Shared → Prop} {h₀ : Heap} {L : Addr} {m : Str → Option Value} {news : List (Addr × Obj)}
theorem law_outer {fa cl Dr : Addr} {cd : Value} {c0 c1 c2 c3 c4 c5 nc nr : Nat} {t0 t1 t2 t3 t4 t5 : Tok} {rows : List (Str × Nat × List Str)} {rv : List Value} {fz : List (Addr × Obj)} {FQ : Flow → Shared → Prop}
   (F : Fr h₀ L s.heap m) (N : News h₀ L s.heap ((131, tabObj (tabOf w.params none)) :: fz)) (ne : ∀ p ∈ fz, p.1 ≠ 131) (X : (hd.heap_39 w.params).In h₀) (T : Top p loose mean mg mb h₀) (C : CodeHd h₀ 135 131) (hdp : dp + 9 < recursionLimit) (hun : un + 120 < cLine)
   (hcl : (cl, PySem.W.listOf #[.int c0 t0, .int c1 t1, .int c2 t2, .int c3 t3, .int c4 t4, .int c5 t5] nc) ∈ fz)
   (hr : (Dr, PySem.W.listOf (List.toArray rv) nr) ∈ fz) (hv : Paired (RowIn w.params fz) rv rows) (hrl : ∀ row ∈ rows, row.2.2.length ≤ 1000) (hrn : rows.length ≤ 100) (hne : rows ≠ [])
   (hag : ∀ q ∈ rows, Builtin.Str.tooLong (Txt.lower q.1).length = false ∧ q.1 ≠ Str.ofString "*")
   (hlaw : ∀ u < 5, ∀ q < 8, (foldA (Txt.lower (headS u (c3 / 8 ^ u % 8))) (rows.map (specOf (letS q 7)))).2 = some (yn (mayS c0 c1 c2 c4 u (c3 / 8 ^ u % 8) q)))
   (mc : m "cells" = some (.ref cl)) (mr : m "rows" = some (.ref Dr))
   (h : ∀ m' h' tk o fz', Fr h₀ L h' m' → News h₀ L h' ((131, tabObj (tabOf w.params o)) :: fz') → FQ .next { s with heap := h', toks := tk }) :
   wpAny (model PySem.Challenge.pw_tv0029_01 w) (aA dp fr gd un) (exec (lawOuter (hd.heap_39 w.params)) (envOf "law" (fnK (hd.heap_39 w.params) 167).2 L fa cd)) FQ (fun _ _ => False) s := by
  have hI : IntsAre [.int c0 t0, .int c1 t1, .int c2 t2, .int c3 t3, .int c4 t4, .int c5 t5] [(c0 : Int), c1, c2, c3, c4, c5] := .cons _ _ (.cons _ _ (.cons _ _ (.cons _ _ (.cons _ _ (.cons _ _ .nil)))))
  show wpAny _ _ (exec (Stmt.For (Expr.Name _ _) _ _ _ _) (envOf _ (Scope.mk _ _ _ _ _) _ _ _)) _ _ _
  refine for_seq (h₀ := h₀) rfl ?_
  refine wpAny_mono (Q := AtNums s h₀ L m ((131, tabObj (tabOf w.params none)) :: fz) (c5 % 8) (c5 / 8 % 8)) ?_ (fun xv s₁ hr => ?_) fun _ _ e => e
  · k_steps
    rename_i F' N' _ _
    have e1 : ([(c0 : Int), c1, c2, c3, c4, c5].getD (Int.toNat 5) 0).fmod 8 = ((c5 % 8 : Nat) : Int) := fmod_nat c5 8
    have e2 : (([(c0 : Int), c1, c2, c3, c4, c5].getD (Int.toNat 5) 0).fdiv 8).fmod 8 = ((c5 / 8 % 8 : Nat) : Int) := by
      show Int.fmod (Int.fdiv (c5 : Int) ((8 : Nat) : Int)) ((8 : Nat) : Int) = _
      rw [fdiv_nat, fmod_nat]
    rw [e1, e2] at N'
    exact ⟨_, _, _, _, _, _, rfl, rfl, F', N', by assumption⟩
  · obtain ⟨l, s1, s2, s3, h', tk, rfl, rfl, F', N', l131⟩ := hr
    refine ⟨false, l, #[.int ((6 : Nat) : Int) s1, .int ((c5 % 8 : Nat) : Int) s2, .int ((c5 / 8 % 8 : Nat) : Int) s3], m, _, fun i m' news' => ∃ o fz', news' = (131, tabObj (tabOf w.params o)) :: fz' ∧ (∀ p ∈ fz', p.1 ≠ 131) ∧
        (∀ p ∈ (l, PySem.W.listOf #[.int ((6 : Nat) : Int) s1, .int ((c5 % 8 : Nat) : Int) s2, .int ((c5 / 8 % 8 : Nat) : Int) s3] 0) :: fz, p ∈ fz') ∧ (∀ c', o = some c' → CodeIn fz' c') ∧ m' "cells" = some (.ref cl) ∧ m' "rows" = some (.ref Dr),
      rfl, ⟨_, (N' _ (.head _)).1, rfl, _, rfl⟩, F', news_sub N' swap12, ⟨none, _, rfl, List.forall_mem_cons.mpr ⟨Nat.ne_of_gt l131, ne⟩, fun p hp => hp, (fun _ e => nomatch e), mc, mr⟩, ?_, fun it k1 k2 => ⟨?_, ?_⟩⟩
    · rintro i m' news' h' ⟨o, fz', rfl, _, hs, _⟩ F' N'
      exact ⟨_, (N' _ (.tail _ (hs _ (.head _)))).1, rfl, _, rfl⟩
    · have l2 : 131 < it := k1 _ (.head _)
      k_lt2 l2
      clear F N F' N' mc mr
      rintro i v m' news' h' tk hiv ⟨o, fz', rfl, ne', hs, hcd, mc, mr⟩ nit F' N'
      obtain ⟨q, tq, rfl, hq8⟩ := nums_at hiv
      refine assign_one F' N' rfl rfl fun h₅ tk₅ F₅ N₅ => ?_
      clear F' N'
      have nfz : ∀ p ∈ fz', p.1 ≠ it := fun p hp => nit p (.tail _ hp)
      k_steps
      rename_i D _ _ lv ln _ _ _ qD1 qD2 lD u r x dx _ _ _ _ c1 fzr _ _ F' N' A' M1 M2 M3 M4
      refine book_step (o₀ := o) F' N' (by k_mem) X T C (by omega) (by omega) ⟨_, _, _, _, _, _, _, _, _, _, by k_mem, by k_mem, by k_mem, by assumption, by k_mem⟩ (lets_ok _) (lets_1000 _) (List.mem_append_right _ (.tail _ (.tail _ (.tail _ (hs _ (.tail _ hr)))))) (paired_imp hv fun a b e => e.mono fun p hp => List.mem_append_right _ (.tail _ (.tail _ (.tail _ (hs _ (.tail _ hp)))))) hrl hrn hne fun bx c' fzb h₆ tk₆ F₆ N₆ ap₆ ne₆ B₆ cd₆ => ?_
      have nr131 : ∀ p ∈ fzr, p.1 ≠ 131 := A'.out (.tail _ (.tail _ (.head _)))
      have nrit : ∀ p ∈ fzr, p.1 ≠ it := A'.out (.tail _ (.head _))
      have nbit : ∀ p ∈ fzb, p.1 ≠ it := ap₆ _ (List.mem_append_right _ (.tail _ (.head _))) (Nat.ne_of_gt l2)
      have N₇ := N₆ (fzr ++ (D, PySem.W.listOf (List.toArray lv) ln) :: (it, itO false l (i + 1)) :: fz') (fun p hp => by
        rcases List.mem_append.mp hp with hp | hp
        · exact ⟨List.mem_append_left _ hp, nr131 p hp⟩
        rcases List.mem_cons.mp hp with rfl | hp
        · exact ⟨List.mem_append_right _ (.head _), Nat.ne_of_gt qD2⟩
        rcases List.mem_cons.mp hp with rfl | hp
        · exact ⟨List.mem_append_right _ (.tail _ (.head _)), Nat.ne_of_gt l2⟩
        · exact ⟨List.mem_append_right _ (.tail _ (.tail _ (.tail _ hp))), ne' p hp⟩)
      clear F' N' N₆
      have upb : ∀ p ∈ fzb, p ∈ (131, tabObj (lamTab w.params c')) :: (fzb ++ (fzr ++ (D, PySem.W.listOf (List.toArray lv) ln) :: (it, itO false l (i + 1)) :: fz')) := fun p hp => .tail _ (List.mem_append_left _ hp)
      have upz : ∀ p ∈ fz', p ∈ (131, tabObj (lamTab w.params c')) :: (fzb ++ (fzr ++ (D, PySem.W.listOf (List.toArray lv) ln) :: (it, itO false l (i + 1)) :: fz')) := fun p hp => .tail _ (List.mem_append_right _ (List.mem_append_right _ (.tail _ (.tail _ hp))))
      have up3 : ∀ p ∈ fz', p ∈ fzb ++ (fzr ++ (D, PySem.W.listOf (List.toArray lv) ln) :: fz') := fun p hp => List.mem_append_right _ (List.mem_append_right _ (.tail _ hp))
      k_steps
      rename_i F₈ N₈
      refine law_inner (q := q) (specs := rows.map (specOf (letS q 7))) F₈ N₈ X T hdp hun (upz _ (hs _ (.tail _ hcl))) (B₆.mono upb) (cd₆.elim (fun e => (hcd _ e).mono upz) fun e => e.mono upb) (spec_ag hag) (spec_vd _ _) (fun u hu => hlaw u hu q hq8) mc rfl rfl mr fun m₉ h₉ tk₉ F₉ N₉ mc₉ mr₉ => ?_
      dsimp only
      refine wpAny_execs_nil ⟨_, _, _, _, rfl, F₉, news_sub N₉ shuf6, ?_, some c', _, rfl, ?_, fun p hp => up3 p (hs p hp), ?_, mc₉, mr₉⟩
      · exact List.forall_mem_cons.mpr ⟨Nat.ne_of_lt l2, all_app nbit (all_app nrit (List.forall_mem_cons.mpr ⟨Nat.ne_of_gt qD1, nfz⟩))⟩
      · exact all_app ne₆ (all_app nr131 (List.forall_mem_cons.mpr ⟨Nat.ne_of_gt qD2, ne'⟩))
      · rintro c₂ e
        cases e
        exact cd₆.elim (fun e => (hcd _ e).mono up3) fun e => e.mono fun p hp => List.mem_append_left _ hp
    · rintro m' news' h' tk ⟨o, fz', rfl, ne', hs, hcd, mc, mr⟩ F' N'
      exact wpAny_execs_nil (h _ _ _ _ _ F' N')
end

theorem bits_iff (n b : Nat) : n &&& b = b ↔ ∀ k, b.testBit k = true → n.testBit k = true := by
  constructor
  · intro h k hk
    have := congrArg (fun x => x.testBit k) h
    simp only [Nat.testBit_and, hk, Bool.and_true] at this
    exact this
  · intro h
    refine Nat.eq_of_testBit_eq fun k => ?_
    rw [Nat.testBit_and]
    cases hb : b.testBit k with
    | false => simp
    | true => simp [h k hb]
theorem hit_pow (n i : Nat) : (n &&& 2 ^ i == 2 ^ i) = n.testBit i := by
  rw [Bool.eq_iff_iff, beq_iff_eq, bits_iff]
  constructor
  · intro h
    exact h i (by rw [Nat.testBit_two_pow]; simp)
  · intro h k hk
    rw [Nat.testBit_two_pow] at hk
    have : i = k := of_decide_eq_true hk
    exact this ▸ h
theorem hit_two (n i j : Nat) : (n &&& (2 ^ i ||| 2 ^ j) == (2 ^ i ||| 2 ^ j)) = (n.testBit i && n.testBit j) := by
  rw [Bool.eq_iff_iff, beq_iff_eq, bits_iff, Bool.and_eq_true]
  constructor
  · intro h
    refine ⟨h i ?_, h j ?_⟩
    · rw [Nat.testBit_or, Nat.testBit_two_pow]; simp
    · rw [Nat.testBit_or, Nat.testBit_two_pow, Nat.testBit_two_pow]; simp
  · rintro ⟨h1, h2⟩ k hk
    rw [Nat.testBit_or, Nat.testBit_two_pow, Nat.testBit_two_pow, Bool.or_eq_true, decide_eq_true_iff, decide_eq_true_iff] at hk
    rcases hk with rfl | rfl
    · exact h1
    · exact h2
def bl (r w x : Bool) : List Str := (if r then [⟨#[114]⟩] else []) ++ (if w then [⟨#[119]⟩] else []) ++ (if x then [⟨#[120]⟩] else [])
theorem rwx_cps : (Str.ofString "rwx").cps.toList = [114, 119, 120] := by decide +kernel
theorem letters_bl (a b c : Nat) : lettersOf isSign (Str.ofString "rwx") ⟨#[a, b, c]⟩ = bl (isSign a) (isSign b) (isSign c) := by
  unfold lettersOf
  rw [rwx_cps]
  show List.map _ (List.filter _ [(114, a), (119, b), (120, c)]) = _
  cases ha : isSign a <;> cases hb : isSign b <;> cases hc : isSign c <;> simp [List.filter, ha, hb, hc, bl]
theorem sign_r : isSign 114 = true := by decide +kernel
theorem sign_w : isSign 119 = true := by decide +kernel
theorem sign_x : isSign 120 = true := by decide +kernel
theorem sign_s : isSign 115 = true := by decide +kernel
theorem sign_t : isSign 116 = true := by decide +kernel
theorem sign_S : isSign 83 = false := by decide +kernel
theorem sign_T : isSign 84 = false := by decide +kernel
theorem sign_m : isSign 45 = false := by decide +kernel
theorem pick1 (n i c : Nat) (hc : isSign c = true) : isSign (fmPick false n [(2 ^ i, c)]) = n.testBit i := by
  unfold fmPick
  simp only [List.find?_cons, List.find?_nil, fmHit, Bool.false_eq_true, if_false]
  rw [hit_pow]
  cases h : n.testBit i
  · simp [sign_m]
  · simp [hc]
theorem pick3 (n i j c d e : Nat) (hc : isSign c = true) (hd : isSign d = false) (he : isSign e = true) : isSign (fmPick false n [(2 ^ i ||| 2 ^ j, c), (2 ^ i, d), (2 ^ j, e)]) = n.testBit j := by
  unfold fmPick
  simp only [List.find?_cons, List.find?_nil, fmHit, Bool.false_eq_true, if_false]
  rw [hit_pow, hit_pow, hit_two]
  cases h : n.testBit i <;> cases h' : n.testBit j <;> simp [sign_m, hc, hd, he]
theorem pick1' (n : Nat) {i b c : Nat} (hb : b = 2 ^ i) (hc : isSign c = true) : isSign (fmPick false n [(b, c)]) = n.testBit i := by
  subst hb
  exact pick1 n i c hc
theorem pick3' (n : Nat) {i j b b1 b2 c d e : Nat} (h : b = 2 ^ i ||| 2 ^ j) (h1 : b1 = 2 ^ i) (h2 : b2 = 2 ^ j) (hc : isSign c = true) (hd : isSign d = false) (he : isSign e = true) : isSign (fmPick false n [(b, c), (b1, d), (b2, e)]) = n.testBit j := by
  subst h; subst h1; subst h2
  exact pick3 n i j c d e hc hd he
theorem let7 (n : Nat) : letS n 7 = bl (n.testBit 2) (n.testBit 1) (n.testBit 0) := by
  have e : tri n 7 = ⟨#[fmPick false n [(4, 114)], fmPick false n [(2, 119)], fmPick false n [(513, 116), (512, 84), (1, 120)]]⟩ := rfl
  show lettersOf isSign (Str.ofString "rwx") (tri n 7) = _
  rw [e, letters_bl, pick1' (i := 2) n (by decide) sign_r, pick1' (i := 1) n (by decide) sign_w, pick3' (i := 9) (j := 0) n (by decide) (by decide) (by decide) sign_t sign_T sign_x]
theorem let4 (n : Nat) : letS n 4 = bl (n.testBit 5) (n.testBit 4) (n.testBit 3) := by
  have e : tri n 4 = ⟨#[fmPick false n [(32, 114)], fmPick false n [(16, 119)], fmPick false n [(1032, 115), (1024, 83), (8, 120)]]⟩ := rfl
  show lettersOf isSign (Str.ofString "rwx") (tri n 4) = _
  rw [e, letters_bl, pick1' (i := 5) n (by decide) sign_r, pick1' (i := 4) n (by decide) sign_w, pick3' (i := 10) (j := 3) n (by decide) (by decide) (by decide) sign_s sign_S sign_x]
theorem let1 (n : Nat) : letS n 1 = bl (n.testBit 8) (n.testBit 7) (n.testBit 6) := by
  have e : tri n 1 = ⟨#[fmPick false n [(256, 114)], fmPick false n [(128, 119)], fmPick false n [(2112, 115), (2048, 83), (64, 120)]]⟩ := rfl
  show lettersOf isSign (Str.ofString "rwx") (tri n 1) = _
  rw [e, letters_bl, pick1' (i := 8) n (by decide) sign_r, pick1' (i := 7) n (by decide) sign_w, pick3' (i := 11) (j := 6) n (by decide) (by decide) (by decide) sign_s sign_S sign_x]
def imp3 (a b c d e f : Bool) : Bool := (!a || d) && (!b || e) && (!c || f)
theorem verd_bl : ∀ a b c d e f : Bool, verdS (bl a b c) (bl d e f) = yn (imp3 a b c d e f) := by decide +kernel
theorem filt_bl : ∀ a b c d e f : Bool, (bl a b c).filter (fun x => decide (x ∈ bl d e f)) = bl (a && d) (b && e) (c && f) := by decide +kernel
theorem subB_imp (h q : Nat) (hq : q < 8) : subB h q = imp3 (q.testBit 2) (q.testBit 1) (q.testBit 0) (h.testBit 2) (h.testBit 1) (h.testBit 0) := by
  have e : subB h q = true ↔ (q.testBit 2 = true → h.testBit 2 = true) ∧ (q.testBit 1 = true → h.testBit 1 = true) ∧ (q.testBit 0 = true → h.testBit 0 = true) := by
    unfold subB
    rw [decide_eq_true_iff, bits_iff]
    constructor
    · intro k
      exact ⟨k 2, k 1, k 0⟩
    · rintro ⟨k2, k1, k0⟩ k hk
      match k with
      | 0 => exact k0 hk
      | 1 => exact k1 hk
      | 2 => exact k2 hk
      | k + 3 =>
        have : q < 2 ^ (k + 3) := Nat.lt_of_lt_of_le hq (show 2 ^ 3 ≤ 2 ^ (k + 3) from Nat.pow_le_pow_right (by decide) (by omega))
        rw [Nat.testBit_lt_two_pow this] at hk
        cases hk
  unfold imp3
  cases h2 : q.testBit 2 <;> cases h1 : q.testBit 1 <;> cases h0 : q.testBit 0 <;> cases g2 : h.testBit 2 <;> cases g1 : h.testBit 1 <;> cases g0 : h.testBit 0 <;> simp [h2, h1, h0, g2, g1, g0] at e ⊢ <;> first | exact e | (cases hs : subB h q <;> simp_all)
theorem v_own (c0 q : Nat) (hq : q < 8) : verdS (letS q 7) (letS c0 1) = yn (subB (c0 / 64) q) := by
  rw [let7, let1, verd_bl, subB_imp _ _ hq, show (64 : Nat) = 2 ^ 6 from rfl, Nat.testBit_div_two_pow, Nat.testBit_div_two_pow, Nat.testBit_div_two_pow]
theorem v_oth (c0 q : Nat) (hq : q < 8) : verdS (letS q 7) (letS c0 7) = yn (subB c0 q) := by
  rw [let7, let7, verd_bl, subB_imp _ _ hq]
theorem mask_bit (c0 i : Nat) (hi : i < 3) : (c0 / 8 % 8).testBit i = c0.testBit (3 + i) := by
  rw [show c0 / 8 % 8 = c0 / 2 ^ 3 % 2 ^ 3 from rfl, Nat.testBit_mod_two_pow, Nat.testBit_div_two_pow]
  simp [hi, Nat.add_comm]
theorem v_mask (c0 q : Nat) (hq : q < 8) : verdS (letS q 7) (letS c0 4) = yn (subB (c0 / 8 % 8) q) := by
  rw [let7, let4, verd_bl, subB_imp _ _ hq, mask_bit _ _ (by decide), mask_bit _ _ (by decide), mask_bit _ _ (by decide)]
theorem v_line (c0 n q : Nat) (hq : q < 8) : verdS (letS q 7) ((letS n 7).filter (fun x => decide (x ∈ letS c0 4))) = yn (subB (n &&& (c0 / 8 % 8)) q) := by
  rw [let7, let7, let4, filt_bl, verd_bl, subB_imp _ _ hq, Nat.testBit_and, Nat.testBit_and, Nat.testBit_and, mask_bit _ _ (by decide), mask_bit _ _ (by decide), mask_bit _ _ (by decide)]

theorem yes_ne : Str.ofString "yes" ≠ Str.ofString "" := by decide +kernel
section
variable {hdL : Str}
def hitB (hdL : Str) (B : Nat) (q : Str × Nat × Str) : Bool := mOf hdL q == B && decide (q.2.2 = Str.ofString "yes")
def Inv (hdL : Str) (l : List (Str × Nat × Str)) (st : Int × Option Str) : Prop :=
  (st.1 = -1 ∧ st.2 = none ∧ ∀ q ∈ l, mOf hdL q = 0) ∨ (∃ B : Nat, st.1 = (B : Int) ∧ 0 < B ∧ (∃ q ∈ l, mOf hdL q = B) ∧ (∀ q ∈ l, mOf hdL q ≤ B) ∧ st.2 = some (yn (l.any (hitB hdL B))))
theorem any_low {l : List (Str × Nat × Str)} {B : Nat} (h : ∀ q ∈ l, mOf hdL q < B) : l.any (hitB hdL B) = false := by
  rw [List.any_eq_false]
  intro q hq
  have := h q hq
  unfold hitB
  rw [show (mOf hdL q == B) = false from beq_eq_false_iff_ne.mpr (by omega)]
  simp
theorem inv_step {pre : List (Str × Nat × Str)} {st : Int × Option Str} {q : Str × Nat × Str} (hq : q.2.2 = Str.ofString "yes" ∨ q.2.2 = Str.ofString "") (h : Inv hdL pre st) : Inv hdL (pre ++ [q]) (stepA hdL st q) := by
  have vq : some q.2.2 = some (yn (decide (q.2.2 = Str.ofString "yes"))) := by
    rcases hq with e | e
    · rw [e, decide_eq_true rfl]; rfl
    · rw [e, decide_eq_false (Ne.symm yes_ne)]; rfl
  have anyq : ∀ B, (pre ++ [q]).any (hitB hdL B) = (pre.any (hitB hdL B) || hitB hdL B q) := fun B => by rw [List.any_append]; simp
  by_cases hm : mOf hdL q = 0
  · rw [stepA_zero (by omega)]
    rcases h with ⟨h1, h2, h3⟩ | ⟨B, h1, h2, ⟨y, hy, hyB⟩, h4, h5⟩
    · refine .inl ⟨h1, h2, fun x hx => ?_⟩
      rcases List.mem_append.mp hx with hx | hx
      · exact h3 x hx
      · rw [List.mem_singleton.mp hx]; exact hm
    · refine .inr ⟨B, h1, h2, ⟨y, List.mem_append_left _ hy, hyB⟩, fun x hx => ?_, ?_⟩
      · rcases List.mem_append.mp hx with hx | hx
        · exact h4 x hx
        · rw [List.mem_singleton.mp hx]; omega
      · rw [anyq, show hitB hdL B q = false from by unfold hitB; rw [show (mOf hdL q == B) = false from beq_eq_false_iff_ne.mpr (by omega)]; rfl, Bool.or_false]
        exact h5
  · by_cases hlt : st.1 < (mOf hdL q : Nat)
    · rw [stepA_gt (by omega) hlt]
      have low : ∀ x ∈ pre, mOf hdL x < mOf hdL q := fun x hx => by
        rcases h with ⟨h1, h2, h3⟩ | ⟨B, h1, h2, _, h4, h5⟩
        · have := h3 x hx; omega
        · have := h4 x hx; omega
      refine .inr ⟨mOf hdL q, rfl, by omega, ⟨q, List.mem_append_right _ (List.mem_singleton_self _), rfl⟩, fun x hx => ?_, ?_⟩
      · rcases List.mem_append.mp hx with hx | hx
        · exact Nat.le_of_lt (low x hx)
        · rw [List.mem_singleton.mp hx]; exact Nat.le_refl _
      · rw [anyq, any_low low, Bool.false_or]
        show some q.2.2 = _
        rw [vq]
        unfold hitB
        rw [beq_self_eq_true, Bool.true_and]
    · rcases h with ⟨h1, h2, h3⟩ | ⟨B, h1, h2, ⟨y, hy, hyB⟩, h4, h5⟩
      · exact absurd (show st.1 < (mOf hdL q : Nat) by omega) hlt
      · have le : mOf hdL q ≤ B := by omega
        have le' : ∀ x ∈ pre ++ [q], mOf hdL x ≤ B := fun x hx => by
          rcases List.mem_append.mp hx with hx | hx
          · exact h4 x hx
          · rw [List.mem_singleton.mp hx]; exact le
        by_cases he : mOf hdL q = B
        · cases ha : pre.any (hitB hdL B) with
          | false =>
            rw [ha] at h5
            rw [stepA_eq (by omega) hlt (by omega) h5]
            refine .inr ⟨B, h1, h2, ⟨y, List.mem_append_left _ hy, hyB⟩, le', ?_⟩
            rw [anyq, ha, Bool.false_or]
            show some q.2.2 = _
            rw [vq]
            unfold hitB
            rw [he, beq_self_eq_true, Bool.true_and]
          | true =>
            rw [ha] at h5
            rw [stepA_keep (by omega) hlt (fun c => yes_ne (Option.some.inj (h5.symm.trans c.2)))]
            refine .inr ⟨B, h1, h2, ⟨y, List.mem_append_left _ hy, hyB⟩, le', ?_⟩
            rw [anyq, ha, Bool.true_or]
            exact h5
        · rw [stepA_keep (by omega) hlt (fun c => he (by omega))]
          refine .inr ⟨B, h1, h2, ⟨y, List.mem_append_left _ hy, hyB⟩, le', ?_⟩
          rw [anyq, show hitB hdL B q = false from by unfold hitB; rw [show (mOf hdL q == B) = false from beq_eq_false_iff_ne.mpr he]; rfl, Bool.or_false]
          exact h5
theorem inv_fold : ∀ (l pre : List (Str × Nat × Str)) (st : Int × Option Str), (∀ q ∈ l, q.2.2 = Str.ofString "yes" ∨ q.2.2 = Str.ofString "") → Inv hdL pre st → Inv hdL (pre ++ l) (l.foldl (stepA hdL) st)
  | [], pre, st, _, h => by rw [List.append_nil]; exact h
  | q :: r, pre, st, hq, h => by
    have := inv_fold r (pre ++ [q]) (stepA hdL st q) (fun x hx => hq x (.tail _ hx)) (inv_step (hq q (.head _)) h)
    rwa [List.append_assoc] at this
theorem fold_char (l : List (Str × Nat × Str)) (hq : ∀ q ∈ l, q.2.2 = Str.ofString "yes" ∨ q.2.2 = Str.ofString "") (hx : ∃ q ∈ l, mOf hdL q ≠ 0) :
    ∃ B : Nat, 0 < B ∧ (∃ q ∈ l, mOf hdL q = B) ∧ (∀ q ∈ l, mOf hdL q ≤ B) ∧ (foldA hdL l).2 = some (yn (l.any (hitB hdL B))) := by
  have := inv_fold (hdL := hdL) l [] (-1, none) hq (.inl ⟨rfl, rfl, fun _ h => nomatch h⟩)
  rw [List.nil_append] at this
  rcases this with ⟨_, _, h3⟩ | ⟨B, _, h2, h3, h4, h5⟩
  · obtain ⟨q, hq, hn⟩ := hx
    exact absurd (h3 q hq) hn
  · exact ⟨B, h2, h3, h4, h5⟩
end
theorem ag_table : ∀ u < 5, ∀ g < 8, inS (Txt.lower (headS u g)) (Txt.lower (Str.ofString "u0")) = decide (u = 0) ∧ inS (Txt.lower (headS u g)) (Txt.lower (Str.ofString "u1")) = decide (u = 1) ∧ inS (Txt.lower (headS u g)) (Txt.lower (Str.ofString "u2")) = decide (u = 2) ∧
    inS (Txt.lower (headS u g)) (Txt.lower (Str.ofString "g0")) = bitB g 0 ∧ inS (Txt.lower (headS u g)) (Txt.lower (Str.ofString "g1")) = bitB g 1 ∧ inS (Txt.lower (headS u g)) (Txt.lower (Str.ofString "g2")) = bitB g 2 ∧ inS (Txt.lower (headS u g)) (Txt.lower (Str.ofString "")) = true := by decide +kernel

section
variable {c0 c1 c2 c4 u g q : Nat}
def RowKind (c0 c1 c2 c4 u g q m : Nat) (v : Bool) : Prop :=
  (m = (if u = 0 then 4 else 0) ∧ v = subB (c0 / 64) q) ∨ (m = 1 ∧ v = subB c0 q) ∨
  (∃ k, (k = 1 ∨ k = 2) ∧ c4 % 3 ≠ 0 ∧ 0 < (usersS c1).getD k 0 ∧ m = (if u = k then 3 else 0) ∧ v = subB (((usersS c1).getD k 0 - 1) &&& (c0 / 8 % 8)) q) ∨
  (∃ k, k < 3 ∧ 0 < (rightsS c0 c2 c4).getD k 0 ∧ m = (if bitB g k = true then 2 else 0) ∧ v = subB (((rightsS c0 c2 c4).getD k 0 - 1) &&& (c0 / 8 % 8)) q)
theorem user_pos (hu : u < 5) (h : 0 < (usersS c1).getD u 0) : u = 1 ∨ u = 2 := by
  match u, hu with
  | 0, _ => exact absurd h (Nat.lt_irrefl 0)
  | 1, _ => exact .inl rfl
  | 2, _ => exact .inr rfl
  | 3, _ => exact absurd h (Nat.lt_irrefl 0)
  | 4, _ => exact absurd h (Nat.lt_irrefl 0)
theorem mine_mem {rights : List Nat} {x : Nat} : x ∈ mineS rights g ↔ ∃ k, k < 3 ∧ 0 < rights.getD k 0 ∧ bitB g k = true ∧ x = rights.getD k 0 - 1 := by
  unfold mineS
  rw [List.mem_map]
  constructor
  · rintro ⟨k, hk, rfl⟩
    obtain ⟨h1, h2⟩ := List.mem_filter.mp hk
    obtain ⟨h3, h4⟩ := Bool.and_eq_true_iff.mp h2
    obtain ⟨h5, h6⟩ := List.mem_range'_1.mp h1
    exact ⟨k, by omega, of_decide_eq_true h3, h4, rfl⟩
  · rintro ⟨k, h1, h2, h3, rfl⟩
    exact ⟨k, List.mem_filter.mpr ⟨List.mem_range'_1.mpr ⟨Nat.zero_le _, by omega⟩, by rw [decide_eq_true h2, h3]; rfl⟩, rfl⟩
theorem ne_nil_iff {α : Type} {l : List α} : l ≠ [] ↔ ∃ x, x ∈ l := by
  constructor
  · intro h
    cases l with
    | nil => exact absurd rfl h
    | cons x r => exact ⟨x, .head _⟩
  · rintro ⟨x, hx⟩ e
    rw [e] at hx
    cases hx
theorem kind_may (hu : u < 5) {B : Nat} (h1 : ∃ v, RowKind c0 c1 c2 c4 u g q B v) (h2 : ∀ m v, RowKind c0 c1 c2 c4 u g q m v → m ≤ B) (h3 : 0 < B) : RowKind c0 c1 c2 c4 u g q B true ↔ mayS c0 c1 c2 c4 u g q = true := by
  unfold mayS
  by_cases hu0 : u = 0
  · rw [if_pos hu0]
    have hB4 : 4 ≤ B := h2 4 _ (.inl ⟨by rw [if_pos hu0], rfl⟩)
    have low : ∀ v, RowKind c0 c1 c2 c4 u g q B v → v = subB (c0 / 64) q := by
      rintro v (⟨_, e⟩ | ⟨e, _⟩ | ⟨k, hk, _, _, e, _⟩ | ⟨k, hk, _, e, _⟩)
      · exact e
      · omega
      · split at e <;> omega
      · split at e <;> omega
    have hB : B = 4 := by
      obtain ⟨v, ⟨e, _⟩ | ⟨e, _⟩ | ⟨k, hk, _, _, e, _⟩ | ⟨k, hk, _, e, _⟩⟩ := h1
      · rw [if_pos hu0] at e; exact e
      · omega
      · split at e <;> omega
      · split at e <;> omega
    constructor
    · intro h; exact (low _ h).symm
    · intro h; exact .inl ⟨by rw [if_pos hu0]; exact hB, h.symm⟩
  rw [if_neg hu0]
  by_cases hus : c4 % 3 ≠ 0 ∧ 0 < (usersS c1).getD u 0
  · rw [if_pos hus]
    have hk := user_pos hu hus.2
    have hB3 : 3 ≤ B := h2 3 _ (.inr (.inr (.inl ⟨u, hk, hus.1, hus.2, by rw [if_pos rfl], rfl⟩)))
    have low : ∀ v, RowKind c0 c1 c2 c4 u g q B v → v = subB (((usersS c1).getD u 0 - 1) &&& (c0 / 8 % 8)) q ∧ B = 3 := by
      rintro v (⟨e, _⟩ | ⟨e, _⟩ | ⟨k, hk, _, _, e, e2⟩ | ⟨k, hk, _, e, _⟩)
      · rw [if_neg hu0] at e; omega
      · omega
      · split at e
        · rename_i huk
          subst huk
          exact ⟨e2, e⟩
        · omega
      · split at e <;> omega
    obtain ⟨v, hv⟩ := h1
    have hB := (low v hv).2
    constructor
    · intro h; exact (low _ h).1.symm
    · intro h; exact .inr (.inr (.inl ⟨u, hk, hus.1, hus.2, by rw [if_pos rfl]; exact hB, h.symm⟩))
  rw [if_neg hus]
  have nouser : ∀ k, c4 % 3 ≠ 0 → 0 < (usersS c1).getD k 0 → u ≠ k := fun k hn hp e => hus ⟨hn, e ▸ hp⟩
  unfold tailS
  by_cases hmine : ∃ k, k < 3 ∧ 0 < (rightsS c0 c2 c4).getD k 0 ∧ bitB g k = true
  · obtain ⟨k0, hk0, hp0, hb0⟩ := hmine
    have hne : mineS (rightsS c0 c2 c4) g ≠ [] := ne_nil_iff.mpr ⟨_, mine_mem.mpr ⟨k0, hk0, hp0, hb0, rfl⟩⟩
    rw [if_pos hne, decide_eq_true_iff, ne_nil_iff]
    have hB2 : 2 ≤ B := h2 2 _ (.inr (.inr (.inr ⟨k0, hk0, hp0, by rw [if_pos hb0], rfl⟩)))
    have low : ∀ v, RowKind c0 c1 c2 c4 u g q B v → B = 2 ∧ ∃ k, k < 3 ∧ 0 < (rightsS c0 c2 c4).getD k 0 ∧ bitB g k = true ∧ v = subB (((rightsS c0 c2 c4).getD k 0 - 1) &&& (c0 / 8 % 8)) q := by
      rintro v (⟨e, _⟩ | ⟨e, _⟩ | ⟨k, hk, hn, hp, e, e2⟩ | ⟨k, hk, hp, e, e2⟩)
      · rw [if_neg hu0] at e; omega
      · omega
      · rw [if_neg (nouser k hn hp)] at e; omega
      · split at e
        · rename_i hb
          exact ⟨e, k, hk, hp, hb, e2⟩
        · omega
    obtain ⟨v, hv⟩ := h1
    have hB := (low v hv).1
    constructor
    · intro h
      obtain ⟨_, k, hk, hp, hb, e⟩ := low _ h
      exact ⟨_, List.mem_filter.mpr ⟨mine_mem.mpr ⟨k, hk, hp, hb, rfl⟩, e.symm⟩⟩
    · rintro ⟨x, hx⟩
      obtain ⟨hm, hs⟩ := List.mem_filter.mp hx
      obtain ⟨k, hk, hp, hb, rfl⟩ := mine_mem.mp hm
      exact .inr (.inr (.inr ⟨k, hk, hp, by rw [if_pos hb]; exact hB, hs.symm⟩))
  · have hnil : ¬ mineS (rightsS c0 c2 c4) g ≠ [] := by
      rw [ne_nil_iff]
      rintro ⟨x, hx⟩
      obtain ⟨k, hk, hp, hb, _⟩ := mine_mem.mp hx
      exact hmine ⟨k, hk, hp, hb⟩
    rw [if_neg hnil]
    have low : ∀ v, RowKind c0 c1 c2 c4 u g q B v → v = subB c0 q ∧ B = 1 := by
      rintro v (⟨e, _⟩ | ⟨e, e2⟩ | ⟨k, hk, hn, hp, e, e2⟩ | ⟨k, hk, hp, e, e2⟩)
      · rw [if_neg hu0] at e; omega
      · exact ⟨e2, e⟩
      · rw [if_neg (nouser k hn hp)] at e; omega
      · split at e
        · rename_i hb
          exact absurd ⟨k, hk, hp, hb⟩ hmine
        · omega
    obtain ⟨v, hv⟩ := h1
    have hB := (low v hv).2
    constructor
    · intro h; exact (low _ h).1.symm
    · intro h; exact .inr (.inl ⟨hB, h.symm⟩)
end

theorem lines_mem {c0 c1 c2 c4 : Nat} {row : Str × Nat × List Str} : row ∈ linesS c0 c1 c2 c4 ↔ row ∈ rowsS c0 c1 c2 c4 := by
  unfold linesS
  rw [List.mem_append, or_comm, ← List.mem_append, List.take_append_drop]
theorem lines_len (c0 c1 c2 c4 : Nat) : (linesS c0 c1 c2 c4).length ≤ 100 := by
  unfold linesS
  rw [List.length_append, Nat.add_comm, ← List.length_append, List.take_append_drop]
  unfold rowsS
  rw [List.length_cons, List.length_append, List.length_singleton]
  have := mid_len c0 c1 c2 c4
  omega
theorem lines_ne (c0 c1 c2 c4 : Nat) : linesS c0 c1 c2 c4 ≠ [] := by
  intro e
  have : (("", 1, letS c0 7) : Str × Nat × List Str) ∈ linesS c0 c1 c2 c4 := lines_mem.mpr (List.mem_cons_of_mem _ (List.mem_append_right _ (List.mem_singleton_self _)))
  rw [e] at this
  cases this
abbrev trRow (c0 : Nat) (t : Str × Nat × Nat) : Str × Nat × List Str := (t.1, t.2.1, (letS (t.2.2 - 1) 7).filter (fun x => decide (x ∈ letS c0 4)))
theorem rows_cases {c0 c1 c2 c4 : Nat} {row : Str × Nat × List Str} : row ∈ rowsS c0 c1 c2 c4 ↔ row = (("u0" : Str), 4, letS c0 1) ∨ row = (("" : Str), 1, letS c0 7) ∨ (c4 % 3 = 0 ∧ row = (("g0" : Str), 2, letS c0 4)) ∨ (c4 % 3 ≠ 0 ∧ ∃ t ∈ toldS c1 c2, 0 < t.2.2 ∧ row = trRow c0 t) := by
  unfold rowsS midRows
  rw [List.mem_cons, List.mem_append, List.mem_singleton]
  by_cases h : c4 % 3 = 0
  · rw [if_pos h, List.mem_singleton]
    constructor
    · rintro (e | e | e)
      · exact .inl e
      · exact .inr (.inr (.inl ⟨h, e⟩))
      · exact .inr (.inl e)
    · rintro (e | e | ⟨_, e⟩ | ⟨hn, _⟩)
      · exact .inl e
      · exact .inr (.inr e)
      · exact .inr (.inl e)
      · exact absurd h hn
  · rw [if_neg h, List.mem_filterMap]
    constructor
    · rintro (e | ⟨t, ht, e⟩ | e)
      · exact .inl e
      · unfold toldRow at e
        split at e
        · rename_i hp
          exact .inr (.inr (.inr ⟨h, t, ht, hp, (Option.some.inj e).symm⟩))
        · cases e
      · exact .inr (.inl e)
    · rintro (e | e | ⟨hn, _⟩ | ⟨_, t, ht, hp, e⟩)
      · exact .inl e
      · exact .inr (.inr e)
      · exact absurd hn h
      · exact .inr (.inl ⟨t, ht, by unfold toldRow; rw [if_pos hp, e]⟩)
theorem told_cases {c1 c2 : Nat} {t : Str × Nat × Nat} : t ∈ toldS c1 c2 ↔ t = (("u1" : Str), 3, c1 % 9) ∨ t = (("u2" : Str), 3, c1 / 9 % 9) ∨ t = (("g0" : Str), 2, c2 % 8 + 1) ∨ t = (("g1" : Str), 2, c2 / 8 % 9) ∨ t = (("g2" : Str), 2, c2 / 72 % 9) := by
  unfold toldS
  simp only [List.mem_cons, List.not_mem_nil, or_false]
theorem lines_lets (c0 c1 c2 c4 : Nat) : ∀ row ∈ linesS c0 c1 c2 c4, row.2.2.length ≤ 1000 := by
  intro row hr
  rcases rows_cases.mp (lines_mem.mp hr) with rfl | rfl | ⟨_, rfl⟩ | ⟨_, t, _, _, rfl⟩
  · exact lets_1000 _
  · exact lets_1000 _
  · exact lets_1000 _
  · exact Nat.le_trans (List.length_filter_le _ _) (lets_1000 _)
theorem ag_ok : ∀ a ∈ ["u0", "u1", "u2", "g0", "g1", "g2", ""].map Str.ofString, Builtin.Str.tooLong (Txt.lower a).length = false ∧ a ≠ Str.ofString "*" := by decide +kernel
theorem lines_ag (c0 c1 c2 c4 : Nat) : ∀ q ∈ linesS c0 c1 c2 c4, Builtin.Str.tooLong (Txt.lower q.1).length = false ∧ q.1 ≠ Str.ofString "*" := by
  intro row hr
  rcases rows_cases.mp (lines_mem.mp hr) with rfl | rfl | ⟨_, rfl⟩ | ⟨_, t, ht, _, rfl⟩
  · exact ag_ok _ (.head _)
  · exact ag_ok _ (.tail _ (.tail _ (.tail _ (.tail _ (.tail _ (.tail _ (.head _)))))))
  · exact ag_ok _ (.tail _ (.tail _ (.tail _ (.head _))))
  · rcases told_cases.mp ht with rfl | rfl | rfl | rfl | rfl
    · exact ag_ok _ (.tail _ (.head _))
    · exact ag_ok _ (.tail _ (.tail _ (.head _)))
    · exact ag_ok _ (.tail _ (.tail _ (.tail _ (.head _))))
    · exact ag_ok _ (.tail _ (.tail _ (.tail _ (.tail _ (.head _)))))
    · exact ag_ok _ (.tail _ (.tail _ (.tail _ (.tail _ (.tail _ (.head _))))))
section
variable {c0 c1 c2 c4 u g q : Nat}
theorem m_of (u g : Nat) (a : Str) (r : Nat) (ls wl : List Str) {b : Bool} (h : inS (Txt.lower (headS u g)) (Txt.lower a) = b) : mOf (Txt.lower (headS u g)) (specOf wl (a, r, ls)) = if b = true then r else 0 := by
  show (if inS (Txt.lower (headS u g)) (Txt.lower a) then r else 0) = _
  rw [h]
theorem m_if (u k r : Nat) : (if decide (u = k) = true then r else 0) = if u = k then r else 0 := by
  by_cases h : u = k <;> simp [h]
theorem row_kind (hu : u < 5) (hg : g < 8) (hq : q < 8) {row : Str × Nat × List Str} (hr : row ∈ rowsS c0 c1 c2 c4) : ∃ v, verdS (letS q 7) row.2.2 = yn v ∧ RowKind c0 c1 c2 c4 u g q (mOf (Txt.lower (headS u g)) (specOf (letS q 7) row)) v := by
  obtain ⟨a0, a1, a2, b0, b1, b2, e0⟩ := ag_table u hu g hg
  rcases rows_cases.mp hr with rfl | rfl | ⟨hn, rfl⟩ | ⟨hn, t, ht, hp, rfl⟩
  · refine ⟨_, v_own c0 q hq, .inl ⟨?_, rfl⟩⟩
    exact (m_of u g _ _ _ _ a0).trans (m_if u 0 4)
  · refine ⟨_, v_oth c0 q hq, .inr (.inl ⟨?_, rfl⟩)⟩
    exact (m_of u g _ _ _ _ e0).trans (if_pos rfl)
  · refine ⟨_, v_mask c0 q hq, .inr (.inr (.inr ⟨0, by decide, ?_, ?_, ?_⟩))⟩
    · rw [rightsS, if_pos hn]; exact Nat.succ_pos _
    · exact m_of u g _ _ _ _ b0
    · rw [rightsS, if_pos hn]
      show _ = subB ((c0 / 8 % 8 + 1 - 1) &&& (c0 / 8 % 8)) q
      rw [Nat.add_sub_cancel, Nat.and_self]
  · refine ⟨_, v_line c0 _ q hq, ?_⟩
    rcases told_cases.mp ht with rfl | rfl | rfl | rfl | rfl
    · refine .inr (.inr (.inl ⟨1, .inl rfl, hn, hp, ?_, rfl⟩))
      exact (m_of u g _ _ _ _ a1).trans (m_if u 1 3)
    · refine .inr (.inr (.inl ⟨2, .inr rfl, hn, hp, ?_, rfl⟩))
      exact (m_of u g _ _ _ _ a2).trans (m_if u 2 3)
    · refine .inr (.inr (.inr ⟨0, by decide, ?_, ?_, ?_⟩))
      · rw [rightsS, if_neg hn]; exact hp
      · exact m_of u g _ _ _ _ b0
      · rw [rightsS, if_neg hn]; rfl
    · refine .inr (.inr (.inr ⟨1, by decide, ?_, ?_, ?_⟩))
      · rw [rightsS, if_neg hn]; exact hp
      · exact m_of u g _ _ _ _ b1
      · rw [rightsS, if_neg hn]; rfl
    · refine .inr (.inr (.inr ⟨2, by decide, ?_, ?_, ?_⟩))
      · rw [rightsS, if_neg hn]; exact hp
      · exact m_of u g _ _ _ _ b2
      · rw [rightsS, if_neg hn]; rfl
theorem kind_row (hu : u < 5) (hg : g < 8) (hq : q < 8) {m : Nat} {v : Bool} (h : RowKind c0 c1 c2 c4 u g q m v) : ∃ row ∈ rowsS c0 c1 c2 c4, verdS (letS q 7) row.2.2 = yn v ∧ mOf (Txt.lower (headS u g)) (specOf (letS q 7) row) = m := by
  obtain ⟨a0, a1, a2, b0, b1, b2, e0⟩ := ag_table u hu g hg
  rcases h with ⟨rfl, rfl⟩ | ⟨rfl, rfl⟩ | ⟨k, hk, hn, hp, rfl, rfl⟩ | ⟨k, hk, hp, rfl, rfl⟩
  · refine ⟨(("u0" : Str), 4, letS c0 1), rows_cases.mpr (.inl rfl), v_own c0 q hq, ?_⟩
    exact (m_of u g _ _ _ _ a0).trans (m_if u 0 4)
  · refine ⟨(("" : Str), 1, letS c0 7), rows_cases.mpr (.inr (.inl rfl)), v_oth c0 q hq, ?_⟩
    exact (m_of u g _ _ _ _ e0).trans (if_pos rfl)
  · rcases hk with rfl | rfl
    · refine ⟨trRow c0 (("u1" : Str), 3, c1 % 9), rows_cases.mpr (.inr (.inr (.inr ⟨hn, _, told_cases.mpr (.inl rfl), hp, rfl⟩))), v_line c0 _ q hq, ?_⟩
      exact (m_of u g _ _ _ _ a1).trans (m_if u 1 3)
    · refine ⟨trRow c0 (("u2" : Str), 3, c1 / 9 % 9), rows_cases.mpr (.inr (.inr (.inr ⟨hn, _, told_cases.mpr (.inr (.inl rfl)), hp, rfl⟩))), v_line c0 _ q hq, ?_⟩
      exact (m_of u g _ _ _ _ a2).trans (m_if u 2 3)
  · by_cases hn : c4 % 3 = 0
    · rw [rightsS, if_pos hn] at hp ⊢
      match k, hk with
      | 0, _ =>
        refine ⟨(("g0" : Str), 2, letS c0 4), rows_cases.mpr (.inr (.inr (.inl ⟨hn, rfl⟩))), ?_, ?_⟩
        · show _ = yn (subB ((c0 / 8 % 8 + 1 - 1) &&& (c0 / 8 % 8)) q)
          rw [Nat.add_sub_cancel, Nat.and_self]
          exact v_mask c0 q hq
        · exact m_of u g _ _ _ _ b0
      | 1, _ => exact absurd hp (Nat.lt_irrefl 0)
      | 2, _ => exact absurd hp (Nat.lt_irrefl 0)
    · rw [rightsS, if_neg hn] at hp ⊢
      match k, hk with
      | 0, _ =>
        refine ⟨trRow c0 (("g0" : Str), 2, c2 % 8 + 1), rows_cases.mpr (.inr (.inr (.inr ⟨hn, _, told_cases.mpr (.inr (.inr (.inl rfl))), hp, rfl⟩))), v_line c0 _ q hq, ?_⟩
        exact m_of u g _ _ _ _ b0
      | 1, _ =>
        refine ⟨trRow c0 (("g1" : Str), 2, c2 / 8 % 9), rows_cases.mpr (.inr (.inr (.inr ⟨hn, _, told_cases.mpr (.inr (.inr (.inr (.inl rfl)))), hp, rfl⟩))), v_line c0 _ q hq, ?_⟩
        exact m_of u g _ _ _ _ b1
      | 2, _ =>
        refine ⟨trRow c0 (("g2" : Str), 2, c2 / 72 % 9), rows_cases.mpr (.inr (.inr (.inr ⟨hn, _, told_cases.mpr (.inr (.inr (.inr (.inr rfl)))), hp, rfl⟩))), v_line c0 _ q hq, ?_⟩
        exact m_of u g _ _ _ _ b2
end
theorem yn_yes {v : Bool} : yn v = Str.ofString "yes" ↔ v = true := by
  cases v
  · exact ⟨fun e => absurd e.symm yes_ne, fun e => nomatch e⟩
  · exact ⟨fun _ => rfl, fun _ => rfl⟩
theorem plain (c0 c1 c2 c4 u g q : Nat) (hu : u < 5) (hg : g < 8) (hq : q < 8) : (foldA (Txt.lower (headS u g)) ((linesS c0 c1 c2 c4).map (specOf (letS q 7)))).2 = some (yn (mayS c0 c1 c2 c4 u g q)) := by
  have inl : ∀ {m v}, RowKind c0 c1 c2 c4 u g q m v → ∃ s ∈ (linesS c0 c1 c2 c4).map (specOf (letS q 7)), s.2.2 = yn v ∧ mOf (Txt.lower (headS u g)) s = m := fun h => by
    obtain ⟨row, hr, e1, e2⟩ := kind_row hu hg hq h
    exact ⟨_, List.mem_map_of_mem (lines_mem.mpr hr), e1, e2⟩
  have outl : ∀ s ∈ (linesS c0 c1 c2 c4).map (specOf (letS q 7)), ∃ v, s.2.2 = yn v ∧ RowKind c0 c1 c2 c4 u g q (mOf (Txt.lower (headS u g)) s) v := fun s hs => by
    obtain ⟨row, hr, rfl⟩ := List.mem_map.mp hs
    exact row_kind hu hg hq (lines_mem.mp hr)
  obtain ⟨B, hB, ⟨s, hs, hsB⟩, hle, e⟩ := fold_char (hdL := Txt.lower (headS u g)) ((linesS c0 c1 c2 c4).map (specOf (letS q 7))) (spec_vd _ _) (by
    obtain ⟨s, hs, _, e⟩ := inl (m := 1) (v := subB c0 q) (.inr (.inl ⟨rfl, rfl⟩))
    exact ⟨s, hs, by omega⟩)
  rw [e]
  have key := kind_may (c0 := c0) (c1 := c1) (c2 := c2) (c4 := c4) (u := u) (g := g) (q := q) hu (B := B) (by
    obtain ⟨v, _, hk⟩ := outl s hs
    rw [hsB] at hk
    exact ⟨v, hk⟩) (fun m v hk => by
    obtain ⟨s, hs, _, e⟩ := inl hk
    exact e ▸ hle s hs) hB
  have : ((linesS c0 c1 c2 c4).map (specOf (letS q 7))).any (hitB (Txt.lower (headS u g)) B) = mayS c0 c1 c2 c4 u g q := by
    rw [Bool.eq_iff_iff, ← key, List.any_eq_true]
    constructor
    · rintro ⟨s, hs, hh⟩
      obtain ⟨h1, h2⟩ := Bool.and_eq_true_iff.mp hh
      obtain ⟨v, hv, hk⟩ := outl s hs
      rw [beq_iff_eq.mp h1] at hk
      rw [yn_yes.mp (hv.symm.trans (of_decide_eq_true h2))] at hk
      exact hk
    · intro hk
      obtain ⟨s, hs, e1, e2⟩ := inl hk
      refine ⟨s, hs, ?_⟩
      unfold hitB
      rw [e2, beq_self_eq_true, Bool.true_and]
      exact decide_eq_true e1
  rw [this]

section
variable {w : World} {mg mb : Str → Option Value} {p : Program} {loose : List Str} {mean : ExcName → Option Value}
  {dp un : Nat} {fr : Option (List Env)} {gd : Option (List Code)} {s : Shared} {Q E : Value → Shared → Prop} {h₀ : Heap} {L : Addr} {m : Str → Option Value} {news : List (Addr × Obj)}
local macro_rules | `(tactic| walk_at "call ref") => `(tactic| ((with_reducible show wpAny _ _ (call (Value.ref 143) _) _ _ _); k_dflt (refine' lines_new ?F ?N ?X ?T ?d ?c ?_; (case F => k_asm); (case N => k_asm); (case X => k_asm); (case T => k_asm); (case d => omega); (case c => exact News.isList (by k_asm) (by k_mem)); k_whole)))
theorem shuf_last {a d : Addr × Obj} {l : List (Addr × Obj)} : ∀ p ∈ a :: (l ++ [d]), p ∈ l ++ [d, a] := by
  intro p hp
  simp only [List.mem_cons, List.mem_append, List.not_mem_nil, or_false] at hp ⊢
  rcases hp with h | h | h <;> simp [h]
theorem law_body {fa sc : Addr} {cd : Value} {vs : List Value} {ns : List Int} {FQ : Flow → Shared → Prop}
   (F : Fr h₀ L s.heap m) (N : News h₀ L s.heap [(131, tabObj #[])]) (X : (hd.heap_39 w.params).In h₀) (T : Top p loose mean mg mb h₀) (C : CodeHd h₀ 135 131) (hdp : dp + 20 < recursionLimit) (hun : un + 200 < cLine)
   (hs : h₀.IsList sc vs.toArray) (hns : IntsAre vs ns) (hlen : vs.length ≤ 63) (hsc : m "script" = some (.ref sc))
   (h : ∀ m' h' tk o fz', Fr h₀ L h' m' → News h₀ L h' ((131, tabObj (tabOf w.params o)) :: fz') → FQ (.ret (.bool true)) { s with heap := h', toks := tk }) :
   wpAny (model PySem.Challenge.pw_tv0029_01 w) (aA dp fr gd un) (execs (fnK (hd.heap_39 w.params) 167).1 (envOf "law" (fnK (hd.heap_39 w.params) 167).2 L fa cd)) FQ (fun _ _ => False) s := by
  show wpAny _ _ (execs (Stmt.Assign _ _ _ :: _) (envOf _ (Scope.mk _ _ _ _ _) _ _ _)) _ _ _
  k_steps
  rename_i D1 c0 c1 c2 c3 c4 c5 t0 t1 t2 t3 t4 t5 n1 _ _ nD1 _ _ D2 rv n2 fz _ _ AP PR _ F' N'
  have N₂ := news_sub N' shuf_last
  refine law_outer F' N₂ ?_ X T C (by omega) (by omega) (List.mem_append_right _ (.head _)) (List.mem_append_left _ (.head _)) (paired_imp PR fun a b e => e.mono fun p hp => List.mem_append_left _ (.tail _ hp)) (lines_lets c0 c1 c2 c4) (lines_len _ _ _ _) (lines_ne _ _ _ _) (lines_ag _ _ _ _) (fun u hu q hq => plain c0 c1 c2 c4 u _ q hu (grp_lt _ _) hq) rfl rfl fun m' h' tk o fz' F'' N'' => ?_
  · exact all_app (AP.out (.tail _ (.head _))) (List.forall_mem_cons.mpr ⟨Ne.symm (nD1 _ (.head _)), fun _ hp => nomatch hp⟩)
  · dsimp only
    k_steps
    exact h _ _ _ _ _ F'' N''
end

theorem law_holds : PySem.Challenge.rw_tv0029_01.Holds := by
  refine hd ?_
  k_go0
  all_goals (try k_fold)
  rename World => ww
  rename IntsAre _ _ => hI
  rename Frag.In _ _ => X
  rename Top _ _ _ _ _ _ => T
  rename Fr _ _ _ _ => F
  rename News _ _ _ _ => N
  show wpAny (model PySem.Challenge.pw_tv0029_01 ww) (aA _ _ _ _) (execs (fnK (hd.heap_39 ww.params) 167).1 (envOf "law" (fnK (hd.heap_39 ww.params) 167).2 _ _ _)) _ _ _
  have hn := hI.length
  refine wpAny_mono (law_body F N X T codeHd (by decide) (by decide +kernel) lifted hI (by omega) rfl fun m' h' tk o fz' F' N' => ?_) (fun _ _ h => h) (fun _ _ h => h.elim)
  dsimp only
  k_steps

end Mine
set_option maxRecDepth 100000 in
set_option maxHeartbeats 8000000 in
theorem PySem.Challenge.cw_tv0029_01_holds : PySem.Challenge.rw_tv0029_01.Holds :=
  Mine.law_holds

