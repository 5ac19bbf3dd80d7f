import PyProof.Rows.All
import Wide.All
import OpenK.AllK
import Wide.FinOn
import Lean
import PySem.Challenge.RW_ij0083_01

local macro_rules | `(tactic| walk_at $s:str) => `(tactic| k_extra $s)

section
open PySem PySem.W PyProof.Rows
set_option Elab.async false
set_option maxRecDepth 100000
set_option maxHeartbeats 0
namespace Mine
noncomputable def view : Program := PySem.W.view PySem.Challenge.pw_ij0083_01 [0, 2, 3, 4, 6, 7, 9, 11, 12, 13]
noncomputable def fencedQ (p : Program) (w : World) (N : Nat) : Option Shared :=
  (Fast.tw10274390034422433532 Fast.tw14364793385576792824 (opening p) w N (Fast.tw1435165496053646825 (opening p)).1 (Fast.tw1435165496053646825 (opening p)).2).bind (Fast.tw14289696077712309145 p)
noncomputable def topQ (p : Program) (w : World) (N : Nat) (s₀ : Shared) : Option Shared :=
  match s₀.heap.isNs mainGlobals && s₀.gens.size == 0 with
  | true => (Fast.tw14082659384304107361 Fast.tw14364793385576792824 p w s₀.heap.objs.size (Fast.tw8920871248978507458 s₀.heap mainGlobals "__annotations__") N s₀ (topStub p)).bind fun s₁ => match staticsOk (importedModules p.main.body) s₀.heap s₁.heap && namesBound p s₁.heap && gensDone s₁ && laidKept s₀.heap s₁.heap with
      | true => some s₁
      | false => none
  | false => none
theorem fencedQ_eq (p : Program) (w : World) (N : Nat) : fencedOpening treeTable p w N = fencedQ p w N := by
  unfold fencedOpening fencedQ
  rw [Fast.te10274390034422433532, Fast.te14364793385576792824, Fast.te1435165496053646825, Fast.te14289696077712309145]
theorem topQ_eq (p : Program) (w : World) (N : Nat) (s : Shared) : topFrom treeTable p w N s = topQ p w N s := by
  unfold topFrom topQ
  rw [Fast.te14082659384304107361, Fast.te14364793385576792824, Fast.te8920871248978507458]
  rfl
noncomputable def way {α : Type} (p q : Program) (loose : List Str) (Xt : Shared → Bool) (Yf : Shared → α) (N : Nat) (w : World) (s₀ : Shared) := (topQ p w N s₀).map (fun s => (Fast.tw4187177175401517315 q loose (importedModules p.main.body) Xt true s, Yf s))
theorem split4 {p q : Program} {loose : List Str} {Xt : Shared → Bool} {α : Type} {Yf : Shared → α} {Ya : World → α} {N : Nat} (r1 r2 : String)
    (h1 : ∀ w : World, (fencedQ p w N).map (fun s₀ => way p q loose Xt Yf N ((w.withFollow r1 false).withFollow r2 false) s₀) = some (some (openGood q loose, Ya ((w.withFollow r1 false).withFollow r2 false))))
    (h2 : ∀ w : World, (fencedQ p w N).map (fun s₀ => way p q loose Xt Yf N ((w.withFollow r1 false).withFollow r2 true) s₀) = some (some (openGood q loose, Ya ((w.withFollow r1 false).withFollow r2 true))))
    (h3 : ∀ w : World, (fencedQ p w N).map (fun s₀ => way p q loose Xt Yf N ((w.withFollow r1 true).withFollow r2 false) s₀) = some (some (openGood q loose, Ya ((w.withFollow r1 true).withFollow r2 false))))
    (h4 : ∀ w : World, (fencedQ p w N).map (fun s₀ => way p q loose Xt Yf N ((w.withFollow r1 true).withFollow r2 true) s₀) = some (some (openGood q loose, Ya ((w.withFollow r1 true).withFollow r2 true)))) :
    LeftO p q loose Xt Yf Ya N true := fun w => by
  obtain ⟨s₀, a, b1⟩ := Option.map_eq_some_iff.mp (h1 w)
  obtain ⟨s2, a2, b2⟩ := Option.map_eq_some_iff.mp (h2 w)
  obtain ⟨s3, a3, b3⟩ := Option.map_eq_some_iff.mp (h3 w)
  obtain ⟨s4, a4, b4⟩ := Option.map_eq_some_iff.mp (h4 w)
  cases a.symm.trans a2
  cases a.symm.trans a3
  cases a.symm.trans a4
  unfold way at b1 b2 b3 b4
  rw [← Fast.te4187177175401517315, ← topQ_eq] at b1 b2 b3 b4
  rw [← fencedQ_eq] at a
  have e1 := World.withFollow_self w r1
  unfold openEnds
  rw [a]
  cases hb : w.params.followText r1 <;> rw [hb] at e1
  · have e2 := World.withFollow_self (w.withFollow r1 false) r2
    cases hc : (w.withFollow r1 false).params.followText r2 <;> rw [hc, e1] at e2
    · rw [e1, e2] at b1; exact b1
    · rw [e1, e2] at b2; exact b2
  · have e2 := World.withFollow_self (w.withFollow r1 true) r2
    cases hc : (w.withFollow r1 true).params.followText r2 <;> rw [hc, e1] at e2
    · rw [e1, e2] at b3; exact b3
    · rw [e1, e2] at b4; exact b4
set_option hygiene false in
local macro_rules | `(tactic| o_head $H) => `(tactic| (
  refine holds_open (q := Mine.view) (loose := [PySem.Str.ofString "_twin_re_1", PySem.Str.ofString "_special_chars_map"]) (Xt := fun s => xlAt Mine.view [] s && recOk (RowW.records PySem.Challenge.rw_ij0083_01.row.toRowW) s) (XP := XL Mine.view []) (Yf := Hook.obs $H) (Ya := Hook.val $H) (YP := Hook.says $H) (N := 3252) (And.left ?hc) (Hook.of $H) (Hook.keeps $H) (fun s e => xl_of s (Bool.and_eq_true_iff.mp e).1) XL.keeps (by rfl) (by rfl) (by rfl) (fun s e => recFacts_of (Bool.and_eq_true_iff.mp e).2) (by rfl) (by first | assumption | decide +kernel) (by decide +kernel) ⟨rfl, rfl, rfl, rfl, rfl, by decide +kernel⟩ ?hw (And.right ?hc)))
open_top hd for PySem.Challenge.rw_ij0083_01
abbrev looseNames : List Str := [PySem.Str.ofString "_twin_re_1", PySem.Str.ofString "_special_chars_map"]
noncomputable abbrev lookX : Shared → Bool := fun s => xlAt Mine.view [] s && recOk (RowW.records PySem.Challenge.rw_ij0083_01.row.toRowW) s
noncomputable abbrev hk : Hook := kmHook hd.heap_39 [2, 3, 6, 11, 12, 32, 34, 35, 37, 38, 42, 43, 45, 49, 51, 52, 54, 55, 56, 58, 59, 61, 62, 63, 66, 67, 68, 70, 71, 73, 74, 75, 78, 79] (fun _ => by kernel_rfl) [57]
theorem way1 (w : World) : (fencedQ PySem.Challenge.rw_ij0083_01.row.prog w 3252).map (fun s₀ => way PySem.Challenge.rw_ij0083_01.row.prog view looseNames lookX (Hook.obs hk) 3252 ((w.withFollow "comprehension-iter-twice" false).withFollow "special-get-raises" false) s₀) = some (some (openGood view looseNames, Hook.val hk ((w.withFollow "comprehension-iter-twice" false).withFollow "special-get-raises" false))) := by kernel_rfl
theorem way2 (w : World) : (fencedQ PySem.Challenge.rw_ij0083_01.row.prog w 3252).map (fun s₀ => way PySem.Challenge.rw_ij0083_01.row.prog view looseNames lookX (Hook.obs hk) 3252 ((w.withFollow "comprehension-iter-twice" false).withFollow "special-get-raises" true) s₀) = some (some (openGood view looseNames, Hook.val hk ((w.withFollow "comprehension-iter-twice" false).withFollow "special-get-raises" true))) := by kernel_rfl
theorem way3 (w : World) : (fencedQ PySem.Challenge.rw_ij0083_01.row.prog w 3252).map (fun s₀ => way PySem.Challenge.rw_ij0083_01.row.prog view looseNames lookX (Hook.obs hk) 3252 ((w.withFollow "comprehension-iter-twice" true).withFollow "special-get-raises" false) s₀) = some (some (openGood view looseNames, Hook.val hk ((w.withFollow "comprehension-iter-twice" true).withFollow "special-get-raises" false))) := by kernel_rfl
theorem way4 (w : World) : (fencedQ PySem.Challenge.rw_ij0083_01.row.prog w 3252).map (fun s₀ => way PySem.Challenge.rw_ij0083_01.row.prog view looseNames lookX (Hook.obs hk) 3252 ((w.withFollow "comprehension-iter-twice" true).withFollow "special-get-raises" true) s₀) = some (some (openGood view looseNames, Hook.val hk ((w.withFollow "comprehension-iter-twice" true).withFollow "special-get-raises" true))) := by kernel_rfl
theorem left : LeftO PySem.Challenge.rw_ij0083_01.row.prog view looseNames lookX (Hook.obs hk) (Hook.val hk) 3252 true := split4 "comprehension-iter-twice" "special-get-raises" way1 way2 way3 way4
end Mine
end

section
open PySem PySem.W PySem.Spec PySem.Calls PyProof.Rows
set_option Elab.async false
set_option maxRecDepth 100000
set_option maxHeartbeats 8000000
namespace Mine
abbrev PR : Program := PySem.Challenge.rw_ij0083_01.row.prog
abbrev Led := List (Addr × Obj)

/-- all that stood stands; what is new was not there -/
noncomputable def Grown (h h' : Heap) (new : Led) : Prop := (∀ b o, h.get? b = some o → h'.get? b = some o) ∧ ∀ p ∈ new, h'.get? p.1 = some p.2 ∧ h.get? p.1 = none

noncomputable def FnOk (w : World) (p : Program) (loose : List Str) (mean : ExcName → Option Value) (mg mb : Str → Option Value) (f : Addr) (vs : List Value) (pre : Heap → Prop) (post : Value → Led → Prop) : Prop :=
  ∀ (dp un : Nat) (gd : Option (List Code)) (cn : Str) (cs : Scope) (a : Addr) (ccd : Value) (cl : List (Str × Addr)) (outer : List Env) (A₀ : Around) (base h₀ : Heap) (L : Addr) (m : Str → Option Value) (s : Shared) (Q E : Value → Shared → Prop),
    Below A₀ base outer h₀ → Fr h₀ L s.heap m → (Mine.hd.heap_39 w.params).In h₀ → Top p loose mean mg mb h₀ → cs.kind = .function →
    dp + 5 < recursionLimit → un + 40 < cLine → pre s.heap →
    (∀ v new h' tk', post v new → Grown s.heap h' new → Q v { s with heap := h', toks := tk' }) →
    wpAny (model PR w) (ktrTop dp un gd cn cs L a ccd cl outer) (call (.ref f) vs) Q E s

section
variable {prog : Program} {w : World} {A₀ A : Around} {E : Value → Shared → Prop} {s : Shared} {base h₀ : Heap} {outer : List Env} {L : Addr} {m mg mb : Str → Option Value} {env : Env} {K : Frag} {p : Program} {loose : List Str} {mean : ExcName → Option Value}
  {Q : Value → Shared → Prop} {name qual : Str} {params : Arguments} {body : List Stmt} {scope : Scope} {dV kV doc pm cdv ct oc : Value} {an od : Option Addr} {osl : Array (Option Value)} {f : Addr} {vs : List Value} {binds : List (Str × Value)}

theorem fn_enter (B : Below A₀ base outer h₀) (F : Fr h₀ L s.heap m) (X₀ : K.In h₀) (T : Top p loose mean mg mb h₀) (hA : A.frames = some (env :: outer)) (hf : env.frame = some L) (hke : env.scope.kind = .function)
    (ho : K.lookup f = some ⟨oc, od, .func (fnOf name qual params body scope dV kV doc pm an cdv ct), osl⟩) (hcd : codeIn K cdv qual = true) (hroom : A.depth < recursionLimit)
    (hbind : BindsTo s (fnOf name qual params body scope dV kV doc pm an cdv ct) ⟨vs, []⟩ binds) (hloc : ∀ y ∈ binds, scope.names.lookup y.1 = some .local)
    (h : ∀ (g : Heap) (L' : Addr) (h₁ : Heap), (∀ b o, s.heap.get? b = some o → g.get? b = some o) → Fr g L' h₁ (fun y => binds.reverse.lookup y) → News g L' h₁ [] → Below A base (env :: outer) g → K.In g → Top p loose mean mg mb g →
      wpAny (model prog w) (A.deeper (envX qual scope L' f cdv [])) (execs body (envX qual scope L' f cdv []))
        (fun fl s' => match fl with | .ret v => Q v s' | _ => Q .none s')
        (fun e s' => wpAny (model prog w) (A.deeper (envX qual scope L' f cdv [])) (leaving (envX qual scope L' f cdv []) e) (fun _ s'' => E e s'') (fun e' s'' => E e' s'') s')
        { s with heap := h₁, toks := s.toks + binds.length })
    (hcell : ∀ x ∈ scope.names, x.2 ≠ .cell) (hco : scope.isCoroutine = false := by rfl) (hgen : scope.isGenerator = false := by rfl) (hk : scope.kind = .function := by rfl) : wpAny (model prog w) A (call (.ref f) vs) Q E s := by
  refine wpAny_call ?_
  have ho' : s.heap.get? f = some ⟨oc, od, .func (fnOf name qual params body scope dV kV doc pm an cdv ct), osl⟩ := F.keep _ _ (X₀ _ _ ho)
  refine codeAny_call_def (fd := fnOf name qual params body scope dV kV doc pm an cdv ct) (body := body) (binds := binds) hroom ho' rfl (T.nolimit.keeps F.keep) (codeRec_of (X₀.keeps F.keep) hcd) rfl hbind hcell hloc (fun h₁ hns hk₁ => ?_) hco hgen hk
  refine wpAny_mono (h s.heap s.heap.objs.size h₁ (fun _ _ e => e) ⟨hns, hk₁, Nat.le_refl _⟩ News.nil ?_ (X₀.keeps F.keep) (T.keeps F.keep)) (fun fl s' hl => ?_) fun _ _ y => y
  · have B₁ := pushX B F hf hke
    exact ⟨hA, B₁.stays, B₁.frames⟩
  · cases fl <;> exact hl

theorem fn_enterC (B : Below A₀ base outer h₀) (F : Fr h₀ L s.heap m) (X₀ : K.In h₀) (T : Top p loose mean mg mb h₀) (hA : A.frames = some (env :: outer)) (hf : env.frame = some L) (hke : env.scope.kind = .function)
    (ho : K.lookup f = some ⟨oc, od, .func (fnOf name qual params body scope dV kV doc pm an cdv ct), osl⟩) (hcd : codeIn K cdv qual = true) (hroom : A.depth < recursionLimit)
    (hbind : BindsTo s (fnOf name qual params body scope dV kV doc pm an cdv ct) ⟨vs, []⟩ binds) (hkind : (binds.all fun y => scope.names.lookup y.1 == some .local || scope.names.lookup y.1 == some .cell) = true)
    (hnd : ((cellsFrom 0 scope.names []).map (·.1)).Nodup)
    (h : ∀ (g : Heap) (L' : Addr) (h₁ : Heap) tk cells, (∀ b o, s.heap.get? b = some o → g.get? b = some o) → Fr g L' h₁ (bindL (envOfC qual scope L' f cdv).kindOf binds fun _ => none) → News g L' h₁ cells →
      CellsAre (bindC (envOfC qual scope L' f cdv).kindOf binds fun _ => none) (cellsFrom (L' + 1) scope.names []) cells → Below A base (env :: outer) g → K.In g → Top p loose mean mg mb g →
      wpAny (model prog w) (A.deeper (envOfC qual scope L' f cdv)) (execs body (envOfC qual scope L' f cdv))
        (fun fl s' => match fl with | .ret v => Q v s' | _ => Q .none s')
        (fun e s' => wpAny (model prog w) (A.deeper (envOfC qual scope L' f cdv)) (leaving (envOfC qual scope L' f cdv) e) (fun _ s'' => E e s'') (fun e' s'' => E e' s'') s')
        { s with heap := h₁, toks := tk })
    (hco : scope.isCoroutine = false := by rfl) (hgen : scope.isGenerator = false := by rfl) (hk : scope.kind = .function := by rfl) : wpAny (model prog w) A (call (.ref f) vs) Q E s := by
  refine wpAny_call ?_
  have ho' : s.heap.get? f = some ⟨oc, od, .func (fnOf name qual params body scope dV kV doc pm an cdv ct), osl⟩ := F.keep _ _ (X₀ _ _ ho)
  have hlim := T.nolimit.keeps F.keep
  refine codeAny_call_function hroom ho' rfl hco hgen rfl (codeRec_of (X₀.keeps F.keep) hcd) (hbind _ _ _ _ ?_)
  refine wpAny_newFunctionEnv_cells hk (kindsX hkind _) fun env' he s' x => ?_
  subst he
  refine ⟨hlim.keeps x.toInCall.keep, codeAny_func ?_⟩
  obtain ⟨h₁, tk, rfl, _⟩ := x.done
  have hk₁ := x.toInCall.keep
  obtain ⟨cells, NC, Y⟩ := Cl.news (h₀ := s.heap) (Nat.le_refl _) fun n c hm => ⟨x.cell n c (lookup_of_mem_nodup (cellsFrom_names scope.names 0 (s.heap.objs.size + 1) [] [] rfl ▸ hnd) hm), x.above n c hm⟩
  refine wpAny_mono (h s.heap s.heap.objs.size h₁ tk cells (fun _ _ e => e) ⟨x.toInCall.ns, hk₁, Nat.le_refl _⟩ NC Y ?_ (X₀.keeps F.keep) (T.keeps F.keep)) (fun fl s' hl => ?_) fun _ _ y => y
  · have B₁ := pushX B F hf hke
    exact ⟨hA, B₁.stays, B₁.frames⟩
  · cases fl <;> exact hl
end

/-- at a way's end -/
theorem fn_end {g h' : Heap} {L' : Addr} {m' : Str → Option Value} {s : Shared} {new : Led} {Q : Value → Shared → Prop} {post : Value → Led → Prop} {v : Value} {tk : Nat}
    (hret : ∀ v new h' tk', post v new → Grown s.heap h' new → Q v { s with heap := h', toks := tk' })
    (hg : ∀ b o, s.heap.get? b = some o → g.get? b = some o) (F' : Fr g L' h' m') (N' : News g L' h' new) (hp : post v new) : Q v { s with heap := h', toks := tk } := by
  refine hret v new h' tk hp ⟨fun b o e => F'.keep _ _ (hg _ _ e), fun p hp => ⟨(N' p hp).1, ?_⟩⟩
  cases q : s.heap.get? p.1 with
  | none => rfl
  | some o => have := (N' p hp).2.2; rw [hg _ _ q] at this; cases this

theorem Grown.fr {h₀ h h' : Heap} {L : Addr} {m : Str → Option Value} {new : Led} (G : Grown h h' new) (F : Fr h₀ L h m) : Fr h₀ L h' m := F.keeps G.1
theorem Grown.news {h₀ h h' : Heap} {L : Addr} {m : Str → Option Value} {new news : Led} (G : Grown h h' new) (F : Fr h₀ L h m) (N : News h₀ L h news) : News h₀ L h' (new ++ news) := by
  intro p hp
  rcases List.mem_append.mp hp with h1 | h1
  · obtain ⟨a, c⟩ := G.2 p h1
    refine ⟨a, fun e => ?_, ?_⟩
    · obtain ⟨oL, _, _, hL, _⟩ := F.ns
      rw [e, hL] at c; cases c
    · cases q : h₀.get? p.1 with
      | none => rfl
      | some o => rw [F.keep _ _ q] at c; cases c
  · obtain ⟨a, b, c⟩ := N p h1
    exact ⟨G.1 _ _ a, b, c⟩
theorem Grown.ne {h₀ h h' : Heap} {L : Addr} {new news : Led} (G : Grown h h' new) (N : News h₀ L h news) : ∀ p ∈ new, ∀ q ∈ news, p.1 ≠ q.1 := by
  intro p hp q hq e
  have := (G.2 p hp).2
  rw [e, (N q hq).1] at this; cases this
end Mine
end

section
open PySem PySem.W PySem.Spec PySem.Calls PyProof.Rows PySem.Builtin PySem.Builtin.Str
set_option Elab.async false
set_option maxRecDepth 100000
set_option maxHeartbeats 8000000
namespace Mine

noncomputable def find4 (x y : Str) (i j : Int) : Int := match occurrences x y (fromIndex x.length i) (min (fromIndex x.length j) x.length) 1 with | k :: _ => (k : Int) | [] => -1

theorem gives_find4 (x y : Str) (i j : Int) (t u v v' : Tok) : Gives («str.find» ⟨[.str x t, .str y u, .int i v, .int j v'], []⟩) (.int (find4 x y i j)) := by
  unfold find4
  show Gives (match occurrences x y (fromIndex x.length i) (min (fromIndex x.length j) x.length) 1 with | k :: _ => retInt k | [] => (do rule "str.find.not-found"; retInt (-1))) _
  cases occurrences x y (fromIndex x.length i) (min (fromIndex x.length j) x.length) 1 with
  | nil => exact .rule (.of_eq rfl)
  | cons k _ => exact .of_eq rfl

section
variable {prog : Program} {w : World} {A : Around} {E : Value → Shared → Prop} {s : Shared} {x y : Str} {t u v v' : Tok} {i j : Int} {h₀ : Heap} {L : Addr} {m : Str → Option Value} {news : Led}
theorem call_find4 {Q : Value → Shared → Prop} (hq : Q (.int (find4 x y i j) s.toks) { s with toks := s.toks + 1 }) : wpAny (model prog w) A (call (.builtin "str.find") [.str x t, .str y u, .int i v, .int j v']) Q E s :=
  call_gives F.slot_str_find (typeIs_str _ _ _) F.entry_str_find (F.args_str_find_4 _ _ _ _) (gives_find4 x y i j t u v v') hq

theorem map_ends {l : List (Str × Tok)} {a z : Str} {mid : List Str} (e : l.map (·.1) = a :: (mid ++ [z])) : ∃ ta tz mid', l = (a, ta) :: (mid' ++ [(z, tz)]) ∧ mid'.map (·.1) = mid := by
  cases l with
  | nil => cases e
  | cons p r =>
    obtain ⟨b, tb⟩ := p
    simp only [List.map_cons, List.cons.injEq] at e
    obtain ⟨rfl, e⟩ := e
    rw [List.map_eq_append_iff] at e
    obtain ⟨l1, l2, rfl, rfl, e2⟩ := e
    cases l2 with
    | nil => cases e2
    | cons q r2 =>
      simp only [List.map_cons, List.cons.injEq, List.map_eq_nil_iff] at e2
      obtain ⟨rfl, rfl⟩ := e2
      exact ⟨tb, q.2, l1, rfl, rfl⟩

theorem strValues_len (ps : List (Str × Tok)) : (strValues ps).length = ps.length := by simp [strValues]
theorem split_ends {Q : Value → Shared → Prop} {a z : Str} {mid : List Str} (hF : Fr h₀ L s.heap m) (hN : News h₀ L s.heap news) (hy : (y.length == 0) = false) (hs : Txt.split x y = a :: (mid ++ [z])) (hln : mid.length ≤ 100)
    (h : ∀ D ta tz (ps : List (Str × Tok)) h' k, ps.map (·.1) = mid → ps.length ≤ 100 → Fr h₀ L h' m → News h₀ L h' ((D, listOf ((Value.str a ta :: strValues ps) ++ [Value.str z tz]).toArray 0) :: news) → (∀ p ∈ news, p.1 < D) → Q (.ref D) { s with heap := h', toks := k })
    (hsz : x.length + 2 ≤ sizeLine) : wpAny (model prog w) A (call (.builtin "str.split") [.str x t, .str y u]) Q E s := by
  refine KSpl.split1 hF hN hy (fun D l h' k e _ F N hlt => ?_) hsz
  rw [hs] at e
  obtain ⟨ta, tz, ps, rfl, hps⟩ := map_ends e
  refine h D ta tz ps h' k hps (by rw [← hps, List.length_map] at hln; exact hln) F ?_ hlt
  simpa [strValues] using N

theorem item_last {value slice : Expr} {l : Addr} {vs : List Value} {b : Value} {Q : Value → Shared → Prop} (hl : s.heap.IsList l (vs ++ [b]).toArray) (hsz : vs.length ≤ 1000) (h : Q b s)
    (hs : subscripted slice false (.ref l) (.int (-1) u) = operate [.ref l, .int (-1) u] (getItem (.ref l) (.int (-1) u)) := by with_unfolding_all rfl) (hg : ∀ r, letTemporaryGo value (.ref l) r = pure () := by intro _; with_unfolding_all rfl) :
    wpAny (model prog w) A (subscriptTail value slice (.ref l) (.int (-1) u)) Q E s :=
  subscriptTail_builtin hl.typeIs F.slot_list_getitem.lookup (wpAny_getItem_list_neg hl (by decide) (by simp; omega) (by decide) (x := b) (by
    have e : ((-1 : Int) + ((vs ++ [b]).toArray.size : Int)).toNat = vs.length := by simp only [List.size_toArray, List.length_append, List.length_singleton]; omega
    rw [e]; simp) h) hs hg

theorem item_last' {value slice : Expr} {l : Addr} {vs : List Value} {c b : Value} {Q : Value → Shared → Prop} (hl : s.heap.IsList l (c :: (vs ++ [b])).toArray) (hsz : vs.length ≤ 900) (h : Q b s)
    (hs : subscripted slice false (.ref l) (.int (-1) u) = operate [.ref l, .int (-1) u] (getItem (.ref l) (.int (-1) u)) := by with_unfolding_all rfl) (hg : ∀ r, letTemporaryGo value (.ref l) r = pure () := by intro _; with_unfolding_all rfl) :
    wpAny (model prog w) A (subscriptTail value slice (.ref l) (.int (-1) u)) Q E s := item_last (vs := c :: vs) hl (by rw [List.length_cons]; omega) h hs hg
theorem item_first {value slice : Expr} {l : Addr} {vs : List Value} {b : Value} {Q : Value → Shared → Prop} (hl : s.heap.IsList l (b :: vs).toArray) (h : Q b s)
    (hs : subscripted slice false (.ref l) (.int 0 u) = operate [.ref l, .int 0 u] (getItem (.ref l) (.int 0 u)) := by with_unfolding_all rfl) (hg : ∀ r, letTemporaryGo value (.ref l) r = pure () := by intro _; with_unfolding_all rfl) :
    wpAny (model prog w) A (subscriptTail value slice (.ref l) (.int 0 u)) Q E s :=
  item_listL hl (by decide) (by decide) (x := b) (by rfl) h hs hg

theorem del_K {D : Addr} {its : List Value} {n : Nat} {k : Nat} {i : Int} {news' : Led} {Q : Unit → Shared → Prop} (F : Fr h₀ L s.heap m) (N : News h₀ L s.heap news) (hfit : Builtin.List.listFitsIndex i = true) (hk : seqIndex? i its.length = some k)
    (U : Upd D (listOf its.toArray n) (listOf (its.eraseIdx k).toArray (n + 1)) news news') (h : ∀ h', Fr h₀ L h' m → News h₀ L h' news' → Q () { s with heap := h' }) (hsz : its.length ≤ sizeLine) :
    wpAny (model prog w) A (delItem (.ref D) (.int i u)) Q E s := by
  obtain ⟨pre, post, rfl, rfl, a, b⟩ := U.split
  have z := N (D, listOf its.toArray n) (List.mem_append.mpr (.inr (.head _)))
  refine delItem_at (hsz := by rw [List.size_toArray]; exact hsz) z.1 hfit (by rw [List.size_toArray]; exact hk) fun h' hs ho' => h h' (F.change hs z.2.1 z.2.2) (news_set N a b hs ?_)
  simpa using ho'

theorem del_last' {D : Addr} {c b : Value} {its : List Value} {n : Nat} {news' : Led} {Q : Unit → Shared → Prop} (F : Fr h₀ L s.heap m) (N : News h₀ L s.heap news)
    (U : Upd D (listOf (c :: (its ++ [b])).toArray n) (listOf (c :: its).toArray (n + 1)) news news') (h : ∀ h', Fr h₀ L h' m → News h₀ L h' news' → Q () { s with heap := h' }) (hsz : its.length ≤ 900) :
    wpAny (model prog w) A (delItem (.ref D) (.int (-1) u)) Q E s :=
  del_K (its := (c :: its) ++ [b]) (k := (c :: its).length) F N (by decide) (by rw [seqIndex_neg (by decide) (by simp; omega)]; congr 1; simp only [List.length_append, List.length_nil, List.length_cons]; omega) (by
    have e : ((c :: its) ++ [b]).eraseIdx (c :: its).length = c :: its := by rw [List.eraseIdx_append_of_length_le (Nat.le_refl _)]; simp
    rw [e]; exact U) h (by rw [sizeLine_eq]; simp only [List.length_append, List.length_nil, List.length_cons]; omega)
theorem del_first {D : Addr} {b : Value} {its : List Value} {n : Nat} {news' : Led} {Q : Unit → Shared → Prop} (F : Fr h₀ L s.heap m) (N : News h₀ L s.heap news)
    (U : Upd D (listOf (b :: its).toArray n) (listOf its.toArray (n + 1)) news news') (h : ∀ h', Fr h₀ L h' m → News h₀ L h' news' → Q () { s with heap := h' }) (hsz : its.length ≤ 1000) :
    wpAny (model prog w) A (delItem (.ref D) (.int 0 u)) Q E s :=
  del_K (its := b :: its) (k := 0) F N (by decide) (seqIndex_at (by decide) (by simp only [List.length_cons]; omega)) U h (by rw [sizeLine_eq, List.length_cons]; omega)
theorem del_last {D : Addr} {b : Value} {its : List Value} {n : Nat} {news' : Led} {Q : Unit → Shared → Prop} (F : Fr h₀ L s.heap m) (N : News h₀ L s.heap news)
    (U : Upd D (listOf (its ++ [b]).toArray n) (listOf its.toArray (n + 1)) news news') (h : ∀ h', Fr h₀ L h' m → News h₀ L h' news' → Q () { s with heap := h' }) (hsz : its.length ≤ 1000) :
    wpAny (model prog w) A (delItem (.ref D) (.int (-1) u)) Q E s :=
  del_K (its := its ++ [b]) (k := its.length) F N (by decide) (by rw [seqIndex_neg (by decide) (by simp; omega)]; congr 1; simp only [List.length_append, List.length_singleton]; omega) (by
    have e : (its ++ [b]).eraseIdx its.length = its := by rw [List.eraseIdx_append_of_length_le (Nat.le_refl _)]; simp
    rw [e]; exact U) h (by rw [sizeLine_eq, List.length_append, List.length_singleton]; omega)
end
end Mine
end

section
open PySem PySem.W PySem.Spec PySem.Calls PyProof.Rows PySem.Builtin PySem.Builtin.Str
set_option Elab.async false
set_option maxRecDepth 100000
set_option maxHeartbeats 8000000
namespace Mine
section
variable {prog : Program} {w : World} {A : Around} {E : Value → Shared → Prop} {s : Shared} {env : Env} {h₀ : Heap} {x : Str} {body : List Stmt} {Q : Flow → Shared → Prop} {news : Led}

theorem iter_list {l : Addr} {vs : List Value} {m₀ : Str → Option Value} (J : Nat → (Str → Option Value) → Prop)
    (hh : A.handled = none) (hl : s.heap.IsList l vs.toArray) (hlL : l ≠ env.locals) (F : Fr h₀ env.locals s.heap m₀) (N : News h₀ env.locals s.heap news) (hj : J 0 m₀)
    (turn : ∀ i v m₁ h tk own, vs[i]? = some v → J i m₁ → Fr h₀ env.locals h (fun y => if y = x then some v else m₁ y) → News h₀ env.locals h (own ++ news) → h.IsList l vs.toArray →
      wpAny (model prog w) A (execs body env) (InvPost h₀ env.locals (J (i + 1)) (own ++ news) { s with heap := h, toks := tk } Q) E { s with heap := h, toks := tk })
    (done : ∀ m₁ h tk, J vs.length m₁ → Fr h₀ env.locals h m₁ → News h₀ env.locals h news → Q .next { s with heap := h, toks := tk }) :
    wpAny (model prog w) A (pyIter (.ref l)) (fun it s₂ => LoopAtV prog w A h₀ env x body Q E it s₂) E s := by
  obtain ⟨ol, hol, _⟩ := id hl
  have hlt : l < s.heap.objs.size := Heap.lt_size hol
  have hne : l ≠ s.heap.objs.size := Nat.ne_of_lt hlt
  refine wpAny_pyIter_list hl ?_
  have W := Walks.list (prog := prog) (w := w) hh s.heap.objs.size l hne vs.toArray
  have hlen : vs.toArray.size = vs.length := by simp
  rw [hlen] at W
  let J' : Nat → (Str → Option Value) → List (Addr × Obj) → Prop := fun i m₁ news₁ => news₁ = news ∧ J i m₁
  refine ⟨_, _, _, vs.length, _, _, m₀, news, J', rfl, W, ?_, ?_, ?_, ⟨⟨_, Heap.get?_push_size _ rfl, rfl, rfl⟩, hl.at fun o e => Heap.get?_push_of_some _ e⟩, F.push _, (fun p hp => ⟨Heap.get?_push_of_some _ (N p hp).1, (N p hp).2⟩), ⟨rfl, hj⟩, ?_, ?_⟩
  · intro hm
    rcases List.mem_cons.mp hm with e | hm
    · exact absurd F.ns.lt (e ▸ Nat.lt_irrefl _)
    · exact hlL (List.mem_singleton.mp hm).symm
  · intro b hb
    rw [List.mem_singleton.mp hb]
    exact next_is_new F
  · intro p hp hI
    exact absurd (Heap.lt_size (N p hp).1) ((List.mem_singleton.mp hI) ▸ Nat.lt_irrefl _)
  · rintro i v m₁ news₁ s₁ own ⟨hh', tk', rfl⟩ hin hP ⟨rfl, hJ⟩ hoff _ _ _ hst F₁ N₁
    have hP' : vs[i]? = some v := by simpa using hP
    refine wpAny_mono (turn i v m₁ hh' tk' own hP' hJ F₁ N₁ hst.2) (fun f s₂ p => ?_) fun _ _ e => e
    have fin : InvEnd h₀ env.locals (J (i + 1)) (own ++ news₁) { s with heap := hh', toks := tk' } s₂ → LoopStepU h₀ env.locals [s.heap.objs.size] own (J' (i + 1)) { s with heap := hh', toks := tk' } .next s₂ := by
      rintro ⟨h', tk, m', news', e, F', N', hn, hm⟩
      exact ⟨rfl, h', tk, m', news₁, e, F', fun p hp => N' p (hn p hp), hoff, rfl, hm⟩
    cases f with
    | ret v => exact .ret p
    | brk => exact .brk p
    | next => exact .next (fin p)
    | cont => exact .cont (fin p)
  · rintro h' tk m' news' F' N' _ ⟨rfl, hJ⟩
    exact done m' h' tk hJ F' N'

theorem drop_of_get {α : Type} {vs : List α} {i : Nat} {v : α} (h : vs[i]? = some v) : vs.drop i = v :: vs.drop (i + 1) := by
  obtain ⟨hi, rfl⟩ := List.getElem?_eq_some_iff.mp h
  exact List.drop_eq_getElem_cons hi

noncomputable def StrVals (vs : List Value) (ws : List Str) : Prop := ∃ ps : List (Str × Tok), vs = strValues ps ∧ ps.map (·.1) = ws
theorem sv_base {ps : List (Str × Tok)} {ws : List Str} (h : ps.map (·.1) = ws) : StrVals (strValues ps) ws := ⟨ps, rfl, h⟩
theorem sv_cons {vs : List Value} {ws : List Str} {a : Str} {t : Tok} (h : StrVals vs ws) : StrVals (.str a t :: vs) (a :: ws) := by
  obtain ⟨ps, rfl, rfl⟩ := h
  exact ⟨(a, t) :: ps, rfl, rfl⟩
theorem sv_snoc {vs : List Value} {ws : List Str} {a : Str} {t : Tok} (h : StrVals vs ws) : StrVals (vs ++ [.str a t]) (ws ++ [a]) := by
  obtain ⟨ps, rfl, rfl⟩ := h
  exact ⟨ps ++ [(a, t)], by simp [strValues], by simp⟩
theorem sv_nil : StrVals [] [] := ⟨[], rfl, rfl⟩
theorem StrVals.len {vs : List Value} {ws : List Str} (h : StrVals vs ws) : vs.length = ws.length := by
  obtain ⟨ps, rfl, rfl⟩ := h; simp [strValues]
theorem StrVals.get {vs : List Value} {ws : List Str} (h : StrVals vs ws) {i : Nat} {x : Str} (hx : ws[i]? = some x) : ∃ t, vs[i]? = some (.str x t) := by
  obtain ⟨ps, rfl, rfl⟩ := h
  rw [List.getElem?_map] at hx
  obtain ⟨q, hq, rfl⟩ := Option.map_eq_some_iff.mp hx
  exact ⟨q.2, by simp [strValues, hq]⟩

/-- a loop over a list of texts of the call's own that turns one int -/
theorem iter_strs {l : Addr} {vs : List Value} {ws : List Str} {n : Nat} {m₀ : Str → Option Value} {y : Str} {a₀ : Int} {t₀ : Tok} (I : List Str → Int → Prop)
    (hh : A.handled = none) (hm : (l, listOf vs.toArray n) ∈ news) (hv : StrVals vs ws) (F : Fr h₀ env.locals s.heap m₀) (N : News h₀ env.locals s.heap news) (hy : m₀ y = some (.int a₀ t₀)) (hyx : y ≠ x) (h0 : I ws a₀)
    (turn : ∀ wd t rest a ta h tk own, I (wd :: rest) a → Fr h₀ env.locals h (fun z => if z = x then some (.str wd t) else if z = y then some (.int a ta) else m₀ z) → News h₀ env.locals h (own ++ news) →
      wpAny (model prog w) A (execs body env) (InvPost h₀ env.locals (fun m' => (∃ a' t', m' y = some (.int a' t') ∧ I rest a') ∧ ∀ z, z ≠ x → z ≠ y → m' z = m₀ z) (own ++ news) { s with heap := h, toks := tk } Q) E { s with heap := h, toks := tk })
    (done : ∀ (u : Str → Option Value) a t h tk, I [] a → Fr h₀ env.locals h (fun z => if z = x then u z else if z = y then some (.int a t) else m₀ z) → News h₀ env.locals h news → Q .next { s with heap := h, toks := tk }) :
    wpAny (model prog w) A (pyIter (.ref l)) (fun it s₂ => LoopAtV prog w A h₀ env x body Q E it s₂) E s := by
  obtain ⟨ps, rfl, rfl⟩ := hv
  refine iter_list (vs := strValues ps) (fun i m => (∃ a t, m y = some (.int a t) ∧ I ((ps.map (·.1)).drop i) a) ∧ ∀ z, z ≠ x → z ≠ y → m z = m₀ z) hh (N.isList hm) (N _ hm).2.1 F N ⟨⟨a₀, t₀, hy, by simpa using h0⟩, fun _ _ _ => rfl⟩ ?_ ?_
  · rintro i v m₁ h tk own hv ⟨⟨a, ta, ha, hI⟩, hm⟩ F₁ N₁ _
    have hv' : (ps[i]?).map (fun p => Value.str p.1 p.2) = some v := by simpa [strValues] using hv
    obtain ⟨q, hq, rfl⟩ := Option.map_eq_some_iff.mp hv'
    have hd : (ps.map (·.1)).drop i = q.1 :: (ps.map (·.1)).drop (i + 1) := drop_of_get (by rw [List.getElem?_map, hq]; rfl)
    rw [hd] at hI
    have e : (fun z => if z = x then some (Value.str q.1 q.2) else m₁ z) = fun z => if z = x then some (Value.str q.1 q.2) else if z = y then some (Value.int a ta) else m₀ z := by
      funext z
      by_cases h1 : z = x
      · simp [h1]
      · simp only [if_neg h1]
        by_cases h2 : z = y
        · subst h2; simp [ha]
        · simp only [if_neg h2]; exact hm z h1 h2
    rw [e] at F₁
    exact turn q.1 q.2 _ a ta h tk own hI F₁ N₁
  · rintro m₁ h tk ⟨⟨a, t, ha, hI⟩, hm⟩ F₁ N₁
    have hl : (ps.map (·.1)).drop (strValues ps).length = [] := by simp [strValues]
    rw [hl] at hI
    refine done m₁ a t h tk hI ?_ N₁
    have e : (fun z => if z = x then m₁ z else if z = y then some (Value.int a t) else m₀ z) = m₁ := by
      funext z
      by_cases h1 : z = x
      · simp [h1]
      · simp only [if_neg h1]
        by_cases h2 : z = y
        · subst h2; simp [ha]
        · simp only [if_neg h2]; exact (hm z h1 h2).symm
    rw [e]; exact F₁
end
end Mine
end

section
open PySem PySem.W PySem.Spec PySem.Calls PyProof.Rows PySem.Builtin PySem.Builtin.Str
set_option Elab.async false
set_option maxRecDepth 100000
set_option maxHeartbeats 8000000
namespace Mine
section
variable {prog : Program} {w : World} {A : Around} {E : Value → Shared → Prop} {Q : Flow → Shared → Prop} {s : Shared} {env : Env} {h₀ : Heap} {L : Addr}

noncomputable def StrJ (news : Led) (y : Str) (m₀ : Str → Option Value) (I : Nat → Str → Prop) (n : Nat) (m : Str → Option Value) (nx : Led) : Prop :=
  nx = news ∧ (∃ c t, m y = some (.str c t) ∧ I n c) ∧ ∀ z, z ≠ y → m z = m₀ z
/-- a while that turns one text -/
theorem while_str {test : Expr} {body : List Stmt} {pos : Pos} {m₀ : Str → Option Value} {news : Led} {y x : Str} {t₀ : Tok} (I : Nat → Str → Prop) {n₀ : Nat}
    (F : Fr h₀ L s.heap m₀) (N : News h₀ L s.heap news) (hy : m₀ y = some (.str x t₀)) (hI : I n₀ x)
    (turn : ∀ n c t h tk, I n c → Fr h₀ L h (fun z => if z = y then some (.str c t) else m₀ z) → News h₀ L h news →
      wpAny (model prog w) A (isTrue test env (eval test env)) (fun b s₂ =>
        if b = true then wpAny (model prog w) A (execs body env) (WhileStep2 h₀ L s (StrJ news y m₀ I) Q n) E s₂ else Q .next s₂) E { s with heap := h, toks := tk })
    (hE : PassesOwn (model prog w) A env E := by passes_own) :
    wpAny (model prog w) A (exec (.While test body [] pos) env) Q E s := by
  refine While_inv2 (StrJ news y m₀ I) F N ⟨rfl, ⟨x, t₀, hy, hI⟩, fun _ _ => rfl⟩ ?_ hE
  rintro n m₁ news₁ h₁ tk₁ F₁ N₁ ⟨rfl, ⟨c, t, hc, hIc⟩, hm⟩
  have e : m₁ = fun z => if z = y then some (Value.str c t) else m₀ z := by
    funext z
    by_cases h1 : z = y
    · subst h1; simp [hc]
    · simp only [if_neg h1]; exact hm z h1
  rw [e] at F₁
  exact turn n c t h₁ tk₁ hIc F₁ N₁
theorem strJ_next {news : Led} {y : Str} {m₀ m₂ : Str → Option Value} {I : Nat → Str → Prop} {n n' tk : Nat} {h' : Heap} {c : Str} {t : Tok} (F : Fr h₀ L h' m₂) (N : News h₀ L h' news) (hn : n' < n) (hc : m₂ y = some (.str c t)) (hI : I n' c) (hm : ∀ z, z ≠ y → m₂ z = m₀ z) :
    WhileStep2 h₀ L s (StrJ news y m₀ I) Q n .next { s with heap := h', toks := tk } := ⟨h', tk, m₂, news, n', rfl, F, N, hn, rfl, ⟨c, t, hc, hI⟩, hm⟩
end
end Mine
end

section
open PySem PySem.W PySem.Spec PySem.Calls PyProof.Rows PySem.Builtin PySem.Builtin.Str
set_option Elab.async false
set_option maxRecDepth 100000
set_option maxHeartbeats 8000000
namespace Mine
noncomputable def Stop (P : Prop) : Prop := P
theorem stop_of {P : Prop} (h : Stop P) : P := h
section
variable {prog : Program} {w : World} {A : Around} {E : Value → Shared → Prop} {s : Shared} {env : Env} {h₀ : Heap} {L : Addr} {m : Str → Option Value} {news : Led}

theorem add_two {la lb : Addr} {xs ys : List Value} {Q : Value → Shared → Prop} (F : Fr h₀ L s.heap m) (N : News h₀ L s.heap news) (ha : s.heap.IsList la xs.toArray) (hb : s.heap.IsList lb ys.toArray) (hsz : xs.length + ys.length ≤ 1000)
    (h : ∀ D h', Fr h₀ L h' m → News h₀ L h' ((D, listOf (xs ++ ys).toArray 0) :: news) → (∀ p ∈ news, p.1 < D) → Q (.ref D) { s with heap := h' }) : wpAny (model prog w) A (binaryOp .Add (.ref la) (.ref lb)) Q E s :=
  add_lists (vs := xs) (ws := ys) (hsz := by rw [sizeLine_eq]; omega) F N ha hb fun h' F' N' => h _ h' F' N' fun p hp => Heap.lt_size (N p hp).1

theorem len_led {l : Addr} {its : List Value} {n k : Nat} {Q : Value → Shared → Prop} (N : News h₀ L s.heap news) (hm : (l, listOf its.toArray n) ∈ news) (hk : its.length = k) (hsz : k ≤ 1000) (h : ∀ t kk, Q (.int (k : Int) t) { s with toks := kk }) :
    wpAny (model prog w) A (call (.builtin "len") [.ref l]) Q E s := by
  refine len_list (N.isList hm) (by rw [List.size_toArray, hk]; omega) ?_
  rw [List.size_toArray, hk]
  exact h _ _

theorem item_at {value slice : Expr} {l : Addr} {its : List Value} {i : Nat} {u : Tok} {x : Value} {Q : Value → Shared → Prop} (hl : s.heap.IsList l its.toArray) (hx : its[i]? = some x) (hsz : its.length ≤ 1000) (h : Q x s)
    (hs : subscripted slice false (.ref l) (.int (i : Int) u) = operate [.ref l, .int (i : Int) u] (getItem (.ref l) (.int (i : Int) u)) := by with_unfolding_all rfl) (hg : ∀ r, letTemporaryGo value (.ref l) r = pure () := by intro _; with_unfolding_all rfl) :
    wpAny (model prog w) A (subscriptTail value slice (.ref l) (.int (i : Int) u)) Q E s :=
  item_listL hl (by omega) (by have := (List.getElem?_eq_some_iff.mp hx).1; omega) (x := x) (by rw [Int.toNat_natCast]; exact hx) h hs hg
theorem item_end {value slice : Expr} {l : Addr} {its : List Value} {u : Tok} {x : Value} {Q : Value → Shared → Prop} (hl : s.heap.IsList l its.toArray) (hx : its.getLast? = some x) (hsz : its.length ≤ 1000) (h : Q x s)
    (hs : subscripted slice false (.ref l) (.int (-1) u) = operate [.ref l, .int (-1) u] (getItem (.ref l) (.int (-1) u)) := by with_unfolding_all rfl) (hg : ∀ r, letTemporaryGo value (.ref l) r = pure () := by intro _; with_unfolding_all rfl) :
    wpAny (model prog w) A (subscriptTail value slice (.ref l) (.int (-1) u)) Q E s := by
  obtain ⟨pre, rfl⟩ := List.getLast?_eq_some_iff.mp hx
  exact item_last hl (by rw [List.length_append] at hsz; omega) h hs hg

/-- a loop over a list that the call did not make; the ledger may turn -/
theorem iter_base {x : Str} {body : List Stmt} {Q : Flow → Shared → Prop} {l : Addr} {vs : List Value} {m₀ : Str → Option Value} (J : Nat → (Str → Option Value) → Led → Prop)
    (hh : A.handled = none) (hl : h₀.IsList l vs.toArray) (F : Fr h₀ env.locals s.heap m₀) (N : News h₀ env.locals s.heap news) (hj : J 0 m₀ news)
    (turn : ∀ i v m₁ news₁ h tk I it, vs[i]? = some v → J i m₁ news₁ → Fr h₀ env.locals h (fun y => if y = x then some v else m₁ y) → News h₀ env.locals h ((I, it) :: news₁) → (∀ p ∈ news₁, p.1 ≠ I) →
      wpAny (model prog w) A (execs body env) (UnrPost h₀ env.locals { s with heap := h, toks := tk } I it (J (i + 1)) Q) E { s with heap := h, toks := tk })
    (done : ∀ m₁ news₁ h tk, J vs.length m₁ news₁ → Fr h₀ env.locals h m₁ → News h₀ env.locals h news₁ → Q .next { s with heap := h, toks := tk }) :
    wpAny (model prog w) A (pyIter (.ref l)) (fun it s₂ => LoopAtV prog w A h₀ env x body Q E it s₂) E s := by
  have hls : s.heap.IsList l vs.toArray := hl.at fun o e => F.keep l o e
  obtain ⟨ol, hol, _⟩ := id hl
  have hlt : l < h₀.objs.size := Heap.lt_size hol
  have hne : l ≠ s.heap.objs.size := Nat.ne_of_lt (Nat.lt_trans (Nat.lt_of_lt_of_le hlt F.above) F.ns.lt)
  refine wpAny_pyIter_list hls ?_
  have W := Walks.list (prog := prog) (w := w) hh s.heap.objs.size l hne vs.toArray
  have hlen : vs.toArray.size = vs.length := by simp
  rw [hlen] at W
  have hIn := next_is_new F
  refine ⟨_, _, _, vs.length, _, _, m₀, news, J, rfl, W, ?_, ?_, ?_, ⟨⟨_, Heap.get?_push_size _ rfl, rfl, rfl⟩, hls.at fun o e => Heap.get?_push_of_some _ e⟩, F.push _, (fun p hp => ⟨Heap.get?_push_of_some _ (N p hp).1, (N p hp).2⟩), hj, ?_, ?_⟩
  · intro hm
    rcases List.mem_cons.mp hm with e | hm
    · exact absurd F.ns.lt (e ▸ Nat.lt_irrefl _)
    · exact absurd (Nat.lt_of_lt_of_le hlt F.above) ((List.mem_singleton.mp hm) ▸ Nat.lt_irrefl _)
  · intro b hb
    rw [List.mem_singleton.mp hb]
    exact hIn
  · intro p hp hI
    exact absurd (Heap.lt_size (N p hp).1) ((List.mem_singleton.mp hI) ▸ Nat.lt_irrefl _)
  · rintro i v m₁ news₁ s₁ own ⟨hh', tk', rfl⟩ hin hP hJ hoff hown hget hall hst F₁ N₁
    have hP' : vs[i]? = some v := by simpa using hP
    obtain ⟨it, hit, hitc, hitd⟩ := id hst.1
    have hmem : (s.heap.objs.size, it) ∈ own := hall _ (.head _) hIn it hit
    have N₂ : News h₀ env.locals hh' ((s.heap.objs.size, it) :: news₁) := fun p hp => by
      rcases List.mem_cons.mp hp with rfl | hp
      · exact N₁ _ (List.mem_append.mpr (.inl hmem))
      · exact N₁ _ (List.mem_append.mpr (.inr hp))
    refine wpAny_mono (turn i v m₁ news₁ hh' tk' _ it hP' hJ F₁ N₂ (fun p hp e => hoff p hp (by rw [e]; exact .head _))) (fun f s₂ p => ?_) fun _ _ e => e
    have fin : UnrEnd h₀ env.locals { s with heap := hh', toks := tk' } s.heap.objs.size it (J (i + 1)) s₂ → LoopStepU h₀ env.locals [s.heap.objs.size] own (J (i + 1)) { s with heap := hh', toks := tk' } .next s₂ := by
      rintro ⟨h', tk, m', news', e, F', N', hn, hm⟩
      refine ⟨rfl, h', tk, m', news', e, F', fun p hp => ?_, fun p hp hq => hn p hp (List.mem_singleton.mp hq), hm⟩
      rcases List.mem_append.mp hp with hp | hp
      · have h1 := hown p hp
        rcases List.mem_cons.mp h1 with h2 | h2
        · have h3 := hget p hp
          have h4 : p = (s.heap.objs.size, it) := by
            have h3' : hh'.get? p.1 = some p.2 := h3
            rw [h2] at h3'
            have h5 : it = p.2 := Option.some.inj (hit.symm.trans h3')
            exact Prod.ext h2 h5.symm
          rw [h4]; exact N' _ (.head _)
        · have h3 := (N₁ p (List.mem_append.mpr (.inl hp))).2.2
          rw [List.mem_singleton.mp h2, hol] at h3; cases h3
      · exact N' p (.tail _ hp)
    cases f with
    | ret v => exact .ret p
    | brk => exact .brk p
    | next => exact .next (fin p)
    | cont => exact .cont (fin p)
  · rintro h' tk m' news' F' N' _ hJ
    exact done m' news' h' tk hJ F' N'

noncomputable def AllNe (d : Addr) : List (Addr × Obj) → Prop
  | [] => True
  | p :: r => @Ne Nat p.1 d ∧ AllNe d r
theorem allNe_of {d : Addr} : ∀ {l : List (Addr × Obj)}, (∀ p ∈ l, p.1 ≠ d) → AllNe d l
  | [], _ => trivial
  | p :: _, h => ⟨h p (.head _), allNe_of fun q hq => h q (.tail _ hq)⟩
theorem news_add {h h' : Heap} {D : Addr} {o : Obj} (F : Fr h₀ L h m) (N : News h₀ L h news) (hD : h.get? D = none) (hD' : h'.get? D = some o) (hk : ∀ b o, h.get? b = some o → h'.get? b = some o) : Fr h₀ L h' m ∧ News h₀ L h' ((D, o) :: news) ∧ AllNe D news := by
  refine ⟨F.keeps hk, fun p hp => ?_, allNe_of fun p hp e => ?_⟩
  · rcases List.mem_cons.mp hp with rfl | hp
    · refine ⟨hD', fun e => ?_, ?_⟩
      · obtain ⟨oL, _, _, hL, _⟩ := F.ns
        have e' : D = L := e
        rw [e', hL] at hD; cases hD
      · cases q : h₀.get? D with
        | none => rfl
        | some o => rw [F.keep _ _ q] at hD; cases hD
    · exact ⟨hk _ _ (N p hp).1, (N p hp).2⟩
  · rw [← e, (N p hp).1] at hD; cases hD
theorem eqGives_bool (a b : Bool) : MeetsSeq.EqGives (.bool a) (.bool b) (a == b) := fun _ _ _ _ _ _ h => by
  unfold eqBool
  show wpAny _ _ (if (Value.bool a == Value.bool b) = true then _ else _) _ _ _
  by_cases hab : (Value.bool a == Value.bool b) = true
  · rw [if_pos hab]
    have e : a = b := by have := eq_of_beq hab; injection this
    subst e
    exact wpAny_bind (wpAny_rule (wpAny_pure (by simpa using h)))
  · rw [if_neg hab]
    exact wpAny_bind (PyProof.Rows.eq_bool (wpAny_truthy_bool h))
noncomputable def isBool (k : Bool) : Value → Bool
  | .bool b => b == k
  | _ => false
theorem in_list_bools {l : Addr} {bs : List Bool} {k : Bool} {Q : Value → Shared → Prop} (hl : s.heap.IsList l (bs.map Value.bool).toArray) (h : Q (.bool (bs.contains k)) s) : wpAny (model prog w) A (compareOp .In (.bool k) (.ref l)) Q E s :=
  SeqInW.in_listW (isBool k) (fun y hy => by
    have hy' : y ∈ bs.map Value.bool := by simpa using hy
    obtain ⟨b, _, rfl⟩ := List.mem_map.mp hy'
    exact eqGives_bool b k) hl (by
    have e : ((bs.map Value.bool).toArray.any (isBool k)) = bs.contains k := by
      rw [← Array.any_toList]
      show (bs.map Value.bool).any (isBool k) = bs.contains k
      rw [List.any_map, List.contains_eq_any_beq]
      congr 1
      funext b
      show (b == k) = (k == b)
      exact Bool.beq_comm
    rw [e]; exact h)
theorem slice_upto {value slice : Expr} {l : Addr} {its : List Value} {b : Nat} {jj : Int} {ub : Tok} {Q : Value → Shared → Prop}
    (F : Fr h₀ L s.heap m) (N : News h₀ L s.heap news) (hl : s.heap.IsList l its.toArray) (hjj : jj = (b : Int)) (hb : b ≤ its.length) (hsz : its.length ≤ 1000)
    (h : ∀ D h', Fr h₀ L h' m → News h₀ L h' ((D, listOf (its.take b).toArray 0) :: news) → (∀ p ∈ news, p.1 < D) → (∀ b o, s.heap.get? b = some o → h'.get? b = some o) → Q (.ref D) { s with heap := h' })
    (hs : subscripted slice false (.ref l) (.ref s.heap.objs.size) = operate [.ref s.heap.objs.size, .ref l] (getItem (.ref l) (.ref s.heap.objs.size)) := by with_unfolding_all rfl)
    (ht : ∀ r, letTemporaryGo value (.ref l) r = pure () := by intro _; with_unfolding_all rfl) :
    wpAny (model prog w) A (subscriptTail value slice (.ref l) (.ref s.heap.objs.size)) Q E { s with heap := s.heap.push { cls := .type "slice", data := .fields #[.none, .int jj ub, .none] } } := by
  subst hjj
  refine subscriptTail_ops (Heap.IsList.typeIs (s := { s with heap := s.heap.push { cls := .type "slice", data := .fields #[.none, .int (b : Int) ub, .none] } }) (hl.push _)) list_getitem_lookup
    (wpAny_getItem_list_slice (lo := none) (hi := some (b : Int)) (st := none) (hl.push _) (Heap.IsSliceOf.new ..) .none (.int _ _) .none (by simp) ?_ (by rw [List.size_toArray, sizeLine_eq]; omega)) hs ht
  have N1 := News.push (F.push { cls := .type "slice", data := .fields #[.none, .int (b : Int) ub, .none] }) (N.grown fun _ _ e => Heap.get?_push_of_some _ e) { cls := .type "list", data := .seq (slicePick its.toArray none (some (b : Int)) none) }
  rw [slicePick_upto its.toArray b (by simpa using hb)] at N1 ⊢
  rw [Heap.size_push] at N1
  show Q (.ref (s.heap.push _).objs.size) _
  rw [Heap.size_push]
  exact h _ _ ((F.push _).push _) N1 (fun p hp => Nat.lt_succ_of_lt (Heap.lt_size (N p hp).1)) fun b o e => Heap.get?_push_of_some _ (Heap.get?_push_of_some _ e)
/-- a comprehension over a list: what each element is; all that stood stands -/
theorem comp_my {elt iter : Expr} {x : Str} {px : Pos} {scope : Scope} {cl : List (Str × Addr)} {pos : Pos} {Q : Value → Shared → Prop} (p : Value → Bool) (Y : Value → Value → Prop) {ifs : List Expr}
    (_F : Fr h₀ L s.heap m) (_N : News h₀ L s.heap news) (hh : A.handled = none) (hclos : closureFor scope env = pure cl) (hcell : ∀ y ∈ scope.names, y.2 ≠ .cell) (hkind : scope.kind = .function)
    (hnames : ∀ y ∈ scope.names, y.2 = .local → scope.names.lookup y.1 = some .local) (hx : scope.names.lookup x = some .local) (hs : ∀ x, foldedSetIterable iter env x = pure x)
    (h : wpAny (model prog w) A (eval iter env) (fun xv s₁ => ∃ (ax : Addr) (vs : List Value), xv = .ref ax ∧ s₁.heap.IsList ax vs.toArray ∧ vs.length ≤ 1000 ∧ Fr h₀ L s₁.heap m ∧ News h₀ L s₁.heap news ∧
      (∀ (C : Addr) (i : Nat) (v : Value) (s₂ : Shared) (m₂ : Str → Option Value) (E' : Value → Shared → Prop), vs[i]? = some v → s₂.heap.Ns C m₂ → m₂ x = some v → (∀ b o, s₁.heap.get? b = some o → s₂.heap.get? b = some o) → s₁.toks ≤ s₂.toks →
        wpAny (model prog w) A (forIn ifs true fun c r => if r = true then do let ok ← isTrue c (compEnvC scope cl C env) (eval c (compEnvC scope cl C env)); pure (ForInStep.yield ok) else pure (ForInStep.yield r))
          (fun ok s₃ => ok = p v ∧ Keeps s₂ s₃) E' s₂) ∧
      (∀ (C : Addr) (i : Nat) (v : Value) (s₂ : Shared) (m₂ : Str → Option Value) (E' : Value → Shared → Prop), vs[i]? = some v → p v = true → s₂.heap.Ns C m₂ → m₂ x = some v → (∀ b o, s₁.heap.get? b = some o → s₂.heap.get? b = some o) → s₁.toks ≤ s₂.toks →
        wpAny (model prog w) A (eval elt (compEnvC scope cl C env)) (fun y s₃ => Y v y ∧ Keeps s₂ s₃) E' s₂) ∧
      (∀ D (ys : List Value) n h' tk, Fr h₀ L h' m → News h₀ L h' ((D, listOf ys.toArray n) :: news) → AllNe D news → Paired Y (vs.filter p) ys → (∀ b o, s₁.heap.get? b = some o → h'.get? b = some o) → Q (.ref D) { s₁ with heap := h', toks := tk })) E s) :
    wpAny (model prog w) A (eval (.ListComp elt [⟨.Name x px, iter, ifs, 0⟩] scope pos) env) Q E s := by
  refine wpAny_ListComp_free p Y hclos hcell hkind hnames hx (wpAny_mono h (fun xv s₁ h₁ => ?_) fun _ _ e => e) hs
  obtain ⟨ax, vs, rfl, hl, hsz, F, N, htests, helt, hQ⟩ := h₁
  have hlt : ax < s₁.heap.objs.size := by obtain ⟨_, e, _⟩ := hl; exact Heap.lt_size e
  have up : ∀ (s₃ : Shared), (∀ b o, b ∉ [s₁.heap.objs.size] → (s₁.heap.push { cls := .type "list_iterator", data := .fields #[.ref ax, .int 0 0] }).get? b = some o → s₃.heap.get? b = some o) → ∀ b o, s₁.heap.get? b = some o → s₃.heap.get? b = some o :=
    fun s₃ hk b o e => hk b o (fun hm => by rcases List.mem_cons.mp hm with rfl | hm; exact Nat.lt_irrefl _ (Heap.lt_size e); cases hm) (Heap.get?_push_of_some _ e)
  refine wpAny_pyIter_list hl ⟨s₁.heap.objs.size, [s₁.heap.objs.size, ax], [s₁.heap.objs.size], vs.toArray.size, _, _, rfl, Walks.list hh _ _ (Nat.ne_of_lt hlt) vs.toArray, (by rw [List.size_toArray, sizeLine_eq]; omega), ⟨⟨_, Heap.get?_push_size _ rfl, rfl, rfl⟩, hl.push _⟩, ?_, ⟨?_, ?_⟩, ?_⟩
  · intro b hb
    show b < (s₁.heap.push _).objs.size
    rw [Heap.size_push]
    rcases List.mem_cons.mp hb with rfl | hb
    · exact Nat.lt_succ_self _
    · rcases List.mem_cons.mp hb with rfl | hb
      · exact Nat.lt_succ_of_lt hlt
      · cases hb
  · intro C i v s₃ m₃ E' _ hP hn hm hk htk
    exact htests C i v s₃ m₃ E' (by simpa using hP) hn hm (up s₃ hk) htk
  · intro C i v s₃ m₃ E' _ hP hp hn hm hk htk
    exact helt C i v s₃ m₃ E' (by simpa using hP) hp hn hm (up s₃ hk) htk
  · intro D h' tk ys vs' hnew _ hpl hlen hP hF hk
    have e : vs' = vs := by simpa using list_of_places hlen hP
    subst e
    obtain ⟨n, hD⟩ := hpl
    have hD' : h'.get? D = some (listOf ys.toList.toArray n) := by rw [Array.toArray_toList]; exact hD
    have hno : s₁.heap.get? D = none := by
      cases e : s₁.heap.get? D with
      | none => rfl
      | some o' => rw [Heap.get?_push_of_some _ e] at hnew; cases hnew
    have hup := up { s₁ with heap := h' } hk
    obtain ⟨F', N', ne⟩ := news_add F N hno hD' hup
    exact hQ D ys.toList n h' tk F' N' ne hF hup

theorem paired_eq {f : Nat → Value} : ∀ {l : List Nat} {ys : List Value}, Paired (fun i v => v = f i) l ys → ys = l.map f
  | _, _, .nil => rfl
  | _, _, .cons h t => by rw [h, paired_eq t]; rfl
theorem paired_range_eq {f : Nat → Value} {n : Nat} {ys : List Value} (h : Paired (fun i v => v = f i) ((List.range n).filter fun _ => true) ys) : ys = (List.range n).map f := by
  have := paired_eq h
  rwa [List.filter_eq_self.mpr (fun _ _ => rfl)] at this
noncomputable def pHat (p : Nat → Bool) : Value → Bool
  | .int i _ => p i.toNat
  | _ => false
theorem paired_range {Y : Nat → Value → Prop} (p : Nat → Bool) : ∀ (vs ys : List Value) (k : Nat), (∀ j v, vs[j]? = some v → ∃ t, v = Value.int ((k + j : Nat) : Int) t) →
    Paired (fun (v : Value) (y : Value) => ∃ (i : Nat) (t : Tok), v = Value.int (i : Int) t ∧ Y i y) (vs.filter (pHat p)) ys → Paired Y ((List.range' k vs.length).filter p) ys
  | [], ys, k, _, h => by cases h; exact .nil
  | v :: vs, ys, k, hv, h => by
    obtain ⟨t, e⟩ := hv 0 v rfl
    have hv' : ∀ j w, vs[j]? = some w → ∃ t, w = Value.int (((k + 1) + j : Nat) : Int) t := fun j w hj => by
      obtain ⟨t, e⟩ := hv (j + 1) w (by simpa using hj)
      exact ⟨t, by rw [e]; congr 1; omega⟩
    have hp : pHat p v = p k := by rw [e]; rfl
    rw [List.length_cons, List.range'_succ, List.filter_cons, ]
    rw [List.filter_cons, hp] at h
    by_cases hk : p k = true
    · rw [if_pos hk] at h ⊢
      cases h with
      | cons hF hr =>
        obtain ⟨i, t', e1, hY⟩ := hF
        rw [e] at e1
        have : i = k := by have := (Value.int.inj e1).1; omega
        subst this
        exact .cons hY (paired_range p vs _ (i + 1) hv' hr)
    · rw [if_neg hk] at h ⊢
      exact paired_range p vs ys (k + 1) hv' h

/-- a comprehension over range(n) -/
theorem comp_myR {elt iter : Expr} {x : Str} {px : Pos} {scope : Scope} {cl : List (Str × Addr)} {pos : Pos} {Q : Value → Shared → Prop} (p : Nat → Bool) (Y : Nat → Value → Prop) {ifs : List Expr}
    (_F : Fr h₀ L s.heap m) (_N : News h₀ L s.heap news) (hh : A.handled = none) (hclos : closureFor scope env = pure cl) (hcell : ∀ y ∈ scope.names, y.2 ≠ .cell) (hkind : scope.kind = .function)
    (hnames : ∀ y ∈ scope.names, y.2 = .local → scope.names.lookup y.1 = some .local) (hx : scope.names.lookup x = some .local) (hs : ∀ x, foldedSetIterable iter env x = pure x)
    (h : wpAny (model prog w) A (eval iter env) (fun xv s₁ => ∃ (ax : Addr) (n : Nat) (t u v : Tok), xv = .ref ax ∧ IsRange s₁.heap ax 0 (n : Int) 1 t u v ∧ n ≤ 1000 ∧ Fr h₀ L s₁.heap m ∧ News h₀ L s₁.heap news ∧
      (∀ (C : Addr) (i : Nat) (t : Tok) (s₂ : Shared) (m₂ : Str → Option Value) (E' : Value → Shared → Prop), i < n → s₂.heap.Ns C m₂ → m₂ x = some (.int (i : Int) t) → (∀ b o, s₁.heap.get? b = some o → s₂.heap.get? b = some o) → s₁.toks ≤ s₂.toks →
        wpAny (model prog w) A (forIn ifs true fun c r => if r = true then do let ok ← isTrue c (compEnvC scope cl C env) (eval c (compEnvC scope cl C env)); pure (ForInStep.yield ok) else pure (ForInStep.yield r))
          (fun ok s₃ => ok = p i ∧ Keeps s₂ s₃) E' s₂) ∧
      (∀ (C : Addr) (i : Nat) (t : Tok) (s₂ : Shared) (m₂ : Str → Option Value) (E' : Value → Shared → Prop), i < n → p i = true → s₂.heap.Ns C m₂ → m₂ x = some (.int (i : Int) t) → (∀ b o, s₁.heap.get? b = some o → s₂.heap.get? b = some o) → s₁.toks ≤ s₂.toks →
        wpAny (model prog w) A (eval elt (compEnvC scope cl C env)) (fun y s₃ => Y i y ∧ Keeps s₂ s₃) E' s₂) ∧
      (∀ D (ys : List Value) n' h' tk, Fr h₀ L h' m → News h₀ L h' ((D, listOf ys.toArray n') :: news) → AllNe D news → Paired Y ((List.range n).filter p) ys → (∀ b o, s₁.heap.get? b = some o → h'.get? b = some o) → Q (.ref D) { s₁ with heap := h', toks := tk })) E s) :
    wpAny (model prog w) A (eval (.ListComp elt [⟨.Name x px, iter, ifs, 0⟩] scope pos) env) Q E s := by
  refine wpAny_ListComp_free (pHat p) (fun v y => ∃ (i : Nat) (t : Tok), v = .int (i : Int) t ∧ Y i y) hclos hcell hkind hnames hx (wpAny_mono h (fun xv s₁ h₁ => ?_) fun _ _ e => e) hs
  obtain ⟨ax, n, t₀, u₀, v₀, rfl, hr, hsz, F, N, htests, helt, hQ⟩ := h₁
  have hrs : Builtin.Range.rangeSize 0 (n : Int) 1 = (n : Int) := by
    simp only [Builtin.Range.rangeSize]
    by_cases hn : n = 0
    · subst hn; rfl
    · simp; omega
  have hsmall : Builtin.Range.small 0 (n : Int) 1 = true := by
    have fit : ∀ z : Int, 0 ≤ z → z ≤ 1000 → Builtin.Range.rangeFitsLong z = true := fun z h0 h1 => by
      unfold Builtin.Range.rangeFitsLong
      rw [Bool.and_eq_true, decide_eq_true_eq, decide_eq_true_eq]
      exact ⟨Int.le_trans (by decide) h0, Int.lt_of_le_of_lt h1 (by decide)⟩
    unfold Builtin.Range.small
    rw [hrs, fit 0 (by omega) (by omega), fit (n : Int) (by omega) (by omega), fit 1 (by omega) (by omega), if_pos (by decide), fit ((n : Int) + (1 - 1)) (by omega) (by omega)]
    simp
  have up : ∀ (s₃ : Shared), (∀ b o, b ∉ [s₁.heap.objs.size] → (s₁.heap.push { cls := .type "range_iterator", data := .fields #[rawInt 0, rawInt (Builtin.Range.rangeSize 0 (n : Int) 1), rawInt 1] }).get? b = some o → s₃.heap.get? b = some o) → ∀ b o, s₁.heap.get? b = some o → s₃.heap.get? b = some o :=
    fun s₃ hk b o e => hk b o (fun hm => by rcases List.mem_cons.mp hm with rfl | hm; exact Nat.lt_irrefl _ (Heap.lt_size e); cases hm) (Heap.get?_push_of_some _ e)
  refine wpAny_pyIter_range hr hsmall ⟨s₁.heap.objs.size, [s₁.heap.objs.size], [s₁.heap.objs.size], n, _, _, rfl, (Walks.range hh _ 0 1 n).bound, (by rw [sizeLine_eq]; omega), ?_, ?_, ⟨?_, ?_⟩, ?_⟩
  · show IsRangeIter _ _ _ _ _
    rw [hrs]
    simpa using Heap.get?_push_size _ rfl
  · intro b hb
    show b < (s₁.heap.push _).objs.size
    rw [Heap.size_push, List.mem_singleton.mp hb]
    exact Nat.lt_succ_self _
  · rintro C i v s₃ m₃ E' _ ⟨hi, t, rfl⟩ hn hm hk htk
    have e : (0 : Int) + (i : Int) * 1 = (i : Int) := by omega
    rw [e] at hm ⊢
    exact htests C i t s₃ m₃ E' hi hn hm (up s₃ hk) htk
  · rintro C i v s₃ m₃ E' _ ⟨hi, t, rfl⟩ hp hn hm hk htk
    have e : (0 : Int) + (i : Int) * 1 = (i : Int) := by omega
    rw [e] at hm hp ⊢
    exact wpAny_mono (helt C i t s₃ m₃ E' hi hp hn hm (up s₃ hk) htk) (fun y s₄ h₄ => ⟨⟨i, t, rfl, h₄.1⟩, h₄.2⟩) fun _ _ e => e
  · intro D h' tk ys vs hnew _ hpl hlen hP hF hk
    obtain ⟨n', hD⟩ := hpl
    have hD' : h'.get? D = some (listOf ys.toList.toArray n') := by rw [Array.toArray_toList]; exact hD
    have hno : s₁.heap.get? D = none := by
      cases e : s₁.heap.get? D with
      | none => rfl
      | some o' => rw [Heap.get?_push_of_some _ e] at hnew; cases hnew
    have hpr := paired_range (Y := Y) p vs ys.toList 0 (fun j v hj => by
      obtain ⟨_, t, e⟩ := hP j v hj
      exact ⟨t, e.trans (congrArg (fun z => Value.int z t) (by omega))⟩) hF
    rw [hlen, ← List.range_eq_range'] at hpr
    have hup := up { s₁ with heap := h' } hk
    obtain ⟨F', N', ne⟩ := news_add F N hno hD' hup
    exact hQ D ys.toList n' h' tk F' N' ne hpr hup
end
section
variable {M : Model} {A : Around} {E : Value → Shared → Prop} {s : Shared} {K : Frag} {h₀ : Heap} {L a : Addr} {m mg mb : Str → Option Value} {cn : Str} {cs : Scope} {ccd : Value} {p : Program} {loose : List Str}
  {x : Str} {pos : Pos} {v : Value} {Q : Value → Shared → Prop} {news : List (Addr × Obj)} {c : Addr} {o : Obj}
theorem nameO_L (F : Fr h₀ L s.heap m) (hv : m x = some v) (h : Q v s) (hk : cs.kind = .function) (hx : (envOfC cn cs L a ccd).kindOf x = some .local) (hd : (x == ("__debug__" : Str)) = false) :
    wpAny M A (eval (.Name x pos) (envOfC cn cs L a ccd)) Q E s := nameX_L F hv h hk hx hd
theorem nameO_C (N : News h₀ L s.heap news) (hc : (cellsFrom (L + 1) cs.names []).lookup x = some c) (hm : (c, o) ∈ news) (hd : o.data = .cell (some v)) (h : Q v s) (hk : cs.kind = .function)
    (hx : (envOfC cn cs L a ccd).kindOf x = some .cell) (hb : (x == ("__debug__" : Str)) = false) :
    wpAny M A (eval (.Name x pos) (envOfC cn cs L a ccd)) Q E s := nameX_C N hc hm hd h hk hx hb
theorem nameO_K (F : Fr h₀ L s.heap m) (X : K.In h₀) (T : TopRead p loose mg mb h₀) (e : nsIn K mainGlobals x = some (some v)) (h : Q v s) (hk : cs.kind = .function)
    (hx : (envOfC cn cs L a ccd).kindOf x = some .globalImplicit) (hd : (x == ("__debug__" : Str)) = false) :
    wpAny M A (eval (.Name x pos) (envOfC cn cs L a ccd)) Q E s := nameX_K F X T e h hk hx hd
theorem nameO_B (F : Fr h₀ L s.heap m) (X : K.In h₀) (T : TopRead p loose mg mb h₀) (e : nsIn K mainGlobals x = some none) (hv : bootBuiltins x = some v) (hn : x ≠ "__name__") (h : Q v s) (hk : cs.kind = .function)
    (hx : (envOfC cn cs L a ccd).kindOf x = some .globalImplicit) (hd : (x == ("__debug__" : Str)) = false) :
    wpAny M A (eval (.Name x pos) (envOfC cn cs L a ccd)) Q E s := nameX_B F X T e hv hn h hk hx hd
end
end Mine
end

section
open PySem PySem.W PySem.Spec PySem.Calls PyProof.Rows PySem.Builtin PySem.Builtin.Str
set_option Elab.async false
set_option maxRecDepth 100000
set_option maxHeartbeats 400000
namespace Mine
noncomputable def hasDbl (c : Str) : Bool := !(occurrences c "**" 0 c.length 1).isEmpty
noncomputable def oneStep (c : Str) : Str := Txt.replace c "**" "*"
noncomputable def gapF : Nat → Str → Str
  | 0, c => c
  | n + 1, c => if hasDbl c = true then gapF n (oneStep c) else c
noncomputable def GapI (P : Str → Prop) (R : Str) (n : Nat) (c : Str) : Prop := P c ∧ c.length ≤ n ∧ gapF n c = R
theorem gap_done {P : Str → Prop} {R : Str} {n : Nat} {c : Str} (h : GapI P R n c) (hd : (occurrences c "**" 0 c.length 1).isEmpty = true) : R = c := by
  obtain ⟨_, _, rfl⟩ := h
  cases n with
  | zero => rfl
  | succ n => simp [gapF, hasDbl, hd]

theorem gap_ret {P : Str → Prop} {R : Str} {n : Nat} {c : Str} {t : Tok} (h : GapI P R n c) (hd : (occurrences c "**" 0 c.length 1).isEmpty = true) : ∃ t', Value.str c t = Value.str R t' := ⟨t, by rw [gap_done h hd]⟩
theorem gap_len {P : Str → Prop} {R : Str} {n : Nat} {c : Str} (h : GapI P R n c) (hl : ∀ c, P c → c.length ≤ 100) : c.length ≤ 100 := hl _ h.1
theorem gap_step {P : Str → Prop} {R : Str} {n : Nat} {c : Str} (h : GapI P R n c) (hd : (occurrences c "**" 0 c.length 1).isEmpty = false) (hs : ∀ c, P c → hasDbl c = true → P (oneStep c) ∧ (oneStep c).length < c.length) : ∃ n', n = n' + 1 ∧ GapI P R n' (oneStep c) := by
  obtain ⟨h1, h2, rfl⟩ := h
  have hd' : hasDbl c = true := by simp [hasDbl, hd]
  have := hs c h1 hd'
  cases n with
  | zero => omega
  | succ n => exact ⟨n, rfl, this.1, by omega, by simp only [gapF]; rw [if_pos hd']⟩
section
variable {prog : Program} {w : World} {A : Around} {E : Value → Shared → Prop} {Q : Flow → Shared → Prop} {s : Shared} {env : Env} {h₀ : Heap} {L : Addr}
theorem while_gap {test : Expr} {body : List Stmt} {pos : Pos} {m₀ : Str → Option Value} {news : Led} {x : Str} {t₀ : Tok} {P : Str → Prop} {R : Str} {n₀ : Nat} (h0 : GapI P R n₀ x)
    (F : Fr h₀ L s.heap m₀) (N : News h₀ L s.heap news) (hy : m₀ "stars" = some (.str x t₀))
    (turn : ∀ n c t h tk, GapI P R n c → Fr h₀ L h (fun z => if z = "stars" then some (.str c t) else m₀ z) → News h₀ L h news →
      wpAny (model prog w) A (isTrue test env (eval test env)) (fun b s₂ =>
        if b = true then wpAny (model prog w) A (execs body env) (WhileStep2 h₀ L s (StrJ news "stars" m₀ (GapI P R)) Q n) E s₂ else Q .next s₂) E { s with heap := h, toks := tk })
    (hE : PassesOwn (model prog w) A env E := by passes_own) :
    wpAny (model prog w) A (exec (.While test body [] pos) env) Q E s := while_str (GapI P R) F N hy h0 turn hE
end
theorem replace_fit {x z : Str} (hx : x.length ≤ 100) (hz : z.length ≤ 10) : x.length + (x.length + 1) * z.length ≤ 16777216 := by
  have : (x.length + 1) * z.length ≤ 101 * 10 := Nat.mul_le_mul (by omega) hz
  omega

theorem gap_ok (w : World) (p : Program) (loose : List Str) (mean : ExcName → Option Value) (mg mb : Str → Option Value) (x : Str) (t : Tok) (P : Str → Prop) (hP : P x) (hl : ∀ c, P c → c.length ≤ 100)
    (hs : ∀ c, P c → hasDbl c = true → P (oneStep c) ∧ (oneStep c).length < c.length) :
    FnOk w p loose mean mg mb 74 [.str x t] (fun _ => True) (fun v new => new = [] ∧ ∃ t', v = .str (gapF 100 x) t') := by
  k_with_none
  k_with "exec While" => (k_here; (with_unfolding_all refine' while_gap (by assumption) ?r_k1 ?r_k2 ?r_k3 ?_ ?r_k4); (case r_k1 => k_asm); (case r_k2 => k_asm); (case r_k3 => rfl); (case r_k4 => passes_own); k_whole; intro qn' qc' qt' qh' qtk' qhI' qF' qN')
  k_with "call builtin:str.replace" => (k_here; refine SC.replace (by first | omega | ((show @Ne Nat _ _); omega)) (by first | omega | ((show @Ne Nat _ _); omega)) (by first | omega | ((show @Ne Nat _ _); omega)) (by decide +kernel) (replace_fit (gap_len (by assumption) (by assumption)) (by decide +kernel)) ?_; intro qt' qk')
  k_with "execs cons" => ((with_reducible refine wpAny_execs_cons ?_); try dsimp only)
  have hfill : (PySem.Challenge.rw_ij0083_01.row.prog = PySem.Challenge.rw_ij0083_01.row.prog) ∧ (Mine.hd.heap_39 = Mine.hd.heap_39) := by k_fill; exact ⟨rfl, rfl⟩
  clear hfill
  intro dp un gd cn cs f ccd cl outer A₀ base h₀ L m s Q E B F X T hk hd hu _ hret
  k_dflt (refine' fn_enter ?k1 ?k2 ?k4 ?k5 ?kA ?kF ?kK ?k6 ?k7 ?k8 ?k9 ?kB ?_ ?c5 ?c2 ?c3 ?c4; (case kA => exact rfl); (case kF => exact rfl); (case kK => assumption); (case k1 => k_asm); (case k2 => k_asm); (case k4 => k_asm); (case k5 => k_asm); (case k6 => k_is); (case k7 => k_is); (case k8 => ktr_room); (case k9 => exact BindsTo.of_eq rfl); (case c5 => decide); (case kB => exact locs rfl); (case c2 => exact rfl); (case c3 => exact rfl); (case c4 => exact rfl); k_whole)
  intro g L' h₁ hg F' N' B' X' T'
  clear B X T
  (try dsimp only)
  k_fold
  have hend := fun v h' L'' m'' tk (F' : Fr g L'' h' m'') (hv : ∃ t', v = Value.str (gapF 100 x) t') => fn_end (tk := tk) (v := v) (new := []) hret hg F' News.nil ⟨rfl, hv⟩
  clear F hret hg
  have h0 : GapI P (gapF 100 x) 100 x := ⟨hP, hl x hP, rfl⟩
  k_steps
  · exact hend _ _ _ _ _ (by assumption) (gap_ret (by assumption) (by assumption))
  · obtain ⟨n', rfl, hI⟩ := gap_step (by assumption) (by assumption) hs
    exact strJ_next (by assumption) (by assumption) (Nat.lt_succ_self _) rfl hI (by intro z hz; simp [hz])
end Mine
end

section
open PySem PySem.W PySem.Spec PySem.Calls PyProof.Rows PySem.Builtin PySem.Builtin.Str
set_option Elab.async false
set_option maxRecDepth 100000
set_option maxHeartbeats 400000
namespace Mine

noncomputable def ellGo (y : Str) (ep : Int) : List Str → Int → Bool
  | [], _ => true
  | w :: r, sp => if find4 y w sp ep < 0 then false else ellGo y ep r (find4 y w sp ep + w.length)
noncomputable def EllI (y : Str) (ep : Int) (R : Bool) (rest : List Str) (a : Int) : Prop := 0 ≤ a ∧ ellGo y ep rest a = R ∧ ∀ q ∈ rest, q.length ≤ 100
theorem ellI_step {y : Str} {ep : Int} {R : Bool} {wd : Str} {rest : List Str} {a : Int} (h : EllI y ep R (wd :: rest) a) (hf : ¬ find4 y wd a ep < 0) : EllI y ep R rest (find4 y wd a ep + wd.length) := by
  obtain ⟨h0, h1, h2⟩ := h
  refine ⟨by omega, ?_, fun q hq => h2 q (.tail _ hq)⟩
  rw [← h1]; simp only [ellGo, if_neg hf]
theorem ellI_no {y : Str} {ep : Int} {R : Bool} {wd : Str} {rest : List Str} {a : Int} (h : EllI y ep R (wd :: rest) a) (hf : find4 y wd a ep < 0) : R = false := by
  rw [← h.2.1]; simp only [ellGo, if_pos hf]
theorem ellI_yes {y : Str} {ep : Int} {R : Bool} {a : Int} (h : EllI y ep R [] a) : R = true := by rw [← h.2.1]; rfl

structure SplitsTo (x y a : Str) (mid : List Str) (z : Str) : Prop where
  eq : (occurrences x y 0 x.length 1).isEmpty = false → Txt.split x y = a :: (mid ++ [z])
  la : a.length ≤ 100
  lz : z.length ≤ 100
  lm : ∀ q ∈ mid, q.length ≤ 100
  ln : mid.length ≤ 100
theorem SplitsTo.all {x y a z : Str} {mid : List Str} (h : SplitsTo x y a mid z) : ∀ q ∈ a :: (mid ++ [z]), q.length ≤ 100 := by
  intro q hq
  rcases List.mem_cons.mp hq with rfl | hq
  · exact h.la
  rcases List.mem_append.mp hq with hq | hq
  · exact h.lm q hq
  · rw [List.mem_singleton.mp hq]; exact h.lz

section
variable {prog : Program} {w : World} {A : Around} {E : Value → Shared → Prop} {s : Shared} {env : Env} {h₀ : Heap} {x : Str} {body : List Stmt} {Q : Flow → Shared → Prop} {news : Led}
theorem iter_ell {l : Addr} {vs : List Value} {ws : List Str} {n : Nat} {m₀ : Str → Option Value} {y : Str} {ep a₀ : Int} {u te t₀ : Tok}
    (hh : A.handled = none) (hm : (l, listOf vs.toArray n) ∈ news) (hv : StrVals vs ws) (F : Fr h₀ env.locals s.heap m₀) (N : News h₀ env.locals s.heap news) (hy : m₀ "startpos" = some (.int a₀ t₀)) (hyx : (Str.ofString "startpos") ≠ x)
    (_hg : m₀ "got" = some (.str y u)) (_he : m₀ "endpos" = some (.int ep te)) (h0 : 0 ≤ a₀) (hq : ∀ q ∈ ws, q.length ≤ 100)
    (turn : ∀ wd t rest a ta h tk own, wd.length ≤ 100 → EllI y ep (ellGo y ep ws a₀) (wd :: rest) a → Fr h₀ env.locals h (fun z => if z = x then some (.str wd t) else if z = "startpos" then some (.int a ta) else m₀ z) → News h₀ env.locals h (own ++ news) →
      wpAny (model prog w) A (execs body env) (InvPost h₀ env.locals (fun m' => (∃ a' t', m' "startpos" = some (.int a' t') ∧ EllI y ep (ellGo y ep ws a₀) rest a') ∧ ∀ z, z ≠ x → z ≠ "startpos" → m' z = m₀ z) (own ++ news) { s with heap := h, toks := tk } Q) E { s with heap := h, toks := tk })
    (done : ∀ (u : Str → Option Value) a t h tk, ellGo y ep ws a₀ = true → Fr h₀ env.locals h (fun z => if z = x then u z else if z = "startpos" then some (.int a t) else m₀ z) → News h₀ env.locals h news → Q .next { s with heap := h, toks := tk }) :
    wpAny (model prog w) A (pyIter (.ref l)) (fun it s₂ => LoopAtV prog w A h₀ env x body Q E it s₂) E s :=
  iter_strs (EllI y ep (ellGo y ep ws a₀)) hh hm hv F N hy hyx ⟨h0, rfl, hq⟩ (fun wd t rest a ta h tk own hI => turn wd t rest a ta h tk own (hI.2.2 _ (.head _)) hI) fun u a t h tk hI F' N' => done u a t h tk (ellI_yes hI) F' N'
end

noncomputable def ellRun (a : Str) (mid : List Str) (z y : Str) : Bool :=
  if a.length ≠ 0 ∧ Txt.startswith y a = false then false
  else if z.length ≠ 0 ∧ Txt.endswith y z = false then false
  else if (if a.length ≠ 0 then (a.length : Int) else 0) > ((y.length : Int) - (if z.length ≠ 0 then (z.length : Int) else 0)) then false
  else ellGo y ((y.length : Int) - (if z.length ≠ 0 then (z.length : Int) else 0)) ((if a.length ≠ 0 then [] else [a]) ++ (mid ++ if z.length ≠ 0 then [] else [z])) (if a.length ≠ 0 then (a.length : Int) else 0)
noncomputable def ellF (x a : Str) (mid : List Str) (z y : Str) : Bool :=
  if (occurrences x "..." 0 x.length 1).isEmpty = true then x == y else ellRun a mid z y


section
variable {prog : Program} {w : World} {A : Around} {E : Value → Shared → Prop} {s : Shared} {h₀ : Heap} {L : Addr} {m : Str → Option Value} {news : Led}
theorem len_ends {D : Addr} {a z : Str} {ta tz : Tok} {n : Nat} {ps : List (Str × Tok)} {mid : List Str} {Q : Value → Shared → Prop} (hm : (D, listOf ((Value.str a ta :: strValues ps) ++ [Value.str z tz]).toArray n) ∈ news) (N : News h₀ L s.heap news)
    (e : ps.map (·.1) = mid) (hl : mid.length ≤ 100) (h : ∀ t k, Q (.int ((mid.length : Int) + 2) t) { s with toks := k }) : wpAny (model prog w) A (call (.builtin "len") [.ref D]) Q E s := by
  have hz : ((Value.str a ta :: strValues ps) ++ [Value.str z tz]).toArray.size = mid.length + 2 := by subst e; simp [strValues]
  refine len_list (N.isList hm) (by rw [hz]; omega) ?_
  rw [hz]
  exact h _ _
theorem len_A {x : Str} {t : Tok} {Q : Value → Shared → Prop} (hl : x.length ≤ 100) (h : ∀ t k, Q (.int (x.length : Int) t) { s with toks := k }) : wpAny (model prog w) A (call (.builtin "len") [.str x t]) Q E s :=
  SBL.len (by omega) (h _ _)
theorem truthy_A {x : Str} {t : Tok} {Q : Bool → Shared → Prop} (hl : x.length ≤ 100) (h : Q (decide (x.length ≠ 0)) { s with toks := s.toks + 1 + 1 }) : wpAny (model prog w) A (truthy (.str x t)) Q E s := by
  refine SBL.truthy (by omega) ?_
  have e : ((x.length : Int) != 0) = decide (x.length ≠ 0) := by
    by_cases hx : x.length = 0 <;> simp [hx, bne]
  rw [e]; exact h
end

theorem ell_ok (w : World) (p : Program) (loose : List Str) (mean : ExcName → Option Value) (mg mb : Str → Option Value) (x y a z : Str) (mid : List Str) (t u : Tok) (hx : x.length ≤ 100) (hy : y.length ≤ 100) (hsp : SplitsTo x "..." a mid z) :
    FnOk w p loose mean mg mb 38 [.str x t, .str y u] (fun _ => True) (fun v new => new = [] ∧ v = .bool (ellF x a mid z y)) := by
  k_with_none
  k_with "call builtin:str.split" => (k_here; refine split_ends (by k_asm) (by k_asm) (by decide +kernel) (SplitsTo.eq (by assumption) (by assumption)) (SplitsTo.ln (by assumption)) ?_ (by rw [sizeLine_eq]; omega); intro qD' qta' qtz' qps' qh' qk' qe' qhps' qF' qN' ql1; (try k_lt ql1))
  k_with "call builtin:len" => (k_here; refine' len_ends ?r_k1 ?r_k2 ?r_k3 ?r_k4 ?_; (case r_k2 => k_asm); (case r_k1 => k_mem); (case r_k3 => assumption); (case r_k4 => exact SplitsTo.ln (by assumption)); k_whole; intro qt' qk')
  k_with "call builtin:len" => (k_here; (with_reducible show wpAny _ _ (call (Value.builtin "len") [Value.str _ _]) _ _ _); refine len_A (by first | exact SplitsTo.la (by assumption) | exact SplitsTo.lz (by assumption) | assumption) ?_; intro qt' qk')
  k_with "truthy str" => (k_here; refine truthy_A (by first | exact SplitsTo.la (by assumption) | exact SplitsTo.lz (by assumption) | assumption) ?_)
  k_with "subscriptTail Name Constant ref int" => (k_here; (with_reducible show wpAny _ _ (subscriptTail _ _ (Value.ref _) (Value.int 0 _)) _ _ _); (k_dflt refine' item_first ?r_k1 ?_; (case r_k1 => k_dflt exact News.isList (by k_asm) (by k_mem)); k_whole))
  k_with "subscriptTail Name UnaryOp ref int" => (k_here; (with_reducible show wpAny _ _ (subscriptTail _ _ (Value.ref _) (Value.int (-1) _)) _ _ _); (k_dflt refine' item_last ?r_k1 ?r_k2 ?_; (case r_k1 => k_dflt exact News.isList (by k_asm) (by k_mem)); (case r_k2 => simp only [List.length_cons, List.length_append, strValues_len, List.length_nil]; omega); k_whole))
  k_with "delItem ref int" => (k_here; (with_reducible show wpAny _ _ (delItem (Value.ref _) (Value.int 0 _)) _ _ _); k_dflt refine' del_first ?r_k1 ?r_k2 ?r_k3 ?_ ?r_k5; (case r_k1 => k_asm); (case r_k2 => k_asm); (case r_k3 => k_upd); (case r_k5 => simp only [List.length_cons, List.length_append, strValues_len, List.length_nil]; omega); k_whole; intro qh' qF' qN'; (try k_sweep))
  k_with "delItem ref int" => (k_here; (with_reducible show wpAny _ _ (delItem (Value.ref _) (Value.int (-1) _)) _ _ _); k_dflt refine' del_last ?r_k1 ?r_k2 ?r_k3 ?_ ?r_k5; (case r_k1 => k_asm); (case r_k2 => k_asm); (case r_k3 => k_upd); (case r_k5 => simp only [List.length_cons, List.length_append, strValues_len, List.length_nil]; omega); k_whole; intro qh' qF' qN'; (try k_sweep))
  k_with "subscriptTail Name UnaryOp ref int" => (k_here; (with_reducible show wpAny _ _ (subscriptTail _ _ (Value.ref _) (Value.int (-1) _)) _ _ _); (k_dflt refine' item_last' ?r_k1 ?r_k2 ?_; (case r_k1 => k_dflt exact News.isList (by k_asm) (by k_mem)); (case r_k2 => simp only [List.length_cons, List.length_append, strValues_len, List.length_nil]; omega); k_whole))
  k_with "delItem ref int" => (k_here; (with_reducible show wpAny _ _ (delItem (Value.ref _) (Value.int (-1) _)) _ _ _); k_dflt refine' del_last' ?r_k1 ?r_k2 ?r_k3 ?_ ?r_k5; (case r_k1 => k_asm); (case r_k2 => k_asm); (case r_k3 => k_upd); (case r_k5 => simp only [List.append_eq, List.length_cons, List.length_append, strValues_len, List.length_nil]; omega); k_whole; intro qh' qF' qN'; (try k_sweep))
  k_with "pyIter ref" => (k_dflt (k_here; (with_reducible show wpAny _ _ (pyIter (Value.ref _)) (fun it s₂ => LoopAtV _ _ _ _ _ _ _ _ _ it s₂) _ _); (with_unfolding_all refine' iter_ell ?r_k1 ?r_k2 ?r_k3 ?r_k4 ?r_k5 ?r_k6 ?r_k7 ?r_k8 ?r_k9 ?r_k10 ?r_k11 ?_ ?_); (case r_k1 => rfl); (case r_k4 => k_asm); (case r_k5 => k_asm); (case r_k2 => k_mem); (case r_k6 => rfl); (case r_k7 => decide); (case r_k8 => rfl); (case r_k9 => rfl); (case r_k10 => omega); (case r_k3 => ((try simp only [List.append_eq]); (repeat' (first | exact sv_base (by assumption) | apply sv_cons | apply sv_snoc)))); (case r_k11 => (intro qq qhq; refine SplitsTo.all (by assumption) qq ?_; (simp only [List.mem_cons, List.mem_append, List.mem_singleton, List.not_mem_nil, or_false] at qhq ⊢); (first | (rcases qhq with h | h | h <;> simp [h]; done) | (rcases qhq with h | h <;> simp [h]; done) | simp [qhq]))); trace "ITER"))
  k_with "call builtin:str.find" => (k_here; refine call_find4 ?_)
  k_with "InvEnd" => (refine InvEnd.intro (by assumption) (by assumption) (by k_sub) ⟨⟨_, _, by with_unfolding_all rfl, ellI_step (by assumption) (by assumption)⟩, by k_same2⟩)
  have hfill : (PySem.Challenge.rw_ij0083_01.row.prog = PySem.Challenge.rw_ij0083_01.row.prog) ∧ (Mine.hd.heap_39 = Mine.hd.heap_39) := by k_fill; exact ⟨rfl, rfl⟩
  clear hfill
  intro dp un gd cn cs f ccd cl outer A₀ base h₀ L m s Q E B F X T hk hd hu _ hret
  k_dflt (refine' fn_enter ?k1 ?k2 ?k4 ?k5 ?kA ?kF ?kK ?k6 ?k7 ?k8 ?k9 ?kB ?_ ?c5 ?c2 ?c3 ?c4; (case kA => exact rfl); (case kF => exact rfl); (case kK => assumption); (case k1 => k_asm); (case k2 => k_asm); (case k4 => k_asm); (case k5 => k_asm); (case k6 => k_is); (case k7 => k_is); (case k8 => ktr_room); (case k9 => exact BindsTo.of_eq rfl); (case c5 => decide); (case kB => exact locs rfl); (case c2 => exact rfl); (case c3 => exact rfl); (case c4 => exact rfl); k_whole)
  intro g L' h₁ hg F' N' B' X' T'
  clear B X T
  (try dsimp only)
  k_fold
  have hend := fun v h' L'' m'' tk (F' : Fr g L'' h' m'') (hv : v = Value.bool (ellF x a mid z y)) => fn_end (tk := tk) (v := v) (new := []) hret hg F' News.nil ⟨rfl, hv⟩
  clear F hret hg
  k_steps
  all_goals exact hend _ _ _ _ _ (by assumption) (by first | (simp only [ellF, ellRun, *]; done) | (simp [ellF, ellRun, *]; done) | (simp [ellF, ellRun, *]; exact ellI_no (by assumption) (by assumption)))
end Mine
end

section
open PySem PySem.W PySem.Spec PySem.Calls PyProof.Rows PySem.Builtin PySem.Builtin.Str
set_option Elab.async false
set_option maxRecDepth 100000
set_option maxHeartbeats 4000000
namespace Mine
noncomputable def boolVals (r : List Bool) : List Value := r.map Value.bool
noncomputable def stepStar (r : List Bool) : List Bool := (List.range r.length).map fun k => (r.take (k + 1)).contains true
noncomputable def signAt (y : Str) (k : Nat) : Str := Txt.item y (k : Int)
noncomputable def stepSign (y sg : Str) (r : List Bool) : List Bool := false :: (List.range y.length).map fun k => r.getD k false && (signAt y k == sg)
noncomputable def signOf (x : Str) : Str := if x == "[\\[]" then "[" else x
noncomputable def takesGo (y : Str) : List (Option Str) → List Bool → List Bool
  | [], r => r
  | none :: ps, r => takesGo y ps (stepStar r)
  | some x :: ps, r => takesGo y ps (stepSign y (signOf x) r)
noncomputable def takesF (ps : List (Option Str)) (y : Str) : Bool := (takesGo y ps (true :: List.replicate y.length false)).getLastD false
/-- parts as values -/
noncomputable def PartVals (vs : List Value) (ps : List (Option Str)) : Prop := vs.length = ps.length ∧ ∀ i : Nat, (ps[i]? = some none → vs[i]? = some Value.none) ∧ ∀ x, ps[i]? = some (some x) → ∃ t, vs[i]? = some (Value.str x t)

noncomputable def TJ (y : Str) (R : List Bool) (c1 c2 c3 : Addr) (o3 : Obj) (m₀ : Str → Option Value) (rest : List (Option Str)) (m : Str → Option Value) (nx : Led) : Prop :=
  ∃ (D : Addr) (os o2 : Obj) (r : List Bool) (n : Nat) (v : Option Value), nx = [(D, listOf (boolVals r).toArray n), (c1, os), (c2, o2), (c3, o3)] ∧ os.data = .cell v ∧ o2.data = .cell (some (.ref D)) ∧
    (D ≠ c1 ∧ D ≠ c2 ∧ D ≠ c3) ∧ r.length = y.length + 1 ∧ takesGo y rest r = R ∧ ∀ z : Str, z ≠ "part" → m z = m₀ z
section
variable {prog : Program} {w : World} {A : Around} {E : Value → Shared → Prop} {s : Shared} {env : Env} {h₀ : Heap} {body : List Stmt} {Q : Flow → Shared → Prop}
theorem iter_takes {l : Addr} {vs bv : List Value} {ps : List (Option Str)} {m₀ : Str → Option Value} {y : Str} {D c1 c2 c3 : Addr} {os o2 o3 : Obj} {v₀ : Option Value} {r : List Bool} {n : Nat} {news : Led}
    (hl : h₀.IsList l vs.toArray) (hv : PartVals vs ps) (hh : A.handled = none) (F : Fr h₀ env.locals s.heap m₀) (N : News h₀ env.locals s.heap news) (hD : (D, listOf bv.toArray n) ∈ news) (hbv : bv = boolVals r) (h1 : (c1, os) ∈ news) (h2 : (c2, o2) ∈ news) (h3 : (c3, o3) ∈ news)
    (e1 : os.data = .cell v₀) (e2 : o2.data = .cell (some (.ref D))) (hr : r.length = y.length + 1) (hd : D ≠ c1 ∧ D ≠ c2 ∧ D ≠ c3)
    (turnN : ∀ rest D os o2 r' n v h tk I it, (@Ne Nat D c1 ∧ @Ne Nat D c2 ∧ @Ne Nat D c3) → os.data = .cell v → o2.data = .cell (some (.ref D)) → r'.length = y.length + 1 → takesGo y rest (stepStar r') = takesGo y ps r →
      Fr h₀ env.locals h (fun z => if z = "part" then some .none else m₀ z) → News h₀ env.locals h [(I, it), (D, listOf (boolVals r').toArray n), (c1, os), (c2, o2), (c3, o3)] → (@Ne Nat D I ∧ @Ne Nat c1 I ∧ @Ne Nat c2 I ∧ @Ne Nat c3 I) →
      wpAny (model prog w) A (execs body env) (UnrPost h₀ env.locals { s with heap := h, toks := tk } I it (TJ y (takesGo y ps r) c1 c2 c3 o3 m₀ rest) Q) E { s with heap := h, toks := tk })
    (turnS : ∀ rest x t D os o2 r' n v h tk I it, (@Ne Nat D c1 ∧ @Ne Nat D c2 ∧ @Ne Nat D c3) → os.data = .cell v → o2.data = .cell (some (.ref D)) → r'.length = y.length + 1 → takesGo y rest (stepSign y (signOf x) r') = takesGo y ps r →
      Fr h₀ env.locals h (fun z => if z = "part" then some (.str x t) else m₀ z) → News h₀ env.locals h [(I, it), (D, listOf (boolVals r').toArray n), (c1, os), (c2, o2), (c3, o3)] → (@Ne Nat D I ∧ @Ne Nat c1 I ∧ @Ne Nat c2 I ∧ @Ne Nat c3 I) →
      wpAny (model prog w) A (execs body env) (UnrPost h₀ env.locals { s with heap := h, toks := tk } I it (TJ y (takesGo y ps r) c1 c2 c3 o3 m₀ rest) Q) E { s with heap := h, toks := tk })
    (done : ∀ D os o2 n v h tk, os.data = .cell v → o2.data = .cell (some (.ref D)) → (takesGo y ps r).length = y.length + 1 → (∀ u : Str → Option Value, True) → (∃ m₁, Fr h₀ env.locals h m₁ ∧ ∀ z : Str, z ≠ "part" → m₁ z = m₀ z) → News h₀ env.locals h [(D, listOf (boolVals (takesGo y ps r)).toArray n), (c1, os), (c2, o2), (c3, o3)] → Q .next { s with heap := h, toks := tk }) :
    wpAny (model prog w) A (pyIter (.ref l)) (fun it s₂ => LoopAtV prog w A h₀ env "part" body Q E it s₂) E s := by
  subst hbv
  have hfr : ∀ m₁ : Str → Option Value, (∀ z : Str, z ≠ "part" → m₁ z = m₀ z) → ∀ v : Value, (fun z => if z = ("part" : Str) then some v else m₁ z) = fun z => if z = ("part" : Str) then some v else m₀ z := fun m₁ hm v => by
    funext z
    by_cases hz : z = "part"
    · simp [hz]
    · simp only [if_neg hz]; exact hm z hz
  have N0 : News h₀ env.locals s.heap [(D, listOf (boolVals r).toArray n), (c1, os), (c2, o2), (c3, o3)] := fun p hp => N p (by
    simp only [List.mem_cons, List.not_mem_nil, or_false] at hp
    rcases hp with rfl | rfl | rfl | rfl <;> assumption)
  refine iter_base (vs := vs) (fun i m nx => TJ y (takesGo y ps r) c1 c2 c3 o3 m₀ (ps.drop i) m nx) hh hl F N0 ⟨D, os, o2, r, n, v₀, rfl, e1, e2, hd, hr, rfl, fun _ _ => rfl⟩ ?_ ?_
  · rintro i v m₁ news₁ h tk I it hvi ⟨D, os, o2, r', n, v', rfl, f1, f2, f3, f4, f5, f6⟩ F₁ N₁ hoff
    rw [hfr m₁ f6 v] at F₁
    have hne : D ≠ I ∧ c1 ≠ I ∧ c2 ≠ I ∧ c3 ≠ I := ⟨hoff _ (.head _), hoff _ (.tail _ (.head _)), hoff _ (.tail _ (.tail _ (.head _))), hoff _ (.tail _ (.tail _ (.tail _ (.head _))))⟩
    have hi : i < ps.length := by rw [← hv.1]; exact (List.getElem?_eq_some_iff.mp hvi).1
    have hpi : ps[i]? = some ps[i] := List.getElem?_eq_getElem hi
    have hdr : ps.drop i = ps[i] :: ps.drop (i + 1) := List.drop_eq_getElem_cons hi
    rw [hdr] at f5
    cases hp : ps[i] with
    | none =>
      rw [hp] at f5 hpi
      have e := (hv.2 i).1 hpi
      rw [hvi] at e
      obtain rfl := Option.some.inj e
      exact turnN _ D os o2 r' n v' h tk I it f3 f1 f2 f4 f5 F₁ N₁ hne
    | some x =>
      rw [hp] at f5 hpi
      obtain ⟨t, e⟩ := (hv.2 i).2 x hpi
      rw [hvi] at e
      obtain rfl := Option.some.inj e
      exact turnS _ x t D os o2 r' n v' h tk I it f3 f1 f2 f4 f5 F₁ N₁ hne
  · rintro m₁ news₁ h tk ⟨D, os, o2, r', n, v', rfl, f1, f2, f3, f4, f5, f6⟩ F₁ N₁
    rw [hv.1, List.drop_length] at f5
    have f5' : r' = takesGo y ps r := f5
    subst f5'
    exact done D os o2 n v' h tk f1 f2 f4 (fun _ => trivial) ⟨m₁, F₁, f6⟩ N₁
theorem takes_close {y : Str} {R rn : List Bool} {D c1 c2 c3 L I : Addr} {o3 os o2 it : Obj} {m₀ m' : Str → Option Value} {rest : List (Option Str)} {news : Led} {h h' : Heap} {ys : List Value} {n tk tk' : Nat} {v : Option Value}
    (F : Fr h₀ L h' m') (N : News h₀ L h' news) (hD : (D, listOf ys.toArray n) ∈ news) (h1 : (c1, os) ∈ news) (h2 : (c2, o2) ∈ news) (h3 : (c3, o3) ∈ news) (hI : (I, it) ∈ news) (hys : ys = boolVals rn)
    (e1 : os.data = .cell v) (e2 : o2.data = .cell (some (.ref D))) (hr : rn.length = y.length + 1) (hR : takesGo y rest rn = R) (hm : ∀ z : Str, z ≠ "part" → m' z = m₀ z) (hne : @Ne Nat I D ∧ @Ne Nat c1 I ∧ @Ne Nat c2 I ∧ @Ne Nat c3 I) (hdc : @Ne Nat D c1 ∧ @Ne Nat D c2 ∧ @Ne Nat D c3) :
    UnrEnd h₀ L { s with heap := h, toks := tk } I it (TJ y R c1 c2 c3 o3 m₀ rest) { s with heap := h', toks := tk' } := by
  subst hys
  refine ⟨h', tk', m', [(D, listOf (boolVals rn).toArray n), (c1, os), (c2, o2), (c3, o3)], rfl, F, fun p hp => N p ?_, fun p hp => ?_, D, os, o2, rn, n, v, rfl, e1, e2, hdc, hr, hR, hm⟩
  · simp only [List.mem_cons, List.not_mem_nil, or_false] at hp
    rcases hp with rfl | rfl | rfl | rfl | rfl <;> assumption
  · simp only [List.mem_cons, List.not_mem_nil, or_false] at hp
    rcases hp with rfl | rfl | rfl | rfl
    · exact Ne.symm hne.1
    · exact hne.2.1
    · exact hne.2.2.1
    · exact hne.2.2.2
theorem stepStar_len (r : List Bool) : (stepStar r).length = r.length := by simp [stepStar]
theorem star_vals {r : List Bool} {n : Nat} {ys : List Value} (hr : r.length = n) (h : Paired (fun i v => v = Value.bool ((r.take (i + 1)).contains true)) ((List.range n).filter fun _ => true) ys) : ys = boolVals (stepStar r) := by
  rw [paired_range_eq (f := fun i => Value.bool ((r.take (i + 1)).contains true)) h]; subst hr; simp [boolVals, stepStar]
end


theorem bools_take {h : Heap} {D : Addr} {r : List Bool} {b : Nat} (x : h.IsList D ((boolVals r).take b).toArray) : h.IsList D ((r.take b).map Value.bool).toArray := by rw [List.map_take]; exact x
theorem boolVals_len (r : List Bool) : (boolVals r).length = r.length := by simp [boolVals]
theorem and_val {b c : Bool} (h : b = true) : Value.bool c = Value.bool (b && c) := by rw [h]; rfl
theorem and_no {b c : Bool} (h : b = false) : Value.bool b = Value.bool (b && c) := by rw [h]; rfl
theorem sign_vals {f : Nat → Bool} {n : Nat} {ys : List Value} (h : Paired (fun i v => v = Value.bool (f i)) ((List.range n).filter fun _ => true) ys) : ys = (List.range n).map fun i => Value.bool (f i) := paired_range_eq (f := fun i => Value.bool (f i)) h
theorem sign_out {y sg : Str} {r : List Bool} : [Value.bool false] ++ ((List.range y.length).map fun i => Value.bool (r.getD i false && (signAt y i == sg))) = boolVals (stepSign y sg r) := by simp [boolVals, stepSign]
theorem stepSign_len (y sg : Str) (r : List Bool) : (stepSign y sg r).length = y.length + 1 := by simp [stepSign]
theorem bools_get {r : List Bool} {i : Nat} (h : i < r.length) : (boolVals r)[i]? = some (Value.bool (r.getD i false)) := by
  simp [boolVals, List.getD_eq_getElem?_getD, h]
theorem bools_last {r : List Bool} {n : Nat} (h : r.length = n + 1) : (boolVals r).getLast? = some (Value.bool (r.getLastD false)) := by
  cases r with
  | nil => cases h
  | cons a l =>
    rw [boolVals, List.getLast?_map, List.getLastD_eq_getLast?, List.getLast?_cons]; rfl
theorem takes_ok (w : World) (p : Program) (loose : List Str) (mean : ExcName → Option Value) (mg mb : Str → Option Value) (lp : Addr) (vs : List Value) (y : Str) (u : Tok) (ps : List (Option Str)) (hy : y.length ≤ 100) (hps : PartVals vs ps) :
    FnOk w p loose mean mg mb 67 [.ref lp, .str y u] (fun h => h.IsList lp vs.toArray) (fun v new => new = [] ∧ v = .bool (takesF ps y)) := by
  k_with_none
  k_with "eval Name" => (k_here; (with_reducible show wpAny _ _ (eval (Expr.Name _ _) (compEnvC _ _ _ _)) _ _ _); (with_reducible refine inComp ?_); name_kind "local"; with_unfolding_all refine ldVarK (by assumption) (by assumption) ?_)
  k_with "eval Name" => (k_here; (with_reducible show wpAny _ _ (eval (Expr.Name _ _) (compEnvC _ _ _ _)) _ _ _); (first
    | (refine' lcf_cell ?r_N ?r_c ?r_m ?r_d ?_ ?r_a ?r_b ?r_e; (k_dflt ((case r_a => rfl); (case r_b => kernel_rfl!); (case r_N => k_asm); (case r_c => with_unfolding_all rfl); (case r_m => k_mem); (case r_d => k_asm); (case r_e => decide))); k_whole)
    | (refine' lcf_free ?r_N ?r_c ?r_m ?r_d ?_ ?r_a ?r_b ?r_e ?r_f; (k_dflt ((case r_a => rfl); (case r_b => kernel_rfl!); (case r_N => k_asm); (case r_c => with_unfolding_all rfl); (case r_m => k_mem); (case r_d => k_asm); (case r_e => decide); (case r_f => decide))); k_whole)
    | (refine' nameG_K ?r_F ?r_X ?r_T ?r_e ?_ ?r_g ?r_a ?r_b ?r_d; (k_dflt ((case r_g => rfl); (case r_a => rfl); (case r_b => kernel_rfl!); (case r_F => k_asm); (case r_X => k_asm); (case r_T => k_asm); (case r_e => k_is); (case r_d => decide))); k_whole)
    | (refine' LCgL.ld_built ?r_F ?r_X ?r_T ?r_e ?r_v ?r_n ?_ ?r_g ?r_h ?r_a ?r_b ?r_d; (k_dflt ((case r_g => rfl); (case r_h => rfl); (case r_a => rfl); (case r_b => kernel_rfl!); (case r_F => k_asm); (case r_X => k_asm); (case r_T => k_asm); (case r_e => k_is); (case r_v => boot_by_name); (case r_n => decide); (case r_d => decide))); k_whole)))
  k_with "eval Name" => (k_here; (with_reducible show wpAny _ _ (eval (Expr.Name _ _) (envOfC _ _ _ _ _)) _ _ _); (first
    | (refine' nameO_L ?r_F ?r_v ?_ ?r_a ?r_b ?r_d; (k_dflt ((case r_a => rfl); (case r_b => kernel_rfl!); (case r_F => k_asm); (case r_v => rfl); (case r_d => kernel_rfl!))); k_whole)
    | (refine' nameO_C ?r_N ?r_c ?r_m ?r_d ?_ ?r_a ?r_b ?r_e; (k_dflt ((case r_a => rfl); (case r_b => kernel_rfl!); (case r_N => k_asm); (case r_c => rfl); (case r_m => k_mem); (case r_d => k_asm); (case r_e => kernel_rfl!))); k_whole)
    | (refine' nameO_K ?r_F ?r_X ?r_T ?r_e ?_ ?r_a ?r_b ?r_d; (k_dflt ((case r_a => rfl); (case r_b => kernel_rfl!); (case r_F => k_asm); (case r_X => k_asm); (case r_T => k_asm); (case r_e => k_is); (case r_d => kernel_rfl!))); k_whole)
    | (refine' nameO_B ?r_F ?r_X ?r_T ?r_e ?r_v ?r_n ?_ ?r_a ?r_b ?r_d; (k_dflt ((case r_a => rfl); (case r_b => kernel_rfl!); (case r_F => k_asm); (case r_X => k_asm); (case r_T => k_asm); (case r_e => k_is); (case r_v => boot_fast); (case r_n => decide); (case r_d => kernel_rfl!))); k_whole)))
  k_with "pyIter ref" => (k_dflt (k_here; (with_reducible show wpAny _ _ (pyIter (Value.ref _)) (fun it s₂ => LoopAtV _ _ _ _ _ _ _ _ _ it s₂) _ _); refine stop_of ?_))
  k_with "UnrEnd" => (refine stop_of ?_)
  k_with "exec For Name Name cons nil" => (refine stop_of ?_)
  k_with "binaryOp Add ref ref" => (refine stop_of ?_)
  k_with "binaryOp Add ref ref" => (k_dflt (k_here; (with_reducible show wpAny _ _ (binaryOp _ (Value.ref _) (Value.ref _)) _ _ _); (refine' add_two ?r_k1 ?r_k2 ?r_k3 ?r_k4 ?r_k5 ?_; (case r_k1 => k_asm); (case r_k2 => k_asm); (case r_k3 => first | with_reducible assumption | exact News.isList (by k_asm) (by k_mem)); (case r_k4 => first | with_reducible assumption | exact News.isList (by k_asm) (by k_mem)); (case r_k5 => (simp only [List.length_cons, List.length_nil, List.length_flatten, List.map_replicate, List.length_map, List.length_range, List.sum_replicate_nat, Int.toNat_natCast]; omega))); intro qD' qh' qF' qN' ql1; (try k_lt ql1)))
  k_with "eval ListComp" => (k_dflt (refine stop_of ?_; trace "COMP"))
  k_with "call builtin:len" => (k_dflt (k_here; (with_reducible show wpAny _ _ (call (Value.builtin "len") [Value.ref _]) _ _ _); k_dflt refine' len_led ?r_k1 ?r_k2 ?r_k3 ?r_k4 ?_; (case r_k1 => k_asm); (case r_k2 => k_mem); (case r_k3 => exact (boolVals_len _).trans (by assumption)); (case r_k4 => omega); k_whole; intro qt' qk'))
  k_with "subscriptTail Name Slice ref ref" => (k_dflt (k_here; (with_reducible show wpAny _ _ (subscriptTail _ (Expr.Slice _ _ _ _) (Value.ref _) (Value.ref _)) _ _ _); (with_unfolding_all refine' slice_upto ?r_k1 ?r_k2 ?r_k3 ?r_k4 ?r_k5 ?r_k6 ?_; (case r_k1 => k_asm); (case r_k2 => k_asm); (case r_k3 => exact News.isList (by k_asm) (by k_mem)); (case r_k4 => exact (Int.natCast_add _ 1).symm); (case r_k5 => (rw [boolVals_len]; omega)); (case r_k6 => (rw [boolVals_len]; omega)); k_whole); intro qD' qh' qF' qN' ql1 qhk'))
  k_with "compareOp In" => (k_dflt (k_here; (with_reducible show wpAny _ _ (compareOp CmpOp.In (Value.bool _) (Value.ref _)) _ _ _); (refine' in_list_bools ?r_k1 ?_; (case r_k1 => exact (bools_take (News.isList (by k_asm) (by k_mem)))); k_whole)))
  k_with "subscriptTail Name Name ref int" => (k_dflt (k_here; (with_reducible show wpAny _ _ (subscriptTail _ _ (Value.ref _) (Value.int _ _)) _ _ _); (k_dflt refine' item_at ?r_k1 ?r_k2 ?r_k3 ?_; (case r_k1 => k_dflt exact News.isList (by k_asm) (by k_mem)); (case r_k2 => exact bools_get (by omega)); (case r_k3 => (rw [boolVals_len]; omega)); k_whole)))
  k_with "subscriptTail Name UnaryOp ref int" => (k_dflt (k_here; (with_reducible show wpAny _ _ (subscriptTail _ _ (Value.ref _) (Value.int (-1) _)) _ _ _); (k_dflt refine' item_end ?r_k1 ?r_k2 ?r_k3 ?_; (case r_k1 => k_dflt exact News.isList (by k_asm) (by k_mem)); (case r_k2 => exact bools_last (by assumption)); (case r_k3 => (rw [boolVals_len]; omega)); k_whole)))
  have hfill : (PySem.Challenge.rw_ij0083_01.row.prog = PySem.Challenge.rw_ij0083_01.row.prog) ∧ (Mine.hd.heap_39 = Mine.hd.heap_39) := by k_fill; exact ⟨rfl, rfl⟩
  clear hfill
  intro dp un gd cn cs f ccd cl outer A₀ base h₀ L m s Q E B F X T hk hd hu hpre hret
  k_dflt (refine' fn_enterC ?k1 ?k2 ?k4 ?k5 ?kA ?kF ?kK ?k6 ?k7 ?k8 ?k9 ?kB ?kD ?_ ?c2 ?c3 ?c4; (case kA => exact rfl); (case kF => exact rfl); (case kK => assumption); (case k1 => k_asm); (case k2 => k_asm); (case k4 => k_asm); (case k5 => k_asm); (case k6 => k_is); (case k7 => k_is); (case k8 => ktr_room); (case k9 => exact BindsTo.of_eq rfl); (case kB => exact rfl); (case kD => decide +kernel); (case c2 => exact rfl); (case c3 => exact rfl); (case c4 => exact rfl); k_whole)
  intro g L' h₁ tk₁ cells hg F' N' Y' B' X' T'
  clear B X T
  (try dsimp only)
  k_fold
  have hend := fun v h' L'' m'' tk (F' : Fr g L'' h' m'') (hv : v = Value.bool (takesF ps y)) => fn_end (tk := tk) (v := v) (new := []) hret hg F' News.nil ⟨rfl, hv⟩
  have hl : g.IsList lp vs.toArray := by obtain ⟨o, ho, r⟩ := hpre; exact ⟨o, hg _ _ ho, r⟩
  k_cells Y'
  k_steps
  try unfold Stop
  rename Fr _ _ _ _ => lF'
  rename News _ _ _ _ => lN'
  with_unfolding_all refine' For_invVF lF' ?k1 ?k2 ?_
  case k1 => exact rfl
  case k2 => exact rfl
  k_steps
  try unfold Stop
  refine' iter_takes (y := y) (ps := ps) (r := true :: List.replicate y.length false) (c1 := L' + 1 + 1 + 1) (c2 := L' + 1 + 1) (c3 := L' + 1) hl hps rfl (by k_asm) (by k_asm) (by k_mem) (by simp [boolVals]) (by k_mem) (by k_mem) (by k_mem) (by with_unfolding_all assumption) (by with_unfolding_all assumption) (by simp) (by refine ⟨?_, ?_, ?_⟩ <;> (show @Ne Nat _ _; omega)) ?_ ?_ ?_
  case refine'_1 =>
    clear lF'
    intro rest D os o2 r' n v h tk I it hD0 e1 e2 hr hR F' N' hne
    k_steps
    unfold Stop
    refine' comp_myR (fun _ => true) (fun i v => v = Value.bool ((r'.take (i + 1)).contains true)) (by k_asm) (by k_asm) ?k1 ?k2 ?k3 ?k4 ?k5 ?k6 ?k7 ?_
    case k1 => with_unfolding_all rfl
    case k2 => with_unfolding_all rfl
    case k3 => decide
    case k4 => with_unfolding_all rfl
    case k5 => decide
    case k6 => with_unfolding_all rfl
    case k7 => intro _; with_unfolding_all rfl
    k_steps
    all_goals (try first
      | (with_unfolding_all assumption)
      | exact ⟨_, _, rfl, fun _ _ e => e⟩
      | exact ⟨_, _, rfl, by assumption⟩)
    rename AllNe _ _ => hNe
    simp only [AllNe, and_true] at hNe
    try unfold Stop
    k_steps
    try unfold Stop
    exact takes_close (by k_asm) (by k_asm) (by k_mem) (by k_mem) (by k_mem) (by k_mem) (by k_mem) (star_vals hr (by assumption)) e1 (by assumption) (by rw [stepStar_len]; exact hr) hR (by intro z hz; simp [hz]) (by omega) (by omega)
  case refine'_2 =>
    clear lF'
    intro rest x t D os o2 r' n v h tk I it hD0 e1 e2 hr hR F' N' hne
    k_steps
    · have hsg : signOf x = "[" := by simp [signOf, *]
      unfold Stop
      refine' comp_myR (fun _ => true) (fun i v => v = Value.bool (r'.getD i false && (signAt y i == "["))) (by k_asm) (by k_asm) ?k1 ?k2 ?k3 ?k4 ?k5 ?k6 ?k7 ?_
      case k1 => with_unfolding_all rfl
      case k2 => with_unfolding_all rfl
      case k3 => decide
      case k4 => with_unfolding_all rfl
      case k5 => decide
      case k6 => with_unfolding_all rfl
      case k7 => intro _; with_unfolding_all rfl
      k_steps
      all_goals (try first
        | (with_unfolding_all assumption)
        | exact ⟨_, _, rfl, fun _ _ e => e⟩
        | exact ⟨_, _, rfl, by assumption⟩
        | exact and_val (by assumption)
        | exact and_no (by assumption))
      rename Paired _ _ _ => hP
      have hys := sign_vals hP
      subst hys
      rename AllNe _ _ => hNe
      simp only [AllNe, and_true] at hNe
      try unfold Stop
      k_steps
      try unfold Stop
      exact takes_close (by k_asm) (by k_asm) (by k_mem) (by k_mem) (by k_mem) (by k_mem) (by k_mem) sign_out (by assumption) (by assumption) (stepSign_len _ _ _) (hsg ▸ hR) (by intro z hz; simp [hz]) (by omega) (by omega)
    · have hsg : signOf x = x := by simp [signOf, *]
      unfold Stop
      refine' comp_myR (fun _ => true) (fun i v => v = Value.bool (r'.getD i false && (signAt y i == x))) (by k_asm) (by k_asm) ?k1 ?k2 ?k3 ?k4 ?k5 ?k6 ?k7 ?_
      case k1 => with_unfolding_all rfl
      case k2 => with_unfolding_all rfl
      case k3 => decide
      case k4 => with_unfolding_all rfl
      case k5 => decide
      case k6 => with_unfolding_all rfl
      case k7 => intro _; with_unfolding_all rfl
      k_steps
      all_goals (try first
        | (with_unfolding_all assumption)
        | exact ⟨_, _, rfl, fun _ _ e => e⟩
        | exact ⟨_, _, rfl, by assumption⟩
        | exact and_val (by assumption)
        | exact and_no (by assumption))
      rename Paired _ _ _ => hP
      have hys := sign_vals hP
      subst hys
      rename AllNe _ _ => hNe
      simp only [AllNe, and_true] at hNe
      try unfold Stop
      k_steps
      try unfold Stop
      exact takes_close (by k_asm) (by k_asm) (by k_mem) (by k_mem) (by k_mem) (by k_mem) (by k_mem) sign_out (by assumption) (by assumption) (stepSign_len _ _ _) (hsg ▸ hR) (by intro z hz; simp [hz]) (by omega) (by omega)
  case refine'_3 => 
    clear lF'
    rintro D os o2 n v h tk e1 e2 hr - ⟨m₁, F', hm⟩ N'
    k_steps
    exact hend _ _ _ _ _ (by assumption) rfl
end Mine
end

section
open PySem PySem.W PySem.W.X PySem.W.XRun PySem.Spec PySem.Calls PyProof.Rows PySem.Builtin PySem.Builtin.Str
set_option Elab.async false
set_option maxRecDepth 100000
set_option maxHeartbeats 4000000
namespace Mine
noncomputable def StrEnd (s : Shared) (Q : Value → Shared → Prop) (x : Str) : Prop := ∀ t' h' k, (∀ b o, s.heap.get? b = some o → h'.get? b = some o) → Q (.str x t') { s with heap := h', toks := k }
theorem x_str_end {s : Shared} {Q : Value → Shared → Prop} {x y : Str} {h : Heap} {news : Led} {t' k : Nat} (H : StrEnd s Q x) (D : Mem s.heap h [] news) (e : y = x) : Q (.str y t') { s with heap := h, toks := k } := by
  subst e
  exact H t' h k fun b o q => D.keep b o q (by simp [away])
local macro_rules | `(tactic| x_close) => `(tactic| (refine x_str_end (by assumption) (by assumption) ?_; kernel_rfl))
theorem sub_b {w : World} {dp un : Nat} {gd : Option (List Code)} {fr : Option (List Env)} {s : Shared} {t : Tok} {f : Addr} {fd : FuncData} {dd : Option Addr} {sl : Array (Option Value)} {Q E : Value → Shared → Prop} (KX : (Mine.hd.heap_39 w.params).In s.heap) (hf : s.heap.get? f = some { cls := .type "function", dict := dd, data := .func fd, slots := sl }) (H : StrEnd s Q (Str.ofString "[")) : wpAny (model PR w) { handled := none, depth := dp, frames := fr, guards := gd, units := un } (call (.builtin "re.Pattern.sub") [.ref 43, .ref f, .str (Str.ofString "[") t]) Q E s := by
  have hfill : (PySem.Challenge.rw_ij0083_01.row.prog = PySem.Challenge.rw_ij0083_01.row.prog) ∧ (Mine.hd.heap_39 = Mine.hd.heap_39) := by k_fill; exact ⟨rfl, rfl⟩
  clear hfill
  x_run

/-- the map of special signs holds neither letter -/
noncomputable def o45 (P : Params) : Obj := ((Mine.hd.heap_39 P).lookup 45).getD default
noncomputable def es45 (P : Params) : Array DictEntry := match (o45 P).data with
  | .dict es _ => es
  | _ => #[]
noncomputable def ep45 (P : Params) : Nat := match (o45 P).data with
  | .dict _ n => n
  | _ => 0
noncomputable def okInt (e : DictEntry) : Bool := match e.key with
  | .int i _ => e.hash == hashInt i
  | _ => false
theorem esc_map {w : World} {s : Shared} (KX : (Mine.hd.heap_39 w.params).In s.heap) : s.heap.MapOf (intKind PR w) 45 (fun k => findBy Value.isInt (es45 w.params) k) := by
  have h1 : (Mine.hd.heap_39 w.params).lookup 45 = some (o45 w.params) := by kernel_rfl
  have h2 : (o45 w.params).cls = .type "dict" := by kernel_rfl
  have h3 : (o45 w.params).dict = none := by kernel_rfl
  have h4 : (o45 w.params).slots = #[] := by kernel_rfl
  have h5 : (o45 w.params).data = .dict (es45 w.params) (ep45 w.params) := by kernel_rfl
  have h6 : ((es45 w.params).toList.all okInt) = true := by kernel_rfl
  refine ⟨_, es45 w.params, ep45 w.params, KX _ _ h1, ⟨h2, h3, h4⟩, h5, fun e he => ?_, fun _ => rfl⟩
  have := List.all_eq_true.mp h6 e (by simpa using he)
  unfold okInt at this
  split at this
  · rename_i i t hk
    exact ⟨i, by rw [hk]; simp [intKind, Value.isInt], beq_iff_eq.mp this⟩
  · cases this
theorem esc_a (P : Params) : findBy Value.isInt (es45 P) ((97 : Nat) : Int) = none := by kernel_rfl
theorem esc_b (P : Params) : findBy Value.isInt (es45 P) ((98 : Nat) : Int) = none := by kernel_rfl
theorem look_keep {w : World} {A : Around} {s : Shared} {Q : Builtin.Str.Mapped → Shared → Prop} {E : Value → Shared → Prop} {c : Nat} (KX : (Mine.hd.heap_39 w.params).In s.heap) (hh : A.handled = none) (hc : findBy Value.isInt (es45 w.params) (c : Int) = none)
    (h : ∀ h' k, (∀ b o, s.heap.get? b = some o → h'.get? b = some o) → Q .keep { s with heap := h', toks := k }) : wpAny (model PR w) A (Builtin.Str.tableLookup (.ref 45) c) Q E s := by
  unfold Builtin.Str.tableLookup
  refine wpAny_bind (wpAny_attempt ?_)
  refine wpAny_bind (wpAny_mkInt ?_)
  refine wpAny_getItem_missing_of (knd := intKind PR w) (k := (c : Int)) (by simp [intKind, Value.isInt]) (by decide) hh (esc_map KX) hc fun h' e x => ?_
  obtain ⟨ob, tt, he, hcl, _⟩ := x.there
  dsimp only
  refine wpAny_bind (wpAny_isInstance (T := "KeyError") (U := "LookupError") (b := true) ⟨ob, he, hcl⟩ (by kernel_rfl) ?_)
  refine wpAny_ite_true (by decide) ?_
  exact wpAny_bind (wpAny_rule (wpAny_pure (h _ _ x.keeps)))
theorem translate_one {w : World} {A : Around} {s : Shared} {Q E : Value → Shared → Prop} {c : Nat} {t : Tok} (KX : (Mine.hd.heap_39 w.params).In s.heap) (hh : A.handled = none) (hc : findBy Value.isInt (es45 w.params) (c : Int) = none) (hs : c < 128)
    (h : StrEnd s Q ⟨#[c]⟩) : wpAny (model PR w) A (call (.builtin "str.translate") [.str ⟨#[c]⟩ t, .ref 45]) Q E s := by
  refine wpAny_call (codeAny_call_builtin F.slot_str_translate.plain F.entry_str_translate (F.slot_str_translate.check _ _ _ _ _ _ _ _ (by first | exact rfl | exact trivial | constructor) (F.args_str_translate_2 _ _) ?_))
  unfold Builtin.«str.translate»
  have e1 : strOneArg "translate" ⟨[Value.str ⟨#[c]⟩ t, .ref 45], []⟩ = pure (Value.str ⟨#[c]⟩ t, ⟨#[c]⟩, .ref 45) := rfl
  rw [e1]
  simp only [pure_bind]
  have e2 : (Str.length ⟨#[c]⟩ == 0) = false := rfl
  have e3 : (Array.all #[c] (fun x => decide (x < 128))) = true := by simp [hs]
  have e4 : tooLong 0 = false := rfl
  have e5 : tooLong 1 = false := rfl
  simp only [e2, e3]
  simp [forIn, ForIn.forIn, List.lookup]
  refine wpAny_bind (wpAny_ite_false e4 (wpAny_bind (look_keep KX hh hc fun h' k keep => ?_)))
  refine wpAny_pure ?_
  refine wpAny_bind (wpAny_pure ?_)
  refine wpAny_ite_false e5 ?_
  refine wpAny_bind (wpAny_mkStr (wpAny_pure ?_) (show (1 : Nat) ≤ sizeLine by decide))
  exact h _ _ _ keep
end Mine
end

section
open PySem PySem.W PySem.Spec PySem.Calls PyProof.Rows PySem.Builtin PySem.Builtin.Str
set_option Elab.async false
set_option maxRecDepth 100000
set_option maxHeartbeats 4000000
namespace Mine
theorem meth_translate {M : Model} {A : Around} {E : Value → Shared → Prop} {s : Shared} {x : Str} {t : Tok} {pl : Sem Bool} {Q : Value × List Value → Shared → Prop} (h : Q (.builtin "str.translate", [.str x t]) s) : wpAny M A (getMethod (.str x t) (Str.ofString "translate") pl) Q E s :=
  by with_reducible exact GM.of (.str x t) (typeIs_str _ _ _) F.slot_str_translate F.type_str_translate GM.noRef h
theorem esc_ok (w : World) (p : Program) (loose : List Str) (mean : ExcName → Option Value) (mg mb : Str → Option Value) (c : Nat) (t : Tok) (hc : findBy Value.isInt (es45 w.params) (c : Int) = none) (h128 : c < 128) :
    FnOk w p loose mean mg mb 55 [.str ⟨#[c]⟩ t] (fun _ => True) (fun v new => new = [] ∧ ∃ t', v = .str ⟨#[c]⟩ t') := by
  k_with_none
  k_with "getMethod str" => (k_here; (with_reducible show wpAny _ _ (getMethod (Value.str _ _) (Str.ofString "translate") _) _ _ _); refine meth_translate ?_)
  k_with "call builtin:str.translate" => (k_here; refine translate_one (c := _) (Frag.In.keeps (by assumption) (Fr.keep (by assumption))) rfl (by assumption) (by assumption) ?_)
  have hfill : (PySem.Challenge.rw_ij0083_01.row.prog = PySem.Challenge.rw_ij0083_01.row.prog) ∧ (Mine.hd.heap_39 = Mine.hd.heap_39) := by k_fill; exact ⟨rfl, rfl⟩
  clear hfill
  intro dp un gd cn cs f ccd cl outer A₀ base h₀ L m s Q E B F X T hk hd hu _ hret
  k_dflt (refine' fn_enter ?k1 ?k2 ?k4 ?k5 ?kA ?kF ?kK ?k6 ?k7 ?k8 ?k9 ?kB ?_ ?c5 ?c2 ?c3 ?c4; (case kA => exact rfl); (case kF => exact rfl); (case kK => assumption); (case k1 => k_asm); (case k2 => k_asm); (case k4 => k_asm); (case k5 => k_asm); (case k6 => k_is); (case k7 => k_is); (case k8 => ktr_room); (case k9 => exact BindsTo.of_eq rfl); (case c5 => decide); (case kB => exact locs rfl); (case c2 => exact rfl); (case c3 => exact rfl); (case c4 => exact rfl); k_whole)
  intro g L' h₁ hg F' N' B' X' T'
  clear B X T
  (try dsimp only)
  k_fold
  have hend := fun v h' L'' m'' tk (F' : Fr g L'' h' m'') (hv : ∃ t', v = Value.str ⟨#[c]⟩ t') => fn_end (tk := tk) (v := v) (new := []) hret hg F' News.nil ⟨rfl, hv⟩
  clear F hret hg
  k_steps
  rename Fr _ _ _ _ => F2
  intro t' h' k keep
  exact hend _ _ _ _ _ (F2.keeps keep) ⟨t', rfl⟩
end Mine
end

section
open PySem PySem.W PySem.W.X PySem.W.XRun PySem.Spec PySem.Calls PyProof.Rows PySem.Builtin PySem.Builtin.Str
set_option Elab.async false
set_option maxRecDepth 100000
set_option maxHeartbeats 4000000
namespace Mine
noncomputable def bObj (l : Addr) : Obj := ⟨.type "builtin_function_or_method", none, .fields #[.builtin "list.append", .ref l], #[]⟩
noncomputable def BoundEnd (s : Shared) (Q : Value → Shared → Prop) (l : Addr) : Prop := ∀ (b : Addr) h' k, (∀ b o, s.heap.get? b = some o → h'.get? b = some o) → h'.get? b = some (bObj l) → s.heap.get? b = none → Q (.ref b) { s with heap := h', toks := k }
theorem x_b_end {s : Shared} {Q : Value → Shared → Prop} {l b : Addr} {h : Heap} {o : Obj} {news : Led} {k : Nat} (H : BoundEnd s Q l) (D : Mem s.heap h [] ((b, o) :: news)) (e : o = bObj l) : Q (.ref b) { s with heap := h, toks := k } := by
  subst e
  refine H b h k (fun b o q => D.keep b o q (by simp [away])) (D.nw _ (.head _)).1 ?_
  exact (D.nw _ (.head _)).2
local macro_rules | `(tactic| x_close) => `(tactic| (refine x_b_end (by assumption) (by assumption) ?_; with_unfolding_all rfl))
theorem ga_append {w : World} {dp un : Nat} {gd : Option (List Code)} {fr : Option (List Env)} {s : Shared} {l : Addr} {t : Tok} {Q E : Value → Shared → Prop} (KX : (Mine.hd.heap_39 w.params).In s.heap) (hf : s.heap.get? l = some { cls := .type "list", dict := none, data := .seq #[] 0, slots := #[] }) (H : BoundEnd s Q l) : wpAny (model PR w) { handled := none, depth := dp, frames := fr, guards := gd, units := un } (call (.builtin "list.__getattribute__") [.ref l, .str (Str.ofString "append") t]) Q E s := by
  have hfill : (PySem.Challenge.rw_ij0083_01.row.prog = PySem.Challenge.rw_ij0083_01.row.prog) ∧ (Mine.hd.heap_39 = Mine.hd.heap_39) := by k_fill; exact ⟨rfl, rfl⟩
  clear hfill
  x_run
theorem attr_append {w : World} {dp un : Nat} {gd : Option (List Code)} {fr : Option (List Env)} {s : Shared} {l : Addr} {Q E : Value → Shared → Prop} (KX : (Mine.hd.heap_39 w.params).In s.heap) (hf : s.heap.get? l = some { cls := .type "list", dict := none, data := .seq #[] 0, slots := #[] }) (H : BoundEnd s Q l) : wpAny (model PR w) { handled := none, depth := dp, frames := fr, guards := gd, units := un } (getAttr (.ref l) "append" true) Q E s := by
  obtain ⟨hp, g, d, tk, os⟩ := s
  have hT : ∀ tk', (⟨hp, g, d, tk', os⟩ : Shared).TypeIs (.ref l) "list" := fun _ => ⟨_, hf, rfl⟩
  have f3 := F.slot_list_getattribute.lookup
  have f4 := F.slot_list_getattribute.bind (.ref l)
  have f5 := am_list_getattr_none
  unfold getAttr getAttrBy
  repeat (any_goals (first | assumption | exact hT _ | ((with_reducible show wpAny _ _ (call (Value.builtin "list.__getattribute__") _ _) _ _ _); refine stop_of ?_) | wp_step))
  unfold Stop
  refine ga_append KX hf fun b h' k keep hb hn => ?_
  exact wpAny_pure (H b h' k keep hb hn)

noncomputable def sgA := (PySem.W.S.signatureZ "list.append").get (by kernel_rfl)
theorem sgA_eq : Manifest.signature? "list.append" = some sgA := by rw [PySem.W.S.signatureZ_eq]; kernel_rfl
theorem kdA_eq : builtinKind "list.append" = some .method := by unfold builtinKind; rw [PySem.W.S.findZ_eq]; kernel_rfl
theorem check_append {M : Model} {A : Around} {s : Shared} {l : Addr} {v : Value} {o : Obj} {Q : Unit → Shared → Prop} {E : Value → Shared → Prop} (hl : s.heap.get? l = some o) (hc : o.cls = .type "list") {a : Array Value} {n : Nat} (hd : o.data = .seq a n) (h : Q () s) : wpAny M A (checkBoundCall "list.append" ⟨[.ref l, v], []⟩) Q E s := by
  unfold checkBoundCall
  simp only [sgA_eq, kdA_eq]
  refine wpAny_ite_false (by kernel_rfl) ?_
  refine wpAny_bind (wpAny_isInstance (T := "list") (U := "module") (b := false) ⟨o, hl, hc⟩ (by kernel_rfl) ?_)
  refine wpAny_ite_false (by kernel_rfl) ?_
  refine wpAny_bind (m := isType (.ref l)) ?_
  unfold isType loadHead
  refine wpAny_bind (wpAny_loadPart hl ?_)
  rw [hd]
  refine wpAny_pure ?_
  refine wpAny_ite_false (by kernel_rfl) ?_
  refine wpAny_bind (wpAny_typeOf (T := "list") ⟨o, hl, hc⟩ ?_)
  exact wpAny_of_eq (a := ()) (by kernel_rfl) h
theorem call_bound {prog : Program} {w : World} {A : Around} {s : Shared} {h₀ : Heap} {L l b : Addr} {m : Str → Option Value} {news news' : Led} {v : Value} {its : Array Value} {n : Nat} {Q E : Value → Shared → Prop} (F : Fr h₀ L s.heap m) (N : News h₀ L s.heap news) (hb : (b, bObj l) ∈ news) (U : Upd l (listOf its n) (listOf (its.push v) (n + 1)) news news')
   (h : ∀ h', Fr h₀ L h' m → News h₀ L h' news' → Q .none { s with heap := h' }) (hsz : its.size ≤ sizeLine) : wpAny (model prog w) A (call (.ref b) [v]) Q E s := by
  obtain ⟨pre, post, rfl, rfl, h1, h2⟩ := U.split
  have z := N (l, listOf its n) (List.mem_append.mpr (.inr (.head _)))
  have hl := z.1
  refine wpAny_call (codeAny_of_tree ?_)
  show wpAny _ A.in1 (callAny (.ref b) ⟨[v], []⟩) _ _ s
  simp only [callAny]
  refine wpAny_bind (wpAny_load (N _ hb).1 ?_)
  simp only [bObj, show (Value.type "builtin_function_or_method" == Value.type "method" || Value.type "builtin_function_or_method" == Value.type "builtin_function_or_method" || Value.type "builtin_function_or_method" == Value.type "method-wrapper") = true by decide, if_true]
  refine wpAny_ite_true (by kernel_rfl) ?_
  refine wpAny_bind (check_append hl rfl rfl ?_)
  refine wpAny_bind (wpAny_pure (wpAny_pure ?_))
  refine ⟨Code.quiet_builtin _ (by decide +kernel), codeAny_builtin entry_list_append ?_⟩
  show wpAny _ _ (updateSeq l (·.push v) >>= fun _ => ret .none) _ _ s
  refine wpAny_bind ?_
  refine wpAny_updateSeq hl rfl (wpAny_pure ?_) hsz
  have hs : Heap.SameBut l s.heap (s.heap.update l (Obj.mapSeq fun x => x.push v)) := Heap.SameBut.update ..
  refine h _ (F.change hs z.2.1 z.2.2) (news_set N h1 h2 hs ?_)
  rw [Heap.get?_update_self _ hl (by unfold W.listOf; rw [mapSeq_push]; rfl)]
  unfold W.listOf; rw [mapSeq_push]
theorem callWith_bObj0 {M : Model} {A : Around} {s : Shared} {l u : Addr} {pos : Pos} {args : List (Bool × Sem Value)} {Q E : Value → Shared → Prop} (hp : args.any (·.1) = false)
    (h : wpAny M A (evalArgs (.ref u) true args []) (fun x s₁ => s₁.heap.get? u = some (bObj l) ∧ wpAny M A (call (.ref u) x.pos x.kw) Q E s₁) E s) : wpAny M A (callWith pos (.ref u) [] args []) Q E s := by
  unfold callWith
  refine wpAny_bind (wpAny_holding (wpAny_mono h (fun x s₁ h₁ => wpAny_bind (wpAny_standAt ?_)) fun _ _ x => x))
  obtain ⟨ho, hcall⟩ := h₁
  simp only [hp, List.any_nil, Bool.or_false]
  refine wpAny_bind (m := keeperOf (.ref u)) ?_
  unfold keeperOf
  refine wpAny_bind (wpAny_load ho ?_)
  simp only [bObj, show (Value.type "builtin_function_or_method" != Value.type "method") = true by decide, show (Value.type "builtin_function_or_method" == Value.type "builtin_function_or_method" || Value.type "builtin_function_or_method" == Value.type "method-wrapper") = true by decide, if_true]
  refine wpAny_pure ?_
  exact wpAny_bind (wpAny_mono hcall (fun r s₂ hr => wpAny_bind (wpAny_holding (wpAny_point (wpAny_pure hr)))) fun _ _ x => x)
theorem callWith_bObj {M : Model} {A : Around} {s : Shared} {l u : Addr} {pos : Pos} {env : Env} {e : Expr} {Q E : Value → Shared → Prop}
    (h : wpAny M A (spliced (backTo pos (starEach [e] env))) (fun vs s₁ => s₁.heap.get? u = some (bObj l) ∧ wpAny M A (call (.ref u) vs) Q E s₁) E s)
    (he : starEach [e] env = [(false, eval e env)] := by rfl) :
    wpAny M A (callWith pos (.ref u) [] (backTo pos (starEach [e] env)) []) Q E s := by
  rw [he] at h ⊢
  refine callWith_bObj0 (l := l) rfl ?_
  exact evalArgs_plain h
end Mine
end

section
open PySem PySem.W PySem.Spec PySem.Calls PyProof.Rows PySem.Builtin PySem.Builtin.Str
set_option Elab.async false
set_option maxRecDepth 100000
namespace Mine
noncomputable def enc (c : Nat) : List Nat := if c = 91 then [91, 91, 93] else [c]
noncomputable def encS (S : List Nat) : List Nat := S.flatMap enc
noncomputable def patStr (S : List Nat) : Str := ⟨(encS S).toArray⟩
noncomputable def partsGo : Bool → List Nat → List (Option Str)
  | _, [] => []
  | b, c :: r => if c = 42 then (if b then partsGo true r else none :: partsGo true r) else if c = 91 then some "[\\[]" :: partsGo false r else some ⟨#[c]⟩ :: partsGo false r
/-- the parts of P, told from behind -/
noncomputable def isStar : List Value → Bool := fun vs => match vs.getLast? with
  | some .none => true
  | _ => false
noncomputable def Sign (c : Nat) : Prop := c = 97 ∨ c = 98 ∨ c = 91 ∨ c = 42

end Mine
end

section
open PySem PySem.W PySem.Spec PySem.Calls PyProof.Rows PySem.Builtin PySem.Builtin.Str
set_option Elab.async false
set_option maxRecDepth 100000
set_option maxHeartbeats 40000000
namespace Mine
noncomputable def names4 : List Str := ["i", "c", "j", "stuff"]
noncomputable def fr4 (m₀ : Str → Option Value) (i : Int) (ti : Tok) (vc vj vs : Option Value) : Str → Option Value := fun z => if z = "i" then some (.int i ti) else if z = "c" then vc else if z = "j" then vj else if z = "stuff" then vs else m₀ z
/-- the table of _translate's code: empty, or the lambda's code stands in it -/
noncomputable def TabGood (ps : Array Value) : Prop := ps = #[] ∨ ∃ c', ps = #[rawInt (88 : Nat), rawInt (39 : Nat), .ref c']
section
variable {prog : Program} {w : World} {A : Around} {E : Value → Shared → Prop} {Q : Flow → Shared → Prop} {s : Shared} {env : Env} {h₀ : Heap} {L : Addr}
noncomputable def TrJ (S : List Nat) (b D : Addr) (m₀ : Str → Option Value) (n : Nat) (m : Str → Option Value) (nx : Led) : Prop :=
  ∃ (P R : List Nat) (vs : List Value) (ps : List (Option Str)) (cnt : Nat) (ti : Tok) (tb : Array Value), S = P ++ R ∧ R.length = n ∧ nx = [(b, bObj D), (D, W.listOf vs.toArray cnt), (57, W.tabObj tb)] ∧ TabGood tb ∧ vs.length ≤ P.length ∧ PartVals vs ps ∧
    partsGo false S = ps ++ partsGo (isStar vs) R ∧ m "i" = some (.int ((encS P).length : Int) ti) ∧ ∀ z : Str, z ∉ names4 → m z = m₀ z

noncomputable def Fin4 (S : List Nat) (b D : Addr) (m₀ : Str → Option Value) (n : Nat) (Q : Flow → Shared → Prop) (s : Shared) (h₀ : Heap) (L : Addr) (i' : Int) (ok : List Value → Prop) : Prop :=
  ∀ tk' h' m' vs' cnt' ti' tb', ok vs' → TabGood tb' → Fr h₀ L h' m' → News h₀ L h' [(b, bObj D), (D, W.listOf vs'.toArray cnt'), (57, W.tabObj tb')] → m' "i" = some (.int i' ti') → (∀ z : Str, z ∉ names4 → m' z = m₀ z) → WhileStep2 h₀ L s (TrJ S b D m₀) Q n .next { s with heap := h', toks := tk' }
noncomputable def Turn4 (prog : Program) (w : World) (A : Around) (E : Value → Shared → Prop) (env : Env) (test : Expr) (body : List Stmt) (S : List Nat) (b D : Addr) (m₀ : Str → Option Value) (Q : Flow → Shared → Prop) (s : Shared) (h₀ : Heap) (L : Addr) (vs : List Value) (i i' : Int) (ok : List Value → Prop) : Prop :=
  ∀ n cnt ti vc vj vf h tk tb, TabGood tb → Fin4 S b D m₀ n Q s h₀ L i' ok → Fr h₀ L h (fr4 m₀ i ti vc vj vf) → News h₀ L h [(b, bObj D), (D, W.listOf vs.toArray cnt), (57, W.tabObj tb)] →
    wpAny (model prog w) A (isTrue test env (eval test env)) (fun bb s₂ =>
        if bb = true then wpAny (model prog w) A (execs body env) (WhileStep2 h₀ L s (TrJ S b D m₀) Q n) E s₂ else Q .next s₂) E { s with heap := h, toks := tk }
theorem fin4_of {S : List Nat} {b D : Addr} {m₀ : Str → Option Value} {n : Nat} {i' : Int} {ok : List Value → Prop} {tk' : Nat} {h' : Heap} {m' : Str → Option Value} {vs' : List Value} {cnt' : Nat} {ti' : Tok} {tb' : Array Value} {news : Led} (hfin : Fin4 S b D m₀ n Q s h₀ L i' ok) (hok : ok vs') (ht : TabGood tb') (F : Fr h₀ L h' m') (N : News h₀ L h' news)
    (h1 : (b, bObj D) ∈ news) (h2 : (D, W.listOf vs'.toArray cnt') ∈ news) (h3 : (57, W.tabObj tb') ∈ news) (hi : m' "i" = some (.int i' ti')) (hm : ∀ z : Str, z ∉ names4 → m' z = m₀ z) : WhileStep2 h₀ L s (TrJ S b D m₀) Q n .next { s with heap := h', toks := tk' } :=
  hfin tk' h' m' vs' cnt' ti' tb' hok ht F (fun p hp => N p (by
    simp only [List.mem_cons, List.not_mem_nil, or_false] at hp
    rcases hp with rfl | rfl | rfl <;> assumption)) hi hm
theorem isStar_str (vs : List Value) (x : Str) (t : Tok) : isStar (vs ++ [.str x t]) = false := by simp [isStar]
theorem isStar_none (vs : List Value) : isStar (vs ++ [.none]) = true := by simp [isStar]
theorem encS_len (P R : List Nat) : (encS (P ++ R)).length = (encS P).length + (encS R).length := by simp [encS]
theorem encS_one (c : Nat) (h : c ≠ 91) : encS [c] = [c] := by simp [encS, enc, h]
theorem encS_br : encS [91] = [91, 91, 93] := by simp [encS, enc]
theorem partVals_none {vs : List Value} {ps : List (Option Str)} (h : PartVals vs ps) : PartVals (vs ++ [.none]) (ps ++ [none]) := by
  refine ⟨by simp [h.1], fun i => ?_⟩
  by_cases hi : i < ps.length
  · rw [List.getElem?_append_left hi, List.getElem?_append_left (h.1 ▸ hi)]; exact h.2 i
  · rw [List.getElem?_append_right (by omega), List.getElem?_append_right (by rw [h.1]; omega), h.1]
    by_cases h0 : i - ps.length = 0
    · rw [h0]; exact ⟨fun _ => rfl, fun x e => by cases e⟩
    · rw [List.getElem?_eq_none (by simp; omega)]; exact ⟨fun e => (by cases e), fun x e => (by cases e)⟩
theorem partVals_str {vs : List Value} {ps : List (Option Str)} {y : Str} {t : Tok} (h : PartVals vs ps) : PartVals (vs ++ [.str y t]) (ps ++ [some y]) := by
  refine ⟨by simp [h.1], fun i => ?_⟩
  by_cases hi : i < ps.length
  · rw [List.getElem?_append_left hi, List.getElem?_append_left (h.1 ▸ hi)]; exact h.2 i
  · rw [List.getElem?_append_right (by omega), List.getElem?_append_right (by rw [h.1]; omega), h.1]
    by_cases h0 : i - ps.length = 0
    · rw [h0]; exact ⟨fun e => (by cases e), fun x e => (by cases e; exact ⟨t, rfl⟩)⟩
    · rw [List.getElem?_eq_none (by simp; omega)]; exact ⟨fun e => (by cases e), fun x e => (by cases e)⟩
theorem pat_item {P R : List Nat} {c d : Nat} (k : Nat) (h : (enc c)[k]? = some d) : Txt.item (patStr (P ++ c :: R)) (((encS P).length + k : Nat) : Int) = ⟨#[d]⟩ := by
  have hk : k < (enc c).length := (List.getElem?_eq_some_iff.mp h).1
  have e : (encS (P ++ c :: R))[(encS P).length + k]? = some d := by
    have : encS (P ++ c :: R) = encS P ++ (enc c ++ encS R) := by simp [encS]
    rw [this, List.getElem?_append_right (by omega), Nat.add_sub_cancel_left, List.getElem?_append_left hk, h]
  have hlt : (encS P).length + k < (encS (P ++ c :: R)).length := (List.getElem?_eq_some_iff.mp e).1
  unfold Txt.item Txt.charAt patStr seqIndex?
  have h1 : ¬ ((((encS P).length + k : Nat) : Int) < 0) := by omega
  have h2 : (decide (0 ≤ (((encS P).length + k : Nat) : Int)) && decide ((((encS P).length + k : Nat) : Int) < ((Str.length ⟨(encS (P ++ c :: R)).toArray⟩ : Nat) : Int))) = true := by simp [Str.length]; omega
  simp only [if_neg h1, h2, if_true, Option.bind_some, Int.toNat_natCast]
  simp [e]
theorem pat_slice {P R : List Nat} {i j : Int} (hi : i = ((encS P).length : Int) + 1) (hj : j = ((encS P).length : Int) + 2) : Txt.slice (patStr (P ++ 91 :: R)) (some i) (some j) = "[" := by
  have e : encS (P ++ 91 :: R) = encS P ++ (91 :: 91 :: 93 :: encS R) := by simp [encS, enc]
  have hlen : (encS (P ++ 91 :: R)).length = (encS P).length + (3 + (encS R).length) := by rw [e]; simp; omega
  have ei : i = (((encS P).length + 1 : Nat) : Int) := by omega
  have ej : j = (((encS P).length + 2 : Nat) : Int) := by omega
  rw [ei, ej]
  refine (StrLaws.sliceText_nat (patStr (P ++ 91 :: R)) (by omega) (by simp [patStr, Str.length]; omega)).trans ?_
  have : ((patStr (P ++ 91 :: R)).cps.toList.drop ((encS P).length + 1)).take ((encS P).length + 2 - ((encS P).length + 1)) = [91] := by
    show ((encS (P ++ 91 :: R)).drop ((encS P).length + 1)).take _ = [91]
    rw [e, show (encS P).length + 2 - ((encS P).length + 1) = 1 by omega, List.drop_append, List.drop_eq_nil_of_le (by omega), show (encS P).length + 1 - (encS P).length = 1 by omega]
    rfl
  rw [this]
  decide
theorem encS_le : ∀ S : List Nat, (encS S).length ≤ 3 * S.length
  | [] => by simp [encS]
  | c :: r => by
    have := encS_le r
    have h1 : (enc c).length ≤ 3 := by unfold enc; split <;> simp
    have h2 : encS (c :: r) = enc c ++ encS r := by simp [encS]
    rw [h2, List.length_append, List.length_cons]; omega
theorem fr4_eq {m m₀ : Str → Option Value} {i : Int} {ti : Tok} (hi : m "i" = some (.int i ti)) (hm : ∀ z : Str, z ∉ names4 → m z = m₀ z) : m = fr4 m₀ i ti (m "c") (m "j") (m "stuff") := by
  funext z
  unfold fr4
  by_cases h1 : z = "i"
  · simp [h1, hi]
  by_cases h2 : z = "c"
  · subst h2; simp [h1]
  by_cases h3 : z = "j"
  · subst h3; simp [h1, h2]
  by_cases h4 : z = "stuff"
  · subst h4; simp [h1, h2, h3]
  simp only [if_neg h1, if_neg h2, if_neg h3, if_neg h4]
  exact hm z (by simp [names4, h1, h2, h3, h4])
theorem while_tok {test : Expr} {body : List Stmt} {pos : Pos} {m₀ : Str → Option Value} {b D : Addr} {S : List Nat} {t₀ : Tok} {cnt : Nat} (hS : ∀ c ∈ S, Sign c) (hl : S.length ≤ 5)
    {news : Led} (F : Fr h₀ L s.heap m₀) (N₀ : News h₀ L s.heap news) (hb₀ : (b, bObj D) ∈ news) (hD₀ : (D, W.listOf #[] cnt) ∈ news) {tb₀ : Array Value} (h57 : (57, W.tabObj tb₀) ∈ news) (htb : TabGood tb₀) (hi : m₀ "i" = some (.int 0 t₀))
    (turnL : Stop (∀ vs i (y : Str), vs.length ≤ 100 → (y = "a" ∨ y = "b") → 0 ≤ i → i + 1 ≤ ((patStr S).length : Int) → Txt.item (patStr S) i = y → Turn4 prog w A E env test body S b D m₀ Q s h₀ L vs i (i + 1) (fun vs' => ∃ t', vs' = vs ++ [.str y t'])))
    (turnA : Stop (∀ vs i, vs.length ≤ 100 → vs.getLast? = some .none → 0 ≤ i → i + 1 ≤ ((patStr S).length : Int) → Txt.item (patStr S) i = "*" → Turn4 prog w A E env test body S b D m₀ Q s h₀ L vs i (i + 1) (fun vs' => vs' = vs)))
    (turnZ : Stop (∀ i, 0 ≤ i → i + 1 ≤ ((patStr S).length : Int) → Txt.item (patStr S) i = "*" → Turn4 prog w A E env test body S b D m₀ Q s h₀ L [] i (i + 1) (fun vs' => vs' = [.none])))
    (turnX : Stop (∀ vs i x t, vs.length ≤ 100 → vs.getLast? = some (.str x t) → 0 ≤ i → i + 1 ≤ ((patStr S).length : Int) → Txt.item (patStr S) i = "*" → Turn4 prog w A E env test body S b D m₀ Q s h₀ L vs i (i + 1) (fun vs' => vs' = vs ++ [.none])))
    (turnB : Stop (∀ vs i, vs.length ≤ 100 → 0 ≤ i → i + 3 ≤ ((patStr S).length : Int) → Txt.item (patStr S) i = "[" → Txt.item (patStr S) (i + 1) = "[" → Txt.item (patStr S) (i + 1 + 1) = "]" → Txt.slice (patStr S) (some (i + 1)) (some (i + 1 + 1)) = "[" → Turn4 prog w A E env test body S b D m₀ Q s h₀ L vs i (i + 1 + 1 + 1) (fun vs' => ∃ t', vs' = vs ++ [.str "[\\[]" t'])))
    (done : ∀ vs cnt ti vc vj vf h tk tb, TabGood tb → PartVals vs (partsGo false S) → vs.length ≤ 5 → Fr h₀ L h (fr4 m₀ ((patStr S).length : Int) ti vc vj vf) → News h₀ L h [(b, bObj D), (D, W.listOf vs.toArray cnt), (57, W.tabObj tb)] →
      wpAny (model prog w) A (isTrue test env (eval test env)) (fun bb s₂ => bb = false ∧ Q .next s₂) E { s with heap := h, toks := tk })
    (hE : PassesOwn (model prog w) A env E := by passes_own) :
    wpAny (model prog w) A (exec (.While test body [] pos) env) Q E s := by
  unfold Stop at turnL turnA turnZ turnX turnB
  have N : News h₀ L s.heap [(b, bObj D), (D, W.listOf #[] cnt), (57, W.tabObj tb₀)] := fun p hp => N₀ p (by
    simp only [List.mem_cons, List.not_mem_nil, or_false] at hp
    rcases hp with rfl | rfl | rfl <;> assumption)
  refine While_inv2 (TrJ S b D m₀) F N ⟨[], S, [], [], cnt, t₀, tb₀, rfl, rfl, rfl, htb, Nat.le_refl _, ⟨rfl, fun i => ⟨fun e => by simp at e, fun x e => by simp at e⟩⟩, rfl, hi, fun _ _ => rfl⟩ ?_ hE
  rintro n m₁ news₁ h₁ tk₁ F₁ N₁ ⟨P, R, vs, ps, cnt, ti, tb, hPR, hn, rfl, htg, hvl, hpv, hpg, hmi, hmo⟩
  have hPl : P.length + R.length ≤ 5 := by rw [hPR, List.length_append] at hl; exact hl
  rw [fr4_eq hmi hmo] at F₁
  cases R with
  | nil =>
    simp only [List.append_nil] at hPR
    subst hPR
    have hps : ps = partsGo false S := by simpa [partsGo] using hpg.symm
    have hlen : ((encS S).length : Int) = ((patStr S).length : Int) := by simp [patStr, Str.length]
    rw [hlen] at F₁
    refine wpAny_mono (done vs cnt ti _ _ _ h₁ tk₁ tb htg (hps ▸ hpv) (by omega) F₁ N₁) (fun bb s₂ h => ?_) fun _ _ z => z
    obtain ⟨rfl, h⟩ := h
    rw [if_neg (by decide)]
    exact h
  | cons c R =>
    subst hn
    have hc := hS c (by rw [hPR]; simp)
    have hlen : ((patStr S).length : Int) = ((encS P).length : Int) + ((enc c).length : Int) + ((encS R).length : Int) := by
      rw [hPR]; simp [patStr, Str.length, encS, Int.add_assoc]
    have hitem : ∀ (k : Nat) d, (enc c)[k]? = some d → Txt.item (patStr S) (((encS P).length + k : Nat) : Int) = ⟨#[d]⟩ := fun k d h => by rw [hPR]; exact pat_item k h
    have hitem2 : ∀ (k : Nat) d (y : Str) (i : Int), (enc c)[k]? = some d → i = (((encS P).length + k : Nat) : Int) → (⟨#[d]⟩ : Str) = y → Txt.item (patStr S) i = y := fun k d y i h e q => by rw [e, ← q]; exact hitem k d h
    have hstep : ∀ (i' : Int) (ok : List Value → Prop), i' = ((encS (P ++ [c])).length : Int) → (∀ vs', ok vs' → vs'.length ≤ P.length + 1 ∧ ∃ ps', PartVals vs' ps' ∧ partsGo false S = ps' ++ partsGo (isStar vs') R) → Fin4 S b D m₀ (List.length (c :: R)) Q s h₀ L i' ok := by
      intro i' ok hi' hok tk' h' m' vs' cnt' ti' tb' hv htg' F' N' hmi' hmo'
      obtain ⟨g1, ps', g2, g3⟩ := hok vs' hv
      refine ⟨h', tk', m', _, R.length, rfl, F', N', by simp, P ++ [c], R, vs', ps', cnt', ti', tb', by rw [hPR]; simp, rfl, rfl, htg', by simpa using g1, g2, g3, by rw [hmi', hi'], hmo'⟩
    have hsz : (encS (P ++ [c])).length = (encS P).length + (enc c).length := by simp [encS]
    have hL : ∀ c', c = c' → (c' = 97 ∨ c' = 98) → wpAny (model prog w) A (isTrue test env (eval test env)) (fun bb s₂ =>
        if bb = true then wpAny (model prog w) A (execs body env) (WhileStep2 h₀ L s (TrJ S b D m₀) Q (c :: R).length) E s₂ else Q .next s₂) E { s with heap := h₁, toks := tk₁ } := by
      rintro c' rfl h'
      have he : enc c = [c] := by rcases h' with rfl | rfl <;> rfl
      have hy : (⟨#[c]⟩ : Str) = "a" ∨ (⟨#[c]⟩ : Str) = "b" := by rcases h' with rfl | rfl <;> decide
      refine turnL vs _ ⟨#[c]⟩ (by omega) hy (by omega) (by rw [hlen, he]; simp; omega) (by have := hitem 0 c (by rw [he]; rfl); simpa using this) _ cnt ti _ _ _ h₁ tk₁ tb htg (hstep _ _ ?_ ?_) F₁ N₁
      · rw [hsz, he]; simp
      · rintro vs' ⟨t', rfl⟩
        refine ⟨by simp; omega, _, partVals_str hpv, ?_⟩
        rw [hpg, isStar_str, partsGo]
        rcases h' with rfl | rfl <;> simp
    rcases hc with h | h | h | h
    · exact hL 97 h (.inl rfl)
    · exact hL 98 h (.inr rfl)
    · subst h
      refine turnB vs _ (by omega) (by omega) (by rw [hlen]; simp [enc]; omega) (hitem2 0 91 _ _ rfl (by simp) (by decide)) (hitem2 1 91 _ _ rfl (by simp) (by decide)) (hitem2 2 93 _ _ rfl (by simp; omega) (by decide)) (by rw [hPR]; exact pat_slice rfl (by omega)) _ cnt ti _ _ _ h₁ tk₁ tb htg (hstep _ _ ?_ ?_) F₁ N₁
      · rw [hsz]; simp [enc]; omega
      · rintro vs' ⟨t', rfl⟩
        refine ⟨by simp; omega, _, partVals_str hpv, ?_⟩
        rw [hpg, isStar_str, partsGo]
        simp
    · subst h
      have h1 : Txt.item (patStr S) ((encS P).length : Int) = "*" := hitem2 0 42 _ _ rfl (by simp) (by decide)
      have h2 : ((encS P).length : Int) + 1 ≤ ((patStr S).length : Int) := by rw [hlen]; simp [enc]; omega
      have h3 : ((encS P).length : Int) + 1 = ((encS (P ++ [42])).length : Int) := by rw [hsz]; simp [enc]
      cases hv : vs.getLast? with
      | none =>
        have : vs = [] := by simpa using hv
        subst this
        refine turnZ _ (by omega) h2 h1 _ cnt ti _ _ _ h₁ tk₁ tb htg (hstep _ _ h3 ?_) F₁ N₁
        rintro vs' rfl
        refine ⟨by simp, _, partVals_none hpv, ?_⟩
        rw [hpg, partsGo]
        simp [isStar]
      | some v =>
        have hvm : ∃ i : Nat, vs[i]? = some v := ⟨vs.length - 1, by rw [List.getLast?_eq_getElem?] at hv; exact hv⟩
        obtain ⟨i, hvi⟩ := hvm
        have hip : i < ps.length := by rw [← hpv.1]; exact (List.getElem?_eq_some_iff.mp hvi).1
        cases hp : ps[i]? with
        | none => rw [List.getElem?_eq_none_iff] at hp; omega
        | some o =>
          cases o with
          | none =>
            have e := (hpv.2 i).1 hp
            rw [hvi] at e
            obtain rfl := Option.some.inj e
            refine turnA vs _ (by omega) hv (by omega) h2 h1 _ cnt ti _ _ _ h₁ tk₁ tb htg (hstep _ _ h3 ?_) F₁ N₁
            rintro vs' rfl
            refine ⟨by omega, _, hpv, ?_⟩
            have hst : isStar vs' = true := by simp [isStar, hv]
            rw [hpg, hst, partsGo]
            simp
          | some x =>
            obtain ⟨t, e⟩ := (hpv.2 i).2 x hp
            rw [hvi] at e
            obtain rfl := Option.some.inj e
            refine turnX vs _ x t (by omega) hv (by omega) h2 h1 _ cnt ti _ _ _ h₁ tk₁ tb htg (hstep _ _ h3 ?_) F₁ N₁
            rintro vs' rfl
            refine ⟨by simp; omega, _, partVals_none hpv, ?_⟩
            have hst : isStar vs = false := by simp [isStar, hv]
            rw [hpg, hst, isStar_none, partsGo]
            simp
end

section
variable {prog : Program} {w : World} {A : Around} {E : Value → Shared → Prop} {s : Shared} {h₀ : Heap} {L : Addr} {m : Str → Option Value} {news : Led}
theorem esc_step {w : World} {p : Program} {loose : List Str} {mean : ExcName → Option Value} {mg mb : Str → Option Value} {y : Str} {t : Tok} {dp un : Nat} {gd : Option (List Code)} {cn : Str} {cs : Scope} {a : Addr} {ccd : Value} {cl : List (Str × Addr)} {outer : List Env} {A₀ : Around} {base h₀ : Heap} {L : Addr} {m : Str → Option Value} {news : Led} {s : Shared} {Q E : Value → Shared → Prop}
    (hy : y = "a" ∨ y = "b") (B : Below A₀ base outer h₀) (F : Fr h₀ L s.heap m) (N : News h₀ L s.heap news) (X : (Mine.hd.heap_39 w.params).In h₀) (T : Top p loose mean mg mb h₀) (hk : cs.kind = .function) (hd : dp + 5 < recursionLimit) (hu : un + 40 < cLine)
    (h : ∀ t' h' tk, Fr h₀ L h' m → News h₀ L h' news → Q (.str y t') { s with heap := h', toks := tk }) : wpAny (model PR w) (ktrTop dp un gd cn cs L a ccd cl outer) (call (.ref 55) [.str y t]) Q E s := by
  rcases hy with rfl | rfl
  · exact esc_ok w p loose mean mg mb 97 t (esc_a _) (by decide) dp un gd cn cs a ccd cl outer A₀ base h₀ L m s Q E B F X T hk hd hu trivial fun v new h' tk' hp G => by
      obtain ⟨rfl, t', rfl⟩ := hp
      exact h t' h' tk' (G.fr F) (G.news F N)
  · exact esc_ok w p loose mean mg mb 98 t (esc_b _) (by decide) dp un gd cn cs a ccd cl outer A₀ base h₀ L m s Q E B F X T hk hd hu trivial fun v new h' tk' hp G => by
      obtain ⟨rfl, t', rfl⟩ := hp
      exact h t' h' tk' (G.fr F) (G.news F N)
theorem sub_step {w : World} {dp un : Nat} {gd : Option (List Code)} {fr : Option (List Env)} {h₀ : Heap} {L : Addr} {m : Str → Option Value} {news : Led} {s : Shared} {t : Tok} {f : Addr} {name qual : Str} {params : Arguments} {body : Expr} {scope : Scope} {clos : List (Str × Addr)} {pm ctv : Value} {c' : Addr} {Q E : Value → Shared → Prop}
    (X : (Mine.hd.heap_39 w.params).In h₀) (F : Fr h₀ L s.heap m) (N : News h₀ L s.heap news) (hm : (f, kla_obj name qual params body scope clos pm c' ctv) ∈ news)
    (h : ∀ t' h' k, Fr h₀ L h' m → News h₀ L h' news → Q (.str "[" t') { s with heap := h', toks := k }) : wpAny (model PR w) { handled := none, depth := dp, frames := fr, guards := gd, units := un } (call (.builtin "re.Pattern.sub") [.ref 43, .ref f, .str (Str.ofString "[") t]) Q E s :=
  sub_b (X.keeps F.keep) (dd := none) (sl := #[]) (N _ hm).1 fun t' h' k keep => h t' h' k (F.keeps keep) (fun p hp => ⟨keep _ _ (N p hp).1, (N p hp).2⟩)
/-- the compiled pattern at 43 -/
theorem slot_sub : Slot "re.Pattern" "sub" "re.Pattern.sub" :=
  .of (owner := "re.Pattern") (n := "sub") (by rw [typeLookup_type, builtinLookup_eq_fast]; kernel_rfl) (by decide +kernel) (by decide +kernel) (by decide +kernel)
    (.inr (by rw [PySem.W.S.findZ_eq]; kernel_rfl)) (by rw [isSubtype_type]; kernel_rfl)
theorem type_sub : typeOf (.builtin "re.Pattern.sub") = pure (.type "method_descriptor") := by show builtinType _ = _; rw [builtinType_eq_fast]; kernel_rfl
theorem plain_pattern : PlainAttrs "re.Pattern" :=
  ⟨⟨"object.__getattribute__", by rw [typeLookup_type, builtinLookup_eq_fast]; kernel_rfl, by rw [PySem.W.S.canonicalZ_eq]; decide +kernel⟩, by rw [typeLookup_type, builtinLookup_eq_fast]; kernel_rfl⟩
noncomputable def o43 (P : Params) : Obj := ((Mine.hd.heap_39 P).lookup 43).getD default
theorem meth_sub {pl : Sem Bool} {Q : Value × List Value → Shared → Prop} (KX : (Mine.hd.heap_39 w.params).In s.heap) (h : Q (.builtin "re.Pattern.sub", [.ref 43]) s) : wpAny (model PR w) A (getMethod (.ref 43) (Str.ofString "sub") pl) Q E s := by
  have h1 : (Mine.hd.heap_39 w.params).lookup 43 = some (o43 w.params) := by kernel_rfl
  have h2 : (o43 w.params).cls = .type "re.Pattern" := by kernel_rfl
  have h3 : (o43 w.params).dict = none := by kernel_rfl
  exact getMethod_builtin ⟨_, KX _ _ h1, h2⟩ plain_pattern slot_sub type_sub (fun a e => by cases e; exact ⟨_, KX _ _ h1, h3⟩) h
theorem bound_in {h h' : Heap} {b l : Addr} {o : Obj} (F : Fr h₀ L h m) (N : News h₀ L h [(l, o)]) (hkeep : ∀ b o, h.get? b = some o → h'.get? b = some o) (hb : h'.get? b = some (bObj l)) (hbn : h.get? b = none) : Fr h₀ L h' m ∧ News h₀ L h' [(b, bObj l), (l, o)] ∧ @Ne Nat b l := by
  have G : Grown h h' [(b, bObj l)] := ⟨hkeep, fun p hp => by obtain rfl := List.mem_singleton.mp hp; exact ⟨hb, hbn⟩⟩
  exact ⟨G.fr F, G.news F N, G.ne N _ (.head _) _ (.head _)⟩
theorem item_lit {value slice : Expr} {x y : Str} {t u : Tok} {i : Int} {Q : Value → Shared → Prop} (e : Txt.item x i = y) (h0 : 0 ≤ i) (h1 : i < (x.length : Int)) (hn : x.length ≤ 100) (h : ∀ t' k, Q (.str y t') { s with toks := k })
    (hs : subscripted slice false (.str x t) (.int i u) = operate [.str x t, .int i u] (getItem (.str x t) (.int i u)) := by with_unfolding_all rfl)
    (ht : ∀ r, letTemporaryGo value (.str x t) r = pure () := by intro _; with_unfolding_all rfl) :
    wpAny (model prog w) A (subscriptTail value slice (.str x t) (.int i u)) Q E s :=
  KXi.item rfl (by omega) h1 (by omega) (fun _ => by rw [e]; exact h _ _) hs ht
theorem item_litN {n₁ n₂ : Str} {p₁ p₂ : Pos} {x y : Str} {t u : Tok} {i : Int} {Q : Value → Shared → Prop} (e : Txt.item x i = y) (h0 : 0 ≤ i) (h1 : i + 1 ≤ (x.length : Int)) (hn : x.length ≤ 100) (h : ∀ t' k, Q (.str y t') { s with toks := k }) :
    wpAny (model prog w) A (subscriptTail (Expr.Name n₁ p₁) (Expr.Name n₂ p₂) (.str x t) (.int i u)) Q E s := item_lit e h0 (by omega) hn h
theorem slice_lit {value slice : Expr} {x y : Str} {t : Tok} {i j : Int} {ui uj : Tok} {Q : Value → Shared → Prop} (e : Txt.slice x (some i) (some j) = y) (hF : Fr h₀ L s.heap m) (hN : News h₀ L s.heap news) (hx : x.length ≤ 100) (h : ∀ h' t' k, Fr h₀ L h' m → News h₀ L h' news → Q (.str y t') { s with heap := h', toks := k })
    (hs : subscripted slice false (.str x t) (.ref s.heap.objs.size) = operate [.ref s.heap.objs.size, .str x t] (getItem (.str x t) (.ref s.heap.objs.size)) := by with_unfolding_all rfl)
    (ht : ∀ r, letTemporaryGo value (.str x t) r = pure () := by intro _; with_unfolding_all rfl) :
    wpAny (model prog w) A (subscriptTail value slice (.str x t) (.ref s.heap.objs.size)) Q E { s with heap := s.heap.push { cls := .type "slice", data := .fields #[.int i ui, .int j uj, .none] } } :=
  slice_strN_ss hF hN (by rw [e]; exact h) hs ht (Nat.le_trans hx (by decide))
theorem replace_none {x y z : Str} {t u v : Tok} {Q : Value → Shared → Prop} (hc : (occurrences x y 0 x.length (x.length + 1)).isEmpty = true) (h : Q (.str x t) s) : wpAny (model prog w) A (call (.builtin "str.replace") [.str x t, .str y u, .str z v]) Q E s := by
  refine call_gives F.slot_str_replace (typeIs_str _ _ _) F.entry_str_replace (F.args_str_replace_3 _ _ _) (gives_str_replace x y z t u v fun hh => by rw [hc] at hh; cases hh) ?_
  rw [hc]
  exact h
theorem truthy_last {D : Addr} {vs : List Value} {v : Value} {n : Nat} {Q : Bool → Shared → Prop} (hm : (D, W.listOf vs.toArray n) ∈ news) (N : News h₀ L s.heap news) (hl : vs.getLast? = some v) (hsz : vs.length ≤ 100) (h : ∀ k, Q true { s with toks := k }) : wpAny (model prog w) A (truthy (.ref D)) Q E s := by
  refine wpAny_truthy_list (News.isList N hm) (by simp; omega) ?_
  have : vs ≠ [] := by rintro rfl; cases hl
  rw [show (!vs.toArray.isEmpty) = true by simp [this]]
  exact h _
theorem notin_lit {x y : Str} {t u : Tok} {Q : Value → Shared → Prop} (e : Txt.contains x y = false) (h : Q (.bool true) s) : wpAny (model prog w) A (compareOp .NotIn (.str y u) (.str x t)) Q E s := SB.notContains (by rw [e]; exact h)
noncomputable def BCall (h : Heap) (u l : Addr) (P : Prop) : Prop := h.get? u = some (bObj l) ∧ P
theorem callWith_b {M : Model} {l u : Addr} {pos : Pos} {env : Env} {e : Expr} {Q : Value → Shared → Prop} (_N : News h₀ L s.heap news) (_hm : (u, bObj l) ∈ news)
    (h : wpAny M A (spliced (backTo pos (starEach [e] env))) (fun vs s₁ => BCall s₁.heap u l (wpAny M A (call (.ref u) vs) Q E s₁)) E s)
    (he : starEach [e] env = [(false, eval e env)] := by rfl) : wpAny M A (callWith pos (.ref u) [] (backTo pos (starEach [e] env)) []) Q E s := callWith_bObj h he
theorem BCall.intro {h : Heap} {u l : Addr} {P : Prop} (N : News h₀ L h news) (hm : (u, bObj l) ∈ news) (p : P) : BCall h u l P := ⟨(N _ hm).1, p⟩
end
noncomputable def TrOk (w : World) (p : Program) (loose : List Str) (mean : ExcName → Option Value) (mg mb : Str → Option Value) (vs : List Value) (post : Value → Led → Prop) : Prop :=
  ∀ (dp un : Nat) (gd : Option (List Code)) (cn : Str) (cs : Scope) (a : Addr) (ccd : Value) (cl : List (Str × Addr)) (outer : List Env) (A₀ : Around) (base h₀ : Heap) (L : Addr) (m : Str → Option Value) (tb : Array Value) (s : Shared) (Q E : Value → Shared → Prop),
    Below A₀ base outer h₀ → Fr h₀ L s.heap m → News h₀ L s.heap [(57, W.tabObj tb)] → TabGood tb → (Mine.hd.heap_39 w.params).In h₀ → Top p loose mean mg mb h₀ → cs.kind = .function →
    dp + 6 < recursionLimit → un + 50 < cLine →
    (∀ v new tb' h' tk', post v new → TabGood tb' → (∀ b o, @Ne Nat b 57 → s.heap.get? b = some o → h'.get? b = some o) → h'.get? 57 = some (W.tabObj tb') → (∀ p ∈ new, h'.get? p.1 = some p.2 ∧ s.heap.get? p.1 = none) → Q v { s with heap := h', toks := tk' }) →
    wpAny (model PR w) (ktrTop dp un gd cn cs L a ccd cl outer) (call (.ref 62) vs) Q E s
section
variable {prog : Program} {w : World} {A₀ A : Around} {E : Value → Shared → Prop} {s : Shared} {base h₀ : Heap} {outer : List Env} {L : Addr} {m mg mb : Str → Option Value} {env : Env} {K : Frag} {p : Program} {loose : List Str} {mean : ExcName → Option Value}
  {Q : Value → Shared → Prop} {name qual : Str} {params : Arguments} {body : List Stmt} {scope : Scope} {dV kV doc pm cdv ct oc : Value} {an od : Option Addr} {osl : Array (Option Value)} {f : Addr} {vs : List Value} {binds : List (Str × Value)} {news : Led}
/-- entering with a ledger laid aside -/
theorem fn_enterT (B : Below A₀ base outer h₀) (F : Fr h₀ L s.heap m) (N : News h₀ L s.heap news) (X₀ : K.In h₀) (T : Top p loose mean mg mb h₀) (hA : A.frames = some (env :: outer)) (hf : env.frame = some L) (hke : env.scope.kind = .function)
    (ho : K.lookup f = some ⟨oc, od, .func (fnOf name qual params body scope dV kV doc pm an cdv ct), osl⟩) (hcd : codeIn K cdv qual = true) (hroom : A.depth < recursionLimit)
    (hbind : BindsTo s (fnOf name qual params body scope dV kV doc pm an cdv ct) ⟨vs, []⟩ binds) (hloc : ∀ y ∈ binds, scope.names.lookup y.1 = some .local)
    (h : ∀ (g : Heap) (L' : Addr) (h₁ : Heap), g = hideAll s.heap (news.map (·.1)) → Fr g L' h₁ (fun y => binds.reverse.lookup y) → News g L' h₁ news → Below A base (env :: outer) g → K.In g → Top p loose mean mg mb g →
      wpAny (model prog w) (A.deeper (envX qual scope L' f cdv [])) (execs body (envX qual scope L' f cdv []))
        (fun fl s' => match fl with | .ret v => Q v s' | _ => Q .none s')
        (fun e s' => wpAny (model prog w) (A.deeper (envX qual scope L' f cdv [])) (leaving (envX qual scope L' f cdv []) e) (fun _ s'' => E e s'') (fun e' s'' => E e' s'') s')
        { s with heap := h₁, toks := s.toks + binds.length })
    (hcell : ∀ x ∈ scope.names, x.2 ≠ .cell) (hco : scope.isCoroutine = false := by rfl) (hgen : scope.isGenerator = false := by rfl) (hk : scope.kind = .function := by rfl) : wpAny (model prog w) A (call (.ref f) vs) Q E s := by
  obtain ⟨FG, BG, st, -⟩ := groundX (R := fun _ _ => True) B F N hA hf hke
  refine wpAny_call ?_
  have ho' : s.heap.get? f = some ⟨oc, od, .func (fnOf name qual params body scope dV kV doc pm an cdv ct), osl⟩ := F.keep _ _ (X₀ _ _ ho)
  refine codeAny_call_def (fd := fnOf name qual params body scope dV kV doc pm an cdv ct) (body := body) (binds := binds) hroom ho' rfl (T.nolimit.keeps F.keep) (codeRec_of (X₀.keeps F.keep) hcd) rfl hbind hcell hloc (fun h₁ hns hk₁ => ?_) hco hgen hk
  refine wpAny_mono (h _ s.heap.objs.size h₁ rfl ⟨hns, fun b o e => hk₁ b o (of_hideAll _ e), Nat.le_of_eq (hideAll_size _ _)⟩ (fun p hp => ⟨hk₁ _ _ (N p hp).1, Nat.ne_of_lt (Heap.lt_size (N p hp).1), hideAll_none _ (List.mem_map_of_mem hp)⟩) BG (X₀.keeps st) (T.keeps st)) (fun fl s' hl => ?_) fun _ _ y => y
  cases fl <;> exact hl
/-- at a way's end, the table laid aside -/
theorem fn_endT {g h' : Heap} {L' : Addr} {m' : Str → Option Value} {new : Led} {post : Value → Led → Prop} {v : Value} {tk : Nat} {tb' : Array Value}
    (hret : ∀ v new tb' h' tk', post v new → TabGood tb' → (∀ b o, @Ne Nat b 57 → s.heap.get? b = some o → h'.get? b = some o) → h'.get? 57 = some (W.tabObj tb') → (∀ p ∈ new, h'.get? p.1 = some p.2 ∧ s.heap.get? p.1 = none) → Q v { s with heap := h', toks := tk' })
    (hg : g = hideAll s.heap [57]) (F' : Fr g L' h' m') (N' : News g L' h' (new ++ [(57, W.tabObj tb')])) (ht : TabGood tb') (hn : ∀ p ∈ new, @Ne Nat p.1 57) (hp : post v new) : Q v { s with heap := h', toks := tk } := by
  subst hg
  refine hret v new tb' h' tk hp ht (fun b o hb e => F'.keep _ _ (hideAll_get _ e (by simpa using hb))) (N' (57, W.tabObj tb') (by simp)).1 (fun p hp => ⟨(N' p (List.mem_append_left _ hp)).1, ?_⟩)
  cases q : s.heap.get? p.1 with
  | none => rfl
  | some o =>
    have := (N' p (List.mem_append_left _ hp)).2.2
    rw [hideAll_get _ q (by simpa using hn p hp)] at this; cases this
end
theorem bound_in57 {h₀ h h' : Heap} {L b l : Addr} {m : Str → Option Value} {o : Obj} {news : Led} (F : Fr h₀ L h m) (N : News h₀ L h ((l, o) :: news)) {o57 : Obj} (h57 : (57, o57) ∈ news) (hkeep : ∀ b o, h.get? b = some o → h'.get? b = some o) (hb : h'.get? b = some (bObj l)) (hbn : h.get? b = none) : Fr h₀ L h' m ∧ News h₀ L h' ((b, bObj l) :: (l, o) :: news) ∧ @Ne Nat b l ∧ @Ne Nat b 57 := by
  have G : Grown h h' [(b, bObj l)] := ⟨hkeep, fun p hp => by obtain rfl := List.mem_singleton.mp hp; exact ⟨hb, hbn⟩⟩
  exact ⟨G.fr F, G.news F N, G.ne N _ (.head _) _ (.head _), G.ne N _ (.head _) (57, o57) (.tail _ h57)⟩
theorem tr_ok (w : World) (p : Program) (loose : List Str) (mean : ExcName → Option Value) (mg mb : Str → Option Value) (S : List Nat) (hS : ∀ c ∈ S, Sign c) (hl : S.length ≤ 5) (t u : Tok) :
    TrOk w p loose mean mg mb [.str (patStr S) t, .none, .str "." u] (fun v new => ∃ l vs n ob, v = .ref l ∧ new = [ob, (l, W.listOf vs.toArray n)] ∧ PartVals vs (partsGo false S) ∧ vs.length ≤ 5) := by
  k_with_none
  k_with "eval Name" => (k_here; (fail_if_success (with_reducible show wpAny _ _ (eval (Expr.Name _ _) (compEnvC _ _ _ _)) _ _ _)); (first
    | (refine' nameX_L ?r_F ?r_v ?_ ?r_a ?r_b ?r_d; (k_dflt ((case r_a => rfl); (case r_b => rfl); (case r_F => k_asm); (case r_v => rfl); (case r_d => decide))); k_whole)
    | (refine' nameX_C ?r_N ?r_c ?r_m ?r_d ?_ ?r_a ?r_b ?r_e; (k_dflt ((case r_a => rfl); (case r_b => rfl); (case r_N => k_asm); (case r_c => rfl); (case r_m => k_mem); (case r_d => k_asm); (case r_e => decide))); k_whole)
    | (refine' nameX_K ?r_F ?r_X ?r_T ?r_e ?_ ?r_a ?r_b ?r_d; (k_dflt ((case r_F => k_asm); (case r_X => k_asm); (case r_T => k_asm); (case r_a => rfl); (case r_b => rfl); (case r_e => k_is); (case r_d => decide))); k_whole)
    | (refine' nameX_B ?r_F ?r_X ?r_T ?r_e ?r_v ?r_n ?_ ?r_a ?r_b ?r_d; (k_dflt ((case r_F => k_asm); (case r_X => k_asm); (case r_T => k_asm); (case r_a => rfl); (case r_b => rfl); (case r_e => k_is); (case r_v => boot_fast); (case r_n => decide); (case r_d => decide))); k_whole)))
  k_with "storeName" => (k_here; k_dflt (first
    | (refine' storeX_L ?r_F ?r_N ?_ ?r_a ?r_b; (case r_F => k_asm); (case r_N => k_asm); (case r_a => rfl); (case r_b => rfl); k_whole; intro qh' qF' qN'; (try k_sweep))
    | (refine' storeX_C ?r_F ?r_N ?r_c ?r_U ?r_d ?_ ?r_a ?r_b; (case r_a => rfl); (case r_b => rfl); (case r_F => k_asm); (case r_N => k_asm); (case r_c => rfl); (case r_U => k_updF); (case r_d => k_asm); k_whole; intro qh' qo' qF' qN' qd'; (try dsimp only at qN'); (try k_sweep))))
  k_with "And" => ((with_reducible show PySem.Str.length (_ ++ _) ≤ sizeLine ∧ wpAny _ _ (joinParts _ _) _ _ _); refine ⟨by first | decide +kernel | size_fits, ?_⟩)
  k_with "getMethod ref" => (k_here; (with_reducible show wpAny _ _ (getMethod (Value.ref 43) (Str.ofString "sub") _) _ _ _); refine meth_sub (Frag.In.keeps (by assumption) (Fr.keep (by assumption))) ?_)
  k_with "call ref" => (k_dflt (k_here; (with_reducible show wpAny _ _ (call (Value.ref 55) [_]) _ _ _); (refine' esc_step ?r_hy ?r_B ?r_F ?r_N ?r_X ?r_T ?r_hk ?r_hd ?r_hu ?_; (case r_hy => first | exact .inl rfl | exact .inr rfl); (case r_B => assumption); (case r_F => k_asm); (case r_N => k_asm); (case r_X => assumption); (case r_T => assumption); (case r_hk => exact rfl); (case r_hd => (dsimp only [ktrTop, Around.deeper]; omega)); (case r_hu => (dsimp only [ktrTop, Around.deeper]; omega))); k_whole; intro qt' qh' qtk' qF' qN'))
  k_with "call builtin:re.Pattern.sub" => (k_dflt (k_here; (k_dflt refine' sub_step ?r_X ?r_F ?r_N ?r_hm ?_; (case r_X => assumption); (case r_F => k_asm); (case r_N => k_asm); (case r_hm => k_mem)); k_whole; intro qt' qh' qtk' qF' qN'))
  k_with "compareOp NotIn str str" => (k_here; refine notin_lit (by decide +kernel) ?_)
  k_with "truthy ref" => (k_dflt (k_here; (with_reducible show wpAny _ _ (truthy (Value.ref _)) _ _ _); k_dflt refine' truthy_last ?r_k1 ?r_k2 ?r_k3 ?r_k4 ?_; (case r_k2 => k_asm); (case r_k1 => k_mem); (case r_k3 => with_reducible assumption); (case r_k4 => with_reducible assumption); k_whole; intro qk'))
  k_with "subscriptTail" => (k_here; (with_reducible show wpAny _ _ (subscriptTail _ _ (Value.ref _) (Value.int (-1) _)) _ _ _); (k_dflt refine' item_end ?r_k1 ?r_k2 ?r_k3 ?_; (case r_k1 => k_dflt exact News.isList (by k_asm) (by k_mem)); (case r_k2 => with_reducible assumption); (case r_k3 => omega); k_whole))
  k_with "subscriptTail Name UnaryOp ref int" => (k_here; (with_reducible show wpAny _ _ (subscriptTail _ _ (Value.ref _) (Value.int (-1) _)) _ _ _); (k_dflt refine' item_end ?r_k1 ?r_k2 ?r_k3 ?_; (case r_k1 => k_dflt exact News.isList (by k_asm) (by k_mem)); (case r_k2 => with_reducible assumption); (case r_k3 => omega); k_whole))
  k_with "callWith" => (k_here; (with_reducible show wpAny _ _ (callWith _ (Value.ref _) [] _ []) _ _ _); (k_dflt refine' callWith_b ?r_k0 ?r_k1 ?_; (case r_k0 => k_asm); (case r_k1 => k_mem)); k_whole)
  k_with "callWith ref" => (k_dflt (k_here; (with_reducible show wpAny _ _ (callWith _ (Value.ref _) [] _ []) _ _ _); (k_dflt refine' callWith_b ?r_k0 ?r_k1 ?_; (case r_k0 => k_asm); (case r_k1 => k_mem)); k_whole))
  k_with "BCall" => (k_dflt (refine BCall.intro (by k_asm) (by k_mem) ?_))
  k_with "call ref" => (k_dflt (k_here; (with_reducible show wpAny _ _ (call (Value.ref _) [_]) _ _ _); (k_dflt refine' call_bound ?r_k1 ?r_k2 ?r_k3 ?r_k4 ?_ ?r_k5; (case r_k1 => k_asm); (case r_k2 => k_asm); (case r_k3 => k_mem); (case r_k4 => k_upd); (case r_k5 => (simp only [List.size_toArray]; exact Nat.le_trans (by first | assumption | exact Nat.zero_le _) (show (100 : Nat) ≤ sizeLine by decide)))); k_whole; intro qh' qF' qN'; (try k_sweep)))
  k_with "call builtin:str.replace" => (k_here; refine replace_none (by decide +kernel) ?_)
  k_with "subscriptTail" => (k_here; (with_reducible show wpAny _ _ (subscriptTail _ (Expr.Slice (some _) (some _) none _) (Value.str _ _) (Value.ref _)) _ _ _); (k_dflt refine' slice_lit (s := ⟨_, _, _, _, _⟩) ?r_k1 ?r_k2 ?r_k3 ?r_k4 ?_; (case r_k2 => k_asm); (case r_k3 => k_asm); (case r_k1 => with_reducible assumption); (case r_k4 => with_reducible assumption); k_whole); intro qh' qt' qk' qF' qN')
  k_with "subscriptTail Name Slice str ref" => (k_here; (with_reducible show wpAny _ _ (subscriptTail _ (Expr.Slice (some _) (some _) none _) (Value.str _ _) (Value.ref _)) _ _ _); (k_dflt refine' slice_lit (s := ⟨_, _, _, _, _⟩) ?r_k1 ?r_k2 ?r_k3 ?r_k4 ?_; (case r_k2 => k_asm); (case r_k3 => k_asm); (case r_k1 => with_reducible assumption); (case r_k4 => with_reducible assumption); k_whole); intro qh' qt' qk' qF' qN')
  k_with "subscriptTail" => (k_here; (with_reducible show wpAny _ _ (subscriptTail _ _ (Value.str _ _) (Value.int _ _)) _ _ _); (k_dflt refine' item_lit ?r_k1 ?r_k2 ?r_k3 ?r_k4 ?_; (case r_k1 => with_reducible assumption); (case r_k2 => first | with_reducible assumption | omega); (case r_k3 => first | with_reducible assumption | omega); (case r_k4 => with_reducible assumption); k_whole); intro qt' qk')
  k_with "subscriptTail Name Name str int" => (k_here; (with_reducible show wpAny _ _ (subscriptTail (Expr.Name _ _) (Expr.Name _ _) (Value.str _ _) (Value.int _ _)) _ _ _); (refine' item_litN ?r_k1 ?r_k2 ?r_k3 ?r_k4 ?_; (case r_k1 => with_reducible assumption); (case r_k2 => first | with_reducible assumption | omega); (case r_k3 => first | with_reducible assumption | omega); (case r_k4 => with_reducible assumption); k_whole); intro qt' qk')
  k_with "exec While BoolOp" => (k_here; k_dflt (refine whl_start 100 ?_))
  k_with "exec While Compare" => (k_dflt (k_here; k_dflt refine' while_tok ?r_k1 ?r_k2 ?r_k3 ?r_k4 ?r_k5 ?r_k6 ?r_k57 ?r_ktb ?r_k7 ?_ ?_ ?_ ?_ ?_ ?_; (case r_k1 => assumption); (case r_k2 => assumption); (case r_k3 => k_asm); (case r_k4 => k_asm); (case r_k5 => k_mem); (case r_k6 => k_mem); (case r_k57 => k_mem); (case r_ktb => assumption); (case r_k7 => with_unfolding_all rfl); k_whole; trace "TOK"))
  k_with "exec While" => (k_here; k_dflt refine' while_tok ?r_k1 ?r_k2 ?r_k3 ?r_k4 ?r_k5 ?r_k6 ?r_k57 ?r_ktb ?r_k7 ?_ ?_ ?_ ?_ ?_ ?_; (case r_k1 => assumption); (case r_k2 => assumption); (case r_k3 => k_asm); (case r_k4 => k_asm); (case r_k5 => k_mem); (case r_k6 => k_mem); (case r_k57 => k_mem); (case r_ktb => assumption); (case r_k7 => with_unfolding_all rfl); k_whole; trace "TOK")
  have hfill : (PySem.Challenge.rw_ij0083_01.row.prog = PySem.Challenge.rw_ij0083_01.row.prog) ∧ (Mine.hd.heap_39 = Mine.hd.heap_39) := by k_fill; exact ⟨rfl, rfl⟩
  clear hfill
  intro dp un gd cn cs f ccd cl outer A₀ base h₀ L m tb s Q E B F N htb X T hk hd hu hret
  k_dflt (refine' fn_enterT (news := [(57, W.tabObj tb)]) ?k1 ?k2 ?kN ?k4 ?k5 ?kA ?kF ?kK ?k6 ?k7 ?k8 ?k9 ?kB ?_ ?c5 ?c2 ?c3 ?c4; (case kA => exact rfl); (case kF => exact rfl); (case kK => assumption); (case k1 => k_asm); (case kN => assumption); (case k2 => k_asm); (case k4 => k_asm); (case k5 => k_asm); (case k6 => k_is); (case k7 => k_is); (case k8 => ktr_room); (case k9 => exact BindsTo.of_eq rfl); (case c5 => decide); (case kB => exact locs rfl); (case c2 => exact rfl); (case c3 => exact rfl); (case c4 => exact rfl); k_whole)
  intro g L' h₁ hg F' N' B' X' T'
  clear B X T
  (try dsimp only)
  k_fold
  have hend := fun v new tb' h' L'' m'' tk (F' : Fr g L'' h' m'') (N' : News g L'' h' (new ++ [(57, W.tabObj tb')])) (ht : TabGood tb') (hn : ∀ p ∈ new, @Ne Nat p.1 57) (hv : ∃ l vs n ob, v = .ref l ∧ new = [ob, (l, W.listOf vs.toArray n)] ∧ PartVals vs (partsGo false S) ∧ vs.length ≤ 5) => fn_endT (tk := tk) (v := v) (new := new) hret hg F' N' ht hn hv
  clear F N hret hg
  have hx : (patStr S).length ≤ 100 := by
    have := encS_le S
    simp only [patStr, Str.length, List.size_toArray]; omega
  have hCH : CodeHd g 61 57 := codeHd_of_K X' (by kernel_rfl)
  k_steps
  refine' attr_append (l := _) (Frag.In.keeps (by assumption) (Fr.keep (by assumption))) (News.get (by assumption) (by k_mem)) ?_
  intro b h'' k hkeep hb hbn
  rename Fr _ _ _ _ => F2
  rename News _ _ _ _ => N2
  obtain ⟨F3, N3, hne, hne57⟩ := bound_in57 F2 N2 (by k_mem) hkeep hb hbn
  clear F2 N2 hkeep hb hbn
  k_steps
  · unfold Stop
    intro vs i c hvs hc h0 h1 e0
    unfold Turn4
    intro n cnt ti vc vj vf h tk tb' htb' hfin F4 N4
    dsimp only [fr4] at F4
    rcases hc with rfl | rfl
    all_goals k_steps
    all_goals exact hfin _ _ _ _ _ _ _ ⟨_, rfl⟩ htb' (by k_asm) (by rw [← List.push_toArray]; k_asm) rfl (by intro z hz; simp only [names4, List.mem_cons, List.not_mem_nil, or_false, not_or] at hz; simp [fr4, hz])
  · unfold Stop
    intro vs i hvs hlast h0 h1 e0
    unfold Turn4
    intro n cnt ti vc vj vf h tk tb' htb' hfin F4 N4
    dsimp only [fr4] at F4
    k_steps
    exact hfin _ _ _ _ _ _ _ rfl htb' (by k_asm) (by k_asm) rfl (by intro z hz; simp only [names4, List.mem_cons, List.not_mem_nil, or_false, not_or] at hz; simp [fr4, hz])
  · unfold Stop
    intro i h0 h1 e0
    unfold Turn4
    intro n cnt ti vc vj vf h tk tb' htb' hfin F4 N4
    dsimp only [fr4] at F4
    k_steps
    exact hfin _ _ _ _ _ _ _ rfl htb' (by k_asm) (by k_asm) rfl (by intro z hz; simp only [names4, List.mem_cons, List.not_mem_nil, or_false, not_or] at hz; simp [fr4, hz])
  · unfold Stop
    intro vs i x t hvs hlast h0 h1 e0
    unfold Turn4
    intro n cnt ti vc vj vf h tk tb' htb' hfin F4 N4
    dsimp only [fr4] at F4
    k_steps
    exact hfin _ _ _ _ _ _ _ rfl htb' (by k_asm) (by rw [← List.push_toArray]; k_asm) rfl (by intro z hz; simp only [names4, List.mem_cons, List.not_mem_nil, or_false, not_or] at hz; simp [fr4, hz])
  · unfold Stop
    intro vs i hvs h0 h1 e0 e1 e2 e3
    have b1 : 0 ≤ i + 1 := by omega
    have b2 : 0 ≤ i + 1 + 1 := by omega
    have b3 : i + 1 ≤ ((patStr S).length : Int) := by omega
    have b4 : i + 1 + 1 ≤ ((patStr S).length : Int) := by omega
    have b5 : i + 1 + 1 + 1 ≤ ((patStr S).length : Int) := by omega
    unfold Turn4
    intro n cnt ti vc vj vf h tk tb' htb' hfin F4 N4
    dsimp only [fr4] at F4
    rcases htb' with rfl | ⟨c', rfl⟩
    · k_steps
      exact fin4_of hfin ⟨_, rfl⟩ (.inr ⟨_, rfl⟩) (by k_asm) (by k_asm) (by k_mem) (by rw [← List.push_toArray]; k_mem) (by k_mem) rfl (by intro z hz; simp only [names4, List.mem_cons, List.not_mem_nil, or_false, not_or] at hz; simp [fr4, hz])
    · k_steps
      exact fin4_of hfin ⟨_, rfl⟩ (.inr ⟨_, rfl⟩) (by k_asm) (by k_asm) (by k_mem) (by rw [← List.push_toArray]; k_mem) (by k_mem) rfl (by intro z hz; simp only [names4, List.mem_cons, List.not_mem_nil, or_false, not_or] at hz; simp [fr4, hz])
  · exact decide_eq_false (by omega)
  · exact hend _ [_, _] _ _ _ _ _ (by k_asm) (by k_asm) (by assumption) (by simp only [List.mem_cons, List.not_mem_nil, or_false]; rintro p (rfl | rfl) <;> (show @Ne Nat _ 57) <;> first | assumption | omega) ⟨_, _, _, _, rfl, rfl, by assumption, by assumption⟩
  · rename _ ≠ _ => hq
    exact absurd rfl hq
end Mine
end

section
open PySem PySem.W PySem.Builtin PySem.Builtin.Str
set_option Elab.async false
set_option maxRecDepth 100000
set_option maxHeartbeats 40000000
namespace Mine
noncomputable def strOf (S : List Nat) : Str := ⟨S.toArray⟩
noncomputable def words : Nat → List (List Nat)
  | 0 => [[]]
  | n + 1 => [] :: (words n).flatMap fun S => [97 :: S, 98 :: S, 91 :: S, 42 :: S]
theorem words_mem : ∀ (n : Nat) (S : List Nat), S.length ≤ n → (∀ c ∈ S, Sign c) → S ∈ words n
  | 0, [], _, _ => by simp [words]
  | 0, _ :: _, h, _ => by simp at h
  | n + 1, [], _, _ => by simp [words]
  | n + 1, c :: S, h, hs => by
    have hm := words_mem n S (by simpa using h) (fun d hd => hs d (.tail _ hd))
    have hc := hs c (.head _)
    simp only [words, List.mem_cons, List.mem_flatMap]
    refine .inr ⟨S, hm, ?_⟩
    rcases hc with rfl | rfl | rfl | rfl <;> simp
noncomputable def dot (c : Nat) : List Nat := if c = 42 then [46, 46, 46] else [c]
noncomputable def dotS (S : List Nat) : List Nat := S.flatMap dot
noncomputable def norm : List Nat → List Nat
  | [] => []
  | c :: r => if c = 42 ∧ r.head? = some 42 then norm r else c :: norm r
noncomputable def rep : List Nat → List Nat
  | 42 :: 42 :: r => 42 :: rep r
  | c :: r => c :: rep r
  | [] => []
noncomputable def pieces : List Nat → List (List Nat)
  | [] => [[]]
  | c :: r => if c = 42 then [] :: pieces r else match pieces r with
    | p :: ps => (c :: p) :: ps
    | [] => [[c]]
theorem flat_free (c : Nat) (z : List Nat) : ∀ l : List Nat, c ∉ l → (l.flatMap fun d => if d = c then z else [d]) = l
  | [], _ => rfl
  | k :: r, h => by
    have h1 : k ≠ c := fun e => h (e ▸ List.mem_cons_self ..)
    rw [List.flatMap_cons, if_neg h1, flat_free c z r fun m => h (List.mem_cons_of_mem _ m)]
    rfl
theorem flat_join (c : Nat) (z : Str) : ∀ parts : List Str, (∀ p ∈ parts, c ∉ p.cps.toList) → ((Str.join ⟨#[c]⟩ parts).cps.toList.flatMap fun d => if d = c then z.cps.toList else [d]) = (Str.join z parts).cps.toList
  | [], _ => rfl
  | [p], h => flat_free c _ _ (h p (List.mem_singleton.mpr rfl))
  | p :: q :: r, h => by
    have ih := flat_join c z (q :: r) fun a ha => h a (List.mem_cons_of_mem _ ha)
    show ((p ++ ⟨#[c]⟩ ++ Str.join ⟨#[c]⟩ (q :: r)).cps.toList.flatMap _) = (p ++ z ++ Str.join z (q :: r)).cps.toList
    simp only [Str.cps_append, Array.toList_append, List.flatMap_append]
    rw [ih, flat_free c _ _ (h p (List.mem_cons_self ..))]
    simp
theorem replace_flat (S : List Nat) (c : Nat) (z : Str) : Txt.replace (strOf S) ⟨#[c]⟩ z = ⟨(S.flatMap fun d => if d = c then z.cps.toList else [d]).toArray⟩ := by
  have h : (Txt.replace (strOf S) ⟨#[c]⟩ z).cps.toList = S.flatMap fun d => if d = c then z.cps.toList else [d] := by
    rw [StrLaws.replace_one, ← flat_join c z _ (StrLaws.split_free _ c), StrLaws.join_split]
    rfl
  rw [← h]
theorem rep_br0 (S : List Nat) : Txt.replace (strOf S) "[" "[[]" = patStr S := replace_flat S 91 "[[]"
theorem rep_star0 (S : List Nat) : Txt.replace (strOf S) "*" "..." = strOf (dotS S) := replace_flat S 42 "..."
noncomputable def eqL : List Nat → List Nat → Bool
  | [], [] => true
  | a :: x, b :: y => Nat.beq a b && eqL x y
  | _, _ => false
theorem nbeq (a b : Nat) : Nat.beq a b = (a == b) := by rw [Bool.eq_iff_iff, Nat.beq_eq, beq_iff_eq]
theorem eqL_eq : ∀ x y : List Nat, eqL x y = (x == y)
  | [], [] => rfl
  | [], _ :: _ => rfl
  | _ :: _, [] => rfl
  | a :: x, b :: y => by
    show (Nat.beq a b && eqL x y) = ((a == b) && (x == y))
    rw [eqL_eq x y, nbeq]
/-- the places of p in S, on lists -/
noncomputable def occN (S p : List Nat) (hi limit : Nat) : List Nat → Nat → Nat → List Nat
  | [], _, _ => []
  | i :: l, k, f => if (Nat.blt k limit && (Nat.ble f i && (Nat.ble (i + p.length) hi && eqL ((S.drop i).take p.length) p))) = true then i :: occN S p hi limit l (k + 1) (i + p.length) else occN S p hi limit l k f
theorem occN_eq (S p : List Nat) (hi limit : Nat) : ∀ (l : List Nat) (st : Array Nat × Nat), (forIn l st (StrLaws.occBody (strOf S) (strOf p) hi limit)).run.fst.toList = st.fst.toList ++ occN S p hi limit l st.fst.size st.snd
  | [], st => by simp [occN]
  | i :: l, st => by
    have hl : (strOf p).length = p.length := by simp [strOf, Str.length]
    have hs : StrLaws.occBody (strOf S) (strOf p) hi limit i st = if (Nat.blt st.fst.size limit && (Nat.ble st.snd i && (Nat.ble (i + p.length) hi && eqL ((S.drop i).take p.length) p))) = true then pure (ForInStep.yield (st.fst.push i, i + p.length)) else pure (ForInStep.yield (st.fst, st.snd)) := by
      unfold StrLaws.occBody
      have hc : (((st.fst.size < limit ∧ st.snd ≤ i) ∧ i + (strOf p).length ≤ hi) ∧ subAt (strOf S) (strOf p) i = true) ↔ (Nat.blt st.fst.size limit && (Nat.ble st.snd i && (Nat.ble (i + p.length) hi && eqL ((S.drop i).take p.length) p))) = true := by
        rw [StrLaws.subAt_eq, hl, eqL_eq]
        simp only [Bool.and_eq_true, Nat.ble_eq, Nat.blt_eq, strOf]
        constructor
        · rintro ⟨⟨⟨a, b⟩, c⟩, d⟩; exact ⟨a, b, c, d⟩
        · rintro ⟨a, b, c, d⟩; exact ⟨⟨⟨a, b⟩, c⟩, d⟩
      rw [hl] at hc ⊢
      by_cases h : (Nat.blt st.fst.size limit && (Nat.ble st.snd i && (Nat.ble (i + p.length) hi && eqL ((S.drop i).take p.length) p))) = true
      · rw [if_pos h, if_pos (hc.mpr h)]
      · rw [if_neg h, if_neg fun q => h (hc.mp q)]
    rw [List.forIn_cons, hs]
    unfold occN
    by_cases h : (Nat.blt st.fst.size limit && (Nat.ble st.snd i && (Nat.ble (i + p.length) hi && eqL ((S.drop i).take p.length) p))) = true
    · rw [if_pos h, if_pos h]
      show (forIn l (st.fst.push i, i + p.length) (StrLaws.occBody (strOf S) (strOf p) hi limit)).run.fst.toList = _
      rw [occN_eq S p hi limit l]
      simp
    · rw [if_neg h, if_neg h]
      show (forIn l (st.fst, st.snd) (StrLaws.occBody (strOf S) (strOf p) hi limit)).run.fst.toList = _
      rw [occN_eq S p hi limit l]
noncomputable def places (S p : List Nat) (limit : Nat) : List Nat := occN S p S.length limit (List.range' 0 (S.length + 1)) 0 0
theorem occ_list (S p : List Nat) (limit : Nat) : occurrences (strOf S) (strOf p) 0 S.length limit = places S p limit := by
  rw [StrLaws.occ_eq, occN_eq]
  simp [places]
noncomputable def cutsL (S : List Nat) (cuts : List Nat) (w : Nat) : List (List Nat) := ((0 :: cuts.map (· + w)).zip (cuts ++ [S.length])).map fun q => (S.drop q.1).take (q.2 - q.1)
theorem strOf_len0 (S : List Nat) : (strOf S).length = S.length := by simp [strOf, Str.length]
theorem parts_list (S : List Nat) (cuts : List Nat) (w : Nat) : partsBetween (strOf S) cuts w = (cutsL S cuts w).map strOf := by
  unfold partsBetween cutsL
  rw [List.map_map, strOf_len0]
  refine List.map_congr_left fun q _ => ?_
  show strSub (strOf S) q.1 q.2 = strOf _
  simp [strSub, strOf]
noncomputable def gluedL (z : List Nat) (ps : List (List Nat)) : List Nat := (ps.drop 1).foldl (fun acc p => acc ++ z ++ p) (ps.headD [])
theorem glued_go (z : List Nat) : ∀ (ps : List (List Nat)) (acc : List Nat), (ps.map strOf).foldl (fun (acc : Array Nat) (p : Str) => acc ++ (strOf z).cps ++ p.cps) acc.toArray = (ps.foldl (fun acc p => acc ++ z ++ p) acc).toArray
  | [], _ => rfl
  | p :: ps, acc => by
    simp only [List.map_cons, List.foldl_cons]
    rw [← glued_go z ps (acc ++ z ++ p)]
    simp [strOf]
theorem glued_list (z : List Nat) (ps : List (List Nat)) : glued (strOf z) (ps.map strOf) = strOf (gluedL z ps) := by
  unfold glued gluedL
  cases ps with
  | nil => rfl
  | cons p ps =>
    show (⟨_⟩ : Str) = ⟨_⟩
    exact congrArg Str.mk (glued_go z ps p)
noncomputable def repL (S p z : List Nat) : List Nat := if (places S p (S.length + 1)).isEmpty = true then S else gluedL z (cutsL S (places S p (S.length + 1)) p.length)
theorem replace_list (S : List Nat) (a : Nat) (p z : List Nat) : Txt.replace (strOf S) (strOf (a :: p)) (strOf z) = strOf (repL S (a :: p) z) := by
  unfold Txt.replace repL
  rw [strOf_len0, occ_list]
  have h1 : ((strOf (a :: p)).length == 0) = false := by simp [strOf, Str.length]
  rw [h1, Bool.false_and, Bool.or_false, strOf_len0]
  by_cases h : (places S (a :: p) (S.length + 1)).isEmpty = true
  · rw [if_pos h, if_pos h]
  · rw [if_neg h, if_neg h, parts_list, glued_list]
noncomputable def splitL (S p : List Nat) : List (List Nat) := if (places S p (S.length + 1)).isEmpty = true then [S] else cutsL S (places S p (S.length + 1)) p.length
theorem split_list (S : List Nat) (a : Nat) (p : List Nat) (h : (decide (S.length < (a :: p).length) || decide (strKind (strOf S) < strKind (strOf (a :: p)))) = false) : Txt.split (strOf S) (strOf (a :: p)) = (splitL S (a :: p)).map strOf := by
  unfold Txt.split splitL
  rw [strOf_len0, strOf_len0, h, if_neg Bool.false_ne_true, occ_list]
  by_cases h : (places S (a :: p) (S.length + 1)).isEmpty = true
  · rw [if_pos h, if_pos h]; rfl
  · rw [if_neg h, if_neg h, parts_list]
noncomputable def dblL (S : List Nat) : Bool := !(places S [42, 42] 1).isEmpty
theorem dbl_list (S : List Nat) : hasDbl (strOf S) = dblL S := by
  unfold hasDbl dblL
  rw [strOf_len0]
  exact congrArg (fun l : List Nat => !l.isEmpty) (occ_list S [42, 42] 1)
theorem one_list (S : List Nat) : oneStep (strOf S) = strOf (repL S [42, 42] [42]) := replace_list S 42 [42] [42]
noncomputable def gapL : Nat → List Nat → List Nat
  | 0, S => S
  | n + 1, S => if dblL S = true then gapL n (repL S [42, 42] [42]) else S
theorem gap_list : ∀ (n : Nat) (S : List Nat), gapF n (strOf S) = strOf (gapL n S)
  | 0, _ => rfl
  | n + 1, S => by
    unfold gapF gapL
    rw [dbl_list, one_list, gap_list n]
    by_cases h : dblL S = true
    · rw [if_pos h, if_pos h]
    · rw [if_neg h, if_neg h]
noncomputable def eqLL : List (List Nat) → List (List Nat) → Bool
  | [], [] => true
  | a :: x, b :: y => eqL a b && eqLL x y
  | _, _ => false
theorem eqLL_eq : ∀ {x y : List (List Nat)}, eqLL x y = true → x = y
  | [], [], _ => rfl
  | [], _ :: _, h => nomatch h
  | _ :: _, [], h => nomatch h
  | a :: x, b :: y, h => by
    have h' : (eqL a b && eqLL x y) = true := h
    rw [Bool.and_eq_true, eqL_eq, beq_iff_eq] at h'
    rw [h'.1, eqLL_eq h'.2]
noncomputable def has42 : List Nat → Bool
  | [] => false
  | c :: r => Nat.beq c 42 || has42 r
theorem has42_eq : ∀ S : List Nat, has42 S = S.contains 42
  | [] => rfl
  | c :: r => by
    rw [List.contains_cons, ← has42_eq r]
    show (Nat.beq c 42 || has42 r) = (42 == c || has42 r)
    rw [nbeq]
    congr 1
    rw [Bool.eq_iff_iff, beq_iff_eq, beq_iff_eq, eq_comm]
noncomputable def fact2 (S : List Nat) : Bool := (places (dotS S) [46, 46, 46] 1).isEmpty == !has42 S && (!has42 S || (!(decide ((dotS S).length < 3) || decide (strKind (strOf (dotS S)) < strKind (strOf [46, 46, 46]))) && eqLL (splitL (dotS S) [46, 46, 46]) (pieces S)))
theorem fact2_say {S : List Nat} (h : fact2 S = true) : (occurrences (strOf (dotS S)) "..." 0 (strOf (dotS S)).length 1).isEmpty = !S.contains 42 ∧ (S.contains 42 = true → Txt.split (strOf (dotS S)) "..." = (pieces S).map strOf) := by
  simp only [fact2, Bool.and_eq_true, Bool.or_eq_true, beq_iff_eq, has42_eq] at h
  refine ⟨?_, fun hc => ?_⟩
  · rw [← h.1, strOf_len0]
    exact congrArg List.isEmpty (occ_list (dotS S) [46, 46, 46] 1)
  · rcases h.2 with q | ⟨q1, q2⟩
    · rw [hc] at q; exact absurd q (by decide)
    · rw [← eqLL_eq q2]
      exact split_list (dotS S) 46 [46, 46] (by simpa using q1)
noncomputable def fact3 (S : List Nat) : Bool := eqL (gapL 100 S) (norm S) && (!dblL S || (eqL (repL S [42, 42] [42]) (rep S) && (Nat.blt (rep S).length S.length && (rep S).all fun c => c == 97 || c == 98 || c == 91 || c == 42)))
theorem fact3_say {S : List Nat} (h : fact3 S = true) : gapF 100 (strOf S) = strOf (norm S) ∧ (hasDbl (strOf S) = true → oneStep (strOf S) = strOf (rep S) ∧ (rep S).length < S.length ∧ ∀ c ∈ rep S, Sign c) := by
  simp only [fact3, Bool.and_eq_true, Bool.or_eq_true, eqL_eq, beq_iff_eq] at h
  refine ⟨by rw [gap_list, h.1], fun hd => ?_⟩
  rw [dbl_list] at hd
  rcases h.2 with q | ⟨q1, q2, q3⟩
  · rw [hd] at q; exact absurd q (by decide)
  · refine ⟨by rw [one_list, q1], by simpa using q2, fun c hc => ?_⟩
    have := List.all_eq_true.mp q3 c hc
    simp only [Bool.or_eq_true, beq_iff_eq] at this
    rcases this with ((q | q) | q) | q
    · exact .inl q
    · exact .inr (.inl q)
    · exact .inr (.inr (.inl q))
    · exact .inr (.inr (.inr q))
noncomputable def allW : Nat → (List Nat → Bool) → Bool
  | 0, f => f []
  | n + 1, f => f [] && (allW n (fun S => f (97 :: S)) && (allW n (fun S => f (98 :: S)) && (allW n (fun S => f (91 :: S)) && allW n (fun S => f (42 :: S)))))
theorem allW_succ {n : Nat} {f : List Nat → Bool} (h0 : f [] = true) (h1 : allW n (fun S => f (97 :: S)) = true) (h2 : allW n (fun S => f (98 :: S)) = true) (h3 : allW n (fun S => f (91 :: S)) = true) (h4 : allW n (fun S => f (42 :: S)) = true) : allW (n + 1) f = true := by
  simp only [allW, h0, h1, h2, h3, h4, Bool.and_self]
theorem allW_mem : ∀ (n : Nat) (f : List Nat → Bool), allW n f = true → ∀ S ∈ words n, f S = true
  | 0, f, h, S, hS => by
    simp only [words, List.mem_singleton] at hS
    subst hS; exact h
  | n + 1, f, h, S, hS => by
    simp only [allW, Bool.and_eq_true] at h
    obtain ⟨h0, h1, h2, h3, h4⟩ := h
    simp only [words, List.mem_cons, List.mem_flatMap, List.not_mem_nil, or_false] at hS
    rcases hS with rfl | ⟨T, hT, rfl | rfl | rfl | rfl⟩
    · exact h0
    · exact allW_mem n _ h1 T hT
    · exact allW_mem n _ h2 T hT
    · exact allW_mem n _ h3 T hT
    · exact allW_mem n _ h4 T hT
theorem f2_97_97 : allW 3 (fun S => fact2 (97 :: 97 :: S)) = true := by decide +kernel
theorem f2_97_98 : allW 3 (fun S => fact2 (97 :: 98 :: S)) = true := by decide +kernel
theorem f2_97_91 : allW 3 (fun S => fact2 (97 :: 91 :: S)) = true := by decide +kernel
theorem f2_97_42 : allW 3 (fun S => fact2 (97 :: 42 :: S)) = true := by decide +kernel
theorem f2_97 : allW 4 (fun S => fact2 (97 :: S)) = true := allW_succ (by decide +kernel) f2_97_97 f2_97_98 f2_97_91 f2_97_42
theorem f2_98_97 : allW 3 (fun S => fact2 (98 :: 97 :: S)) = true := by decide +kernel
theorem f2_98_98 : allW 3 (fun S => fact2 (98 :: 98 :: S)) = true := by decide +kernel
theorem f2_98_91 : allW 3 (fun S => fact2 (98 :: 91 :: S)) = true := by decide +kernel
theorem f2_98_42 : allW 3 (fun S => fact2 (98 :: 42 :: S)) = true := by decide +kernel
theorem f2_98 : allW 4 (fun S => fact2 (98 :: S)) = true := allW_succ (by decide +kernel) f2_98_97 f2_98_98 f2_98_91 f2_98_42
theorem f2_91_97 : allW 3 (fun S => fact2 (91 :: 97 :: S)) = true := by decide +kernel
theorem f2_91_98 : allW 3 (fun S => fact2 (91 :: 98 :: S)) = true := by decide +kernel
theorem f2_91_91 : allW 3 (fun S => fact2 (91 :: 91 :: S)) = true := by decide +kernel
theorem f2_91_42 : allW 3 (fun S => fact2 (91 :: 42 :: S)) = true := by decide +kernel
theorem f2_91 : allW 4 (fun S => fact2 (91 :: S)) = true := allW_succ (by decide +kernel) f2_91_97 f2_91_98 f2_91_91 f2_91_42
theorem f2_42_97 : allW 3 (fun S => fact2 (42 :: 97 :: S)) = true := by decide +kernel
theorem f2_42_98 : allW 3 (fun S => fact2 (42 :: 98 :: S)) = true := by decide +kernel
theorem f2_42_91 : allW 3 (fun S => fact2 (42 :: 91 :: S)) = true := by decide +kernel
theorem f2_42_42 : allW 3 (fun S => fact2 (42 :: 42 :: S)) = true := by decide +kernel
theorem f2_42 : allW 4 (fun S => fact2 (42 :: S)) = true := allW_succ (by decide +kernel) f2_42_97 f2_42_98 f2_42_91 f2_42_42
theorem facts2 : ((words 5).all fact2) = true := List.all_eq_true.mpr (allW_mem 5 fact2 (allW_succ (by decide +kernel) f2_97 f2_98 f2_91 f2_42))
theorem f3_97_97 : allW 3 (fun S => fact3 (97 :: 97 :: S)) = true := by decide +kernel
theorem f3_97_98 : allW 3 (fun S => fact3 (97 :: 98 :: S)) = true := by decide +kernel
theorem f3_97_91 : allW 3 (fun S => fact3 (97 :: 91 :: S)) = true := by decide +kernel
theorem f3_97_42 : allW 3 (fun S => fact3 (97 :: 42 :: S)) = true := by decide +kernel
theorem f3_97 : allW 4 (fun S => fact3 (97 :: S)) = true := allW_succ (by decide +kernel) f3_97_97 f3_97_98 f3_97_91 f3_97_42
theorem f3_98_97 : allW 3 (fun S => fact3 (98 :: 97 :: S)) = true := by decide +kernel
theorem f3_98_98 : allW 3 (fun S => fact3 (98 :: 98 :: S)) = true := by decide +kernel
theorem f3_98_91 : allW 3 (fun S => fact3 (98 :: 91 :: S)) = true := by decide +kernel
theorem f3_98_42 : allW 3 (fun S => fact3 (98 :: 42 :: S)) = true := by decide +kernel
theorem f3_98 : allW 4 (fun S => fact3 (98 :: S)) = true := allW_succ (by decide +kernel) f3_98_97 f3_98_98 f3_98_91 f3_98_42
theorem f3_91_97 : allW 3 (fun S => fact3 (91 :: 97 :: S)) = true := by decide +kernel
theorem f3_91_98 : allW 3 (fun S => fact3 (91 :: 98 :: S)) = true := by decide +kernel
theorem f3_91_91 : allW 3 (fun S => fact3 (91 :: 91 :: S)) = true := by decide +kernel
theorem f3_91_42 : allW 3 (fun S => fact3 (91 :: 42 :: S)) = true := by decide +kernel
theorem f3_91 : allW 4 (fun S => fact3 (91 :: S)) = true := allW_succ (by decide +kernel) f3_91_97 f3_91_98 f3_91_91 f3_91_42
theorem f3_42_97 : allW 3 (fun S => fact3 (42 :: 97 :: S)) = true := by decide +kernel
theorem f3_42_98 : allW 3 (fun S => fact3 (42 :: 98 :: S)) = true := by decide +kernel
theorem f3_42_91 : allW 3 (fun S => fact3 (42 :: 91 :: S)) = true := by decide +kernel
theorem f3_42_42 : allW 3 (fun S => fact3 (42 :: 42 :: S)) = true := by decide +kernel
theorem f3_42 : allW 4 (fun S => fact3 (42 :: S)) = true := allW_succ (by decide +kernel) f3_42_97 f3_42_98 f3_42_91 f3_42_42
theorem facts3 : ((words 5).all fact3) = true := List.all_eq_true.mpr (allW_mem 5 fact3 (allW_succ (by decide +kernel) f3_97 f3_98 f3_91 f3_42))
end Mine
end

section
set_option maxRecDepth 100000
namespace Mine
open PySem
noncomputable def starM (f : List Nat → Bool) : List Nat → Bool
  | [] => f []
  | d :: t => f (d :: t) || starM f t
/-- a pattern of signs over a text of codes; 42 is the gap -/
noncomputable def M : List Nat → List Nat → Bool
  | [], t => t.isEmpty
  | c :: S, t => if c = 42 then starM (M S) t else match t with
      | [] => false
      | d :: t' => c == d && M S t'
theorem M_nil (t : List Nat) : M [] t = t.isEmpty := rfl
theorem M_star_nil (S : List Nat) : M (42 :: S) [] = M S [] := by simp [M, starM]
theorem M_star_cons (S : List Nat) (d : Nat) (t : List Nat) : M (42 :: S) (d :: t) = (M S (d :: t) || M (42 :: S) t) := by simp [M, starM]
theorem M_sign (c : Nat) (S t : List Nat) (h : c ≠ 42) : M (c :: S) t = match t with
      | [] => false
      | d :: t' => c == d && M S t' := by simp [M, h]
/-- the gap takes any beginning -/
theorem M_star_iff (S : List Nat) : ∀ t : List Nat, M (42 :: S) t = true ↔ ∃ x y, t = x ++ y ∧ M S y = true
  | [] => by
    rw [M_star_nil]
    constructor
    · intro h; exact ⟨[], [], rfl, h⟩
    · rintro ⟨x, y, e, h⟩
      obtain ⟨rfl, rfl⟩ := List.append_eq_nil_iff.mp e.symm
      exact h
  | d :: t => by
    rw [M_star_cons, Bool.or_eq_true, M_star_iff S t]
    constructor
    · rintro (h | ⟨x, y, rfl, h⟩)
      · exact ⟨[], _, rfl, h⟩
      · exact ⟨d :: x, y, rfl, h⟩
    · rintro ⟨x, y, e, h⟩
      cases x with
      | nil => left; rw [show d :: t = y from e]; exact h
      | cons a x =>
        simp only [List.cons_append, List.cons.injEq] at e
        exact .inr ⟨x, y, e.2, h⟩
theorem M_sign_iff {c : Nat} (h : c ≠ 42) (S t : List Nat) : M (c :: S) t = true ↔ ∃ y, t = c :: y ∧ M S y = true := by
  rw [M_sign c S t h]
  cases t with
  | nil => simp
  | cons d t =>
    simp only [Bool.and_eq_true, beq_iff_eq, List.cons.injEq]
    constructor
    · rintro ⟨rfl, h⟩; exact ⟨t, ⟨rfl, rfl⟩, h⟩
    · rintro ⟨y, ⟨rfl, rfl⟩, h⟩; exact ⟨rfl, h⟩
theorem M_word {W : List Nat} (hW : 42 ∉ W) (S : List Nat) : ∀ t, M (W ++ S) t = true ↔ ∃ y, t = W ++ y ∧ M S y = true := by
  induction W with
  | nil => intro t; simp
  | cons c W ih =>
    intro t
    have hc : c ≠ 42 := fun e => hW (e ▸ .head _)
    rw [List.cons_append, M_sign_iff hc]
    constructor
    · rintro ⟨y, rfl, h⟩
      obtain ⟨z, rfl, h2⟩ := (ih (fun q => hW (.tail _ q)) y).mp h
      exact ⟨z, rfl, h2⟩
    · rintro ⟨z, rfl, h⟩
      exact ⟨W ++ z, rfl, (ih (fun q => hW (.tail _ q)) _).mpr ⟨z, rfl, h⟩⟩
theorem M_star_mono {S : List Nat} (x : List Nat) {t : List Nat} (h : M (42 :: S) t = true) : M (42 :: S) (x ++ t) = true := by
  obtain ⟨a, b, rfl, h2⟩ := (M_star_iff S t).mp h
  exact (M_star_iff S _).mpr ⟨x ++ a, b, by simp, h2⟩
theorem M_refl : ∀ S : List Nat, M S S = true
  | [] => by rw [M_nil]; rfl
  | c :: S => by
    by_cases h : c = 42
    · subst h; exact (M_star_iff S _).mpr ⟨[42], S, rfl, M_refl S⟩
    · exact (M_sign_iff h S _).mpr ⟨S, rfl, M_refl S⟩
/-- an order: M S U and M U T give M S T -/
theorem M_trans : ∀ (U S T : List Nat), M S U = true → M U T = true → M S T = true := by
  intro U
  induction U with
  | nil =>
    intro S T h1 h2
    rw [M_nil] at h2
    have : T = [] := by simpa using h2
    subst this; exact h1
  | cons c U ih =>
    intro S
    induction S with
    | nil => intro T h1 _; rw [M_nil] at h1; simp at h1
    | cons s S ihS =>
      intro T h1 h2
      by_cases hs : s = 42
      · subst hs
        rw [M_star_cons, Bool.or_eq_true] at h1
        rcases h1 with h1 | h1
        · exact (M_star_iff S T).mpr ⟨[], T, rfl, ihS T h1 h2⟩
        · by_cases hc : c = 42
          · subst hc
            obtain ⟨x, y, rfl, h3⟩ := (M_star_iff U T).mp h2
            exact M_star_mono x (ih (42 :: S) y h1 h3)
          · obtain ⟨y, rfl, h3⟩ := (M_sign_iff hc U T).mp h2
            exact M_star_mono [c] (ih (42 :: S) y h1 h3)
      · obtain ⟨y, e, h3⟩ := (M_sign_iff hs S _).mp h1
        simp only [List.cons.injEq] at e
        obtain ⟨rfl, rfl⟩ := e
        obtain ⟨z, rfl, h4⟩ := (M_sign_iff hs U T).mp h2
        exact (M_sign_iff hs S _).mpr ⟨z, rfl, ih S z h3 h4⟩
end Mine
end

section
set_option maxRecDepth 100000
namespace Mine
open PySem
/-- signs that are no gap and no dot -/
noncomputable def Let (S : List Nat) : Prop := ∀ c ∈ S, c ≠ 46
theorem pump {S : List Nat} : (∀ c ∈ S, c ≠ 46) → ∀ {v : List Nat}, M S (46 :: v) = true → M S (46 :: 46 :: v) = true := by
  intro hS v h
  cases S with
  | nil => rw [M_nil] at h; cases h
  | cons c S =>
    by_cases hc : c = 42
    · subst hc; exact M_star_mono [46] h
    · obtain ⟨y, e, _⟩ := (M_sign_iff hc S _).mp h
      simp only [List.cons.injEq] at e
      exact absurd e.1.symm (hS c (.head _))
theorem dotS_cons (d : Nat) (U : List Nat) : dotS (d :: U) = dot d ++ dotS U := by simp [dotS]
theorem M_dots : ∀ (S : List Nat), (∀ c ∈ S, c ≠ 46) → ∀ U : List Nat, M S (dotS U) = M S U
  | [], _, U => by
    cases U with
    | nil => rfl
    | cons d U => rw [M_nil, M_nil, dotS_cons]; unfold dot; split <;> rfl
  | c :: S, hS, U => by
    have ih := M_dots S (fun d hd => hS d (.tail _ hd))
    by_cases hc : c = 42
    · subst hc
      induction U with
      | nil => rfl
      | cons d U ihU =>
        rw [dotS_cons, M_star_cons]
        by_cases hd : d = 42
        · subst hd
          have e : dot 42 ++ dotS U = 46 :: 46 :: 46 :: dotS U := rfl
          rw [e, M_star_cons, M_star_cons, M_star_cons, ihU, ← ih (42 :: U), dotS_cons, e]
          have h1 : M S (46 :: dotS U) = true → M S (46 :: 46 :: 46 :: dotS U) = true := fun h => pump (fun d hd => hS d (.tail _ hd)) (pump (fun d hd => hS d (.tail _ hd)) h)
          have h2 : M S (46 :: 46 :: dotS U) = true → M S (46 :: 46 :: 46 :: dotS U) = true := fun h => pump (fun d hd => hS d (.tail _ hd)) h
          cases q1 : M S (46 :: dotS U) <;> cases q2 : M S (46 :: 46 :: dotS U) <;> cases q3 : M S (46 :: 46 :: 46 :: dotS U) <;> simp_all
        · have e : dot d = [d] := by simp [dot, hd]
          rw [e, List.singleton_append, M_star_cons, ihU, ← ih (d :: U), dotS_cons, e, List.singleton_append]
    · cases U with
      | nil => rfl
      | cons d U =>
        rw [dotS_cons]
        by_cases hd : d = 42
        · subst hd
          have e : dot 42 ++ dotS U = 46 :: 46 :: 46 :: dotS U := rfl
          rw [e, M_sign c S _ hc, M_sign c S _ hc]
          simp only [beq_eq_false_iff_ne.mpr hc, beq_eq_false_iff_ne.mpr (hS c (.head _)), Bool.false_and]
        · have e : dot d = [d] := by simp [dot, hd]
          rw [e, List.singleton_append, M_sign c S _ hc, M_sign c S _ hc]
          simp only [ih U]
/-- merging the gaps of a pattern -/
theorem M_twice (S t : List Nat) : M (42 :: 42 :: S) t = M (42 :: S) t := by
  apply Bool.eq_iff_iff.mpr
  constructor
  · intro h
    obtain ⟨x, y, rfl, h2⟩ := (M_star_iff _ _).mp h
    exact M_star_mono x h2
  · intro h
    exact (M_star_iff _ _).mpr ⟨[], t, rfl, h⟩
theorem starM_congr {f g : List Nat → Bool} (h : ∀ t, f t = g t) : ∀ t, starM f t = starM g t
  | [] => h []
  | d :: t => by simp only [starM, h, starM_congr h t]
theorem M_cons_congr {c : Nat} {S S' : List Nat} (h : ∀ t, M S t = M S' t) (t : List Nat) : M (c :: S) t = M (c :: S') t := by
  unfold M
  rw [starM_congr h]
  simp only [h]
theorem norm_eq (c : Nat) (r : List Nat) : norm (c :: r) = if c = 42 ∧ r.head? = some 42 then norm r else c :: norm r := rfl
theorem M_norm : ∀ (S t : List Nat), M (norm S) t = M S t
  | [], t => rfl
  | c :: S, t => by
    rw [norm_eq]
    split
    · rename_i h
      obtain ⟨rfl, h2⟩ := h
      cases S with
      | nil => cases h2
      | cons d S =>
        obtain rfl : d = 42 := by simpa using h2
        rw [M_norm (42 :: S) t, M_twice]
    · exact M_cons_congr (M_norm S) t
/-- merging the gaps of a text -/
theorem M_text_cons {u v : List Nat} (hne : u.isEmpty = v.isEmpty) (h : ∀ S, (∀ c ∈ S, True) → M S u = M S v) (c : Nat) : ∀ S : List Nat, M S (c :: u) = M S (c :: v)
  | [] => rfl
  | s :: S => by
    by_cases hs : s = 42
    · subst hs; rw [M_star_cons, M_star_cons, M_text_cons hne h c S, h _ (fun _ _ => trivial)]
    · rw [M_sign s S _ hs, M_sign s S _ hs]; simp only [h S (fun _ _ => trivial)]
theorem M_text_twice (v : List Nat) : ∀ S : List Nat, M S (42 :: 42 :: v) = M S (42 :: v)
  | [] => rfl
  | s :: S => by
    by_cases hs : s = 42
    · subst hs
      rw [M_star_cons, M_text_twice v S, M_star_cons]
      cases M S (42 :: v) <;> simp
    · rw [M_sign s S _ hs, M_sign s S _ hs]; simp only [beq_eq_false_iff_ne.mpr hs, Bool.false_and]
theorem norm_empty (S : List Nat) : (norm S).isEmpty = S.isEmpty := by
  induction S with
  | nil => rfl
  | cons c S ih =>
    rw [norm_eq]
    split
    · rename_i h
      cases S with
      | nil => cases h.2
      | cons d S => rw [ih]; rfl
    · rfl
theorem M_text_norm : ∀ (U S : List Nat), M S (norm U) = M S U
  | [], S => rfl
  | c :: U, S => by
    rw [norm_eq]
    split
    · rename_i h
      obtain ⟨rfl, h2⟩ := h
      cases U with
      | nil => cases h2
      | cons d U =>
        obtain rfl : d = 42 := by simpa using h2
        rw [M_text_norm (42 :: U) S, M_text_twice]
    · exact M_text_cons (norm_empty U) (fun S _ => M_text_norm U S) c S
noncomputable def nl : List Nat → Nat
  | [] => 0
  | c :: r => (if c = 42 then 0 else 1) + nl r
theorem nl_append (x y : List Nat) : nl (x ++ y) = nl x + nl y := by
  induction x with
  | nil => simp [nl]
  | cons c x ih => simp only [List.cons_append, nl, ih]; omega
theorem M_nl : ∀ (S U : List Nat), M S U = true → nl S ≤ nl U
  | [], U, _ => Nat.zero_le _
  | c :: S, U, h => by
    by_cases hc : c = 42
    · subst hc
      obtain ⟨x, y, rfl, h2⟩ := (M_star_iff _ _).mp h
      have := M_nl S y h2
      rw [nl_append]; simp only [nl, if_pos]; omega
    · obtain ⟨y, rfl, h2⟩ := (M_sign_iff hc S U).mp h
      have := M_nl S y h2
      simp only [nl]; omega
noncomputable def Nrm : List Nat → Prop
  | [] => True
  | c :: r => ¬(c = 42 ∧ r.head? = some 42) ∧ Nrm r
theorem norm_head (S : List Nat) : (norm S).head? = S.head? := by
  induction S with
  | nil => rfl
  | cons c S ih =>
    rw [norm_eq]
    split
    · rename_i h; rw [ih, h.2, h.1]; rfl
    · rfl
theorem nrm_norm (S : List Nat) : Nrm (norm S) := by
  induction S with
  | nil => trivial
  | cons c S ih =>
    rw [norm_eq]
    split
    · exact ih
    · rename_i h; exact ⟨by rw [norm_head]; exact h, ih⟩
theorem nl_zero_42 : ∀ (x : List Nat), nl x = 0 → ∀ c ∈ x, c = 42
  | [], _, c, h => by cases h
  | d :: x, h, c, hc => by
    simp only [nl] at h
    rcases List.mem_cons.mp hc with rfl | hc
    · by_cases q : c = 42
      · exact q
      · rw [if_neg q] at h; omega
    · exact nl_zero_42 x (by omega) c hc
theorem star_down {S U : List Nat} (hS : Nrm (42 :: S)) (hU : Nrm (42 :: U)) (hn : nl S = nl U) (h : M (42 :: S) (42 :: U) = true) : M S U = true := by
  rw [M_star_cons, Bool.or_eq_true] at h
  rcases h with h | h
  · cases S with
    | nil => rw [M_nil] at h; cases h
    | cons c S =>
      have hc : c ≠ 42 := fun e => hS.1 ⟨rfl, by rw [e]; rfl⟩
      obtain ⟨y, e, _⟩ := (M_sign_iff hc S _).mp h
      simp only [List.cons.injEq] at e
      exact absurd e.1.symm hc
  · obtain ⟨x, y, rfl, h2⟩ := (M_star_iff _ _).mp h
    have h1 := M_nl S y h2
    rw [nl_append] at hn
    have hx := nl_zero_42 x (by omega)
    cases x with
    | nil => exact h2
    | cons d x => exact absurd ⟨rfl, by rw [hx d (.head _)]; rfl⟩ hU.1
theorem both_same : ∀ (S U : List Nat), Nrm S → Nrm U → nl S = nl U → M S U = true → M U S = true → S = U
  | [], [], _, _, _, _, _ => rfl
  | [], u :: U, _, _, _, h, _ => by rw [M_nil] at h; cases h
  | s :: S, [], _, _, _, _, h => by rw [M_nil] at h; cases h
  | s :: S, u :: U, hS, hU, hn, h1, h2 => by
    by_cases hs : s = 42
    · by_cases hu : u = 42
      · subst hs hu
        have hn' : nl S = nl U := by simpa [nl] using hn
        rw [both_same S U hS.2 hU.2 hn' (star_down hS hU hn' h1) (star_down hU hS hn'.symm h2)]
      · subst hs
        obtain ⟨y, e, _⟩ := (M_sign_iff hu U _).mp h2
        simp only [List.cons.injEq] at e
        exact absurd e.1.symm hu
    · obtain ⟨y, e, h3⟩ := (M_sign_iff hs S _).mp h1
      simp only [List.cons.injEq] at e
      obtain ⟨rfl, rfl⟩ := e
      obtain ⟨z, e, h4⟩ := (M_sign_iff hs U _).mp h2
      simp only [List.cons.injEq, true_and] at e
      subst e
      rw [both_same S U hS.2 hU.2 (by simpa [nl] using hn) h3 h4]
theorem gap_law (S U : List Nat) : (M S U && M U S) = (norm S == norm U) := by
  apply Bool.eq_iff_iff.mpr
  rw [Bool.and_eq_true, beq_iff_eq]
  have e1 : M (norm S) (norm U) = M S U := by rw [M_norm, M_text_norm]
  have e2 : M (norm U) (norm S) = M U S := by rw [M_norm, M_text_norm]
  constructor
  · rintro ⟨h1, h2⟩
    rw [← e1] at h1
    rw [← e2] at h2
    exact both_same _ _ (nrm_norm S) (nrm_norm U) (Nat.le_antisymm (M_nl _ _ h1) (M_nl _ _ h2)) h1 h2
  · intro h
    rw [← e1, ← e2, h]
    exact ⟨M_refl _, M_refl _⟩
end Mine
end

section
set_option maxRecDepth 100000
namespace Mine
open PySem
noncomputable def PM : List (Option Str) → List Nat → Bool
  | [], t => t.isEmpty
  | none :: ps, t => starM (PM ps) t
  | some x :: ps, t => match t with
    | [] => false
    | d :: t' => ((⟨#[d]⟩ : Str) == signOf x) && PM ps t'
theorem starM_iff (f : List Nat → Bool) : ∀ t : List Nat, starM f t = true ↔ ∃ i, i ≤ t.length ∧ f (t.drop i) = true
  | [] => by
    constructor
    · intro h; exact ⟨0, Nat.le_refl _, h⟩
    · rintro ⟨i, hi, h⟩
      have : i = 0 := by simpa using hi
      subst this; exact h
  | d :: t => by
    rw [starM, Bool.or_eq_true, starM_iff f t]
    constructor
    · rintro (h | ⟨i, hi, h⟩)
      · exact ⟨0, Nat.zero_le _, h⟩
      · exact ⟨i + 1, by simpa using hi, h⟩
    · rintro ⟨i, hi, h⟩
      cases i with
      | zero => exact .inl h
      | succ i => exact .inr ⟨i, by simpa using hi, h⟩
theorem str_item (t : List Nat) (k : Nat) (h : k < t.length) : signAt (strOf t) k = ⟨#[t[k]]⟩ := by
  unfold signAt Txt.item Txt.charAt seqIndex? strOf
  have h1 : ¬ ((k : Int) < 0) := by omega
  have h2 : (decide (0 ≤ (k : Int)) && decide ((k : Int) < ((Str.length ⟨t.toArray⟩ : Nat) : Int))) = true := by simp [Str.length]; omega
  simp only [if_neg h1, h2, if_true, Option.bind_some, Int.toNat_natCast]
  simp [h]
theorem star_get (r : List Bool) (k : Nat) : (stepStar r)[k]? = some true ↔ k < r.length ∧ ∃ j, j ≤ k ∧ r[j]? = some true := by
  unfold stepStar
  rw [List.getElem?_map]
  by_cases hk : k < r.length
  · rw [List.getElem?_range hk]
    simp only [Option.map_some, Option.some.injEq, hk, true_and]
    rw [List.contains_iff_mem, List.mem_iff_getElem?]
    constructor
    · rintro ⟨j, hj⟩
      rw [List.getElem?_take] at hj
      split at hj
      · exact ⟨j, by omega, hj⟩
      · cases hj
    · rintro ⟨j, hj, h⟩
      exact ⟨j, by rw [List.getElem?_take, if_pos (by omega)]; exact h⟩
  · rw [List.getElem?_eq_none (by simp; omega)]
    simp [hk]
theorem sign_get (t : List Nat) (x : Str) (r : List Bool) (hr : r.length = t.length + 1) (k : Nat) : (stepSign (strOf t) x r)[k]? = some true ↔ ∃ j d, k = j + 1 ∧ t[j]? = some d ∧ r[j]? = some true ∧ ((⟨#[d]⟩ : Str) == x) = true := by
  unfold stepSign
  have hl : (strOf t).length = t.length := by simp [strOf, Str.length]
  rw [hl]
  cases k with
  | zero => simp
  | succ k =>
    rw [List.getElem?_cons_succ, List.getElem?_map]
    by_cases hk : k < t.length
    · rw [List.getElem?_range hk]
      simp only [Option.map_some, Option.some.injEq, Bool.and_eq_true]
      rw [str_item t k hk]
      constructor
      · rintro ⟨h1, h2⟩
        refine ⟨k, t[k], rfl, List.getElem?_eq_getElem hk, ?_, h2⟩
        rw [List.getD_eq_getElem?_getD] at h1
        cases q : r[k]? with
        | none => rw [q] at h1; cases h1
        | some b => rw [q] at h1; exact congrArg some h1
      · rintro ⟨j, d, e, h1, h2, h3⟩
        obtain rfl : k = j := by omega
        rw [List.getElem?_eq_getElem hk] at h1
        obtain rfl := Option.some.inj h1
        exact ⟨by rw [List.getD_eq_getElem?_getD, h2]; rfl, h3⟩
    · rw [List.getElem?_eq_none (by simp; omega)]
      constructor
      · intro h; cases h
      · rintro ⟨j, d, e, h1, _, _⟩
        obtain rfl : k = j := by omega
        exact absurd (List.getElem?_eq_some_iff.mp h1).1 hk
theorem takes_iff (t : List Nat) : ∀ (ps : List (Option Str)) (r : List Bool), r.length = t.length + 1 → ((takesGo (strOf t) ps r).getLastD false = true ↔ ∃ k, r[k]? = some true ∧ PM ps (t.drop k) = true)
  | [], r, hr => by
    rw [takesGo]
    rw [List.getLastD_eq_getLast?, List.getLast?_eq_getElem?, hr, Nat.add_sub_cancel]
    constructor
    · intro h
      refine ⟨t.length, ?_, by simp [PM]⟩
      cases q : r[t.length]? with
      | none => rw [q] at h; cases h
      | some b => rw [q] at h; exact congrArg some h
    · rintro ⟨k, h1, h2⟩
      have hk : k < r.length := (List.getElem?_eq_some_iff.mp h1).1
      simp only [PM, List.isEmpty_iff, List.drop_eq_nil_iff] at h2
      obtain rfl : k = t.length := by omega
      rw [h1]; rfl
  | none :: ps, r, hr => by
    rw [takesGo, takes_iff t ps (stepStar r) (by rw [stepStar_len]; exact hr)]
    constructor
    · rintro ⟨k, h1, h2⟩
      obtain ⟨hk, j, hj, h3⟩ := (star_get r k).mp h1
      refine ⟨j, h3, ?_⟩
      rw [PM, starM_iff]
      exact ⟨k - j, by simp; omega, by rw [List.drop_drop, Nat.add_sub_cancel' hj]; exact h2⟩
    · rintro ⟨j, h1, h2⟩
      rw [PM, starM_iff] at h2
      obtain ⟨i, hi, h2⟩ := h2
      have hj : j < r.length := (List.getElem?_eq_some_iff.mp h1).1
      simp only [List.length_drop] at hi
      refine ⟨j + i, (star_get r _).mpr ⟨by omega, j, by omega, h1⟩, ?_⟩
      rw [List.drop_drop] at h2; exact h2
  | some x :: ps, r, hr => by
    rw [takesGo, takes_iff t ps _ (by rw [stepSign_len]; simp [strOf, Str.length])]
    constructor
    · rintro ⟨k, h1, h2⟩
      obtain ⟨j, d, rfl, h3, h4, h5⟩ := (sign_get t _ r hr k).mp h1
      refine ⟨j, h4, ?_⟩
      obtain ⟨hj, rfl⟩ := List.getElem?_eq_some_iff.mp h3
      rw [List.drop_eq_getElem_cons hj, PM, h5, h2]; rfl
    · rintro ⟨j, h1, h2⟩
      by_cases hj : j < t.length
      · rw [List.drop_eq_getElem_cons hj, PM, Bool.and_eq_true] at h2
        exact ⟨j + 1, (sign_get t _ r hr _).mpr ⟨j, t[j], rfl, List.getElem?_eq_getElem hj, h1, h2.1⟩, h2.2⟩
      · rw [List.drop_eq_nil_of_le (by omega)] at h2; cases h2
theorem takes_PM (ps : List (Option Str)) (t : List Nat) : takesF ps (strOf t) = PM ps t := by
  apply Bool.eq_iff_iff.mpr
  unfold takesF
  rw [takes_iff t ps _ (by simp [strOf, Str.length])]
  constructor
  · rintro ⟨k, h1, h2⟩
    cases k with
    | zero => exact h2
    | succ k =>
      rw [List.getElem?_cons_succ, List.getElem?_replicate] at h1
      split at h1 <;> cases h1
  · intro h; exact ⟨0, rfl, h⟩
theorem partsGo_cons (b : Bool) (c : Nat) (r : List Nat) : partsGo b (c :: r) = if c = 42 then (if b then partsGo true r else none :: partsGo true r) else if c = 91 then some "[\\[]" :: partsGo false r else some ⟨#[c]⟩ :: partsGo false r := by rw [partsGo]
theorem PM_parts : ∀ (S : List Nat), (∀ c ∈ S, Sign c) → (∀ t, PM (partsGo false S) t = M S t) ∧ ∀ t, PM (none :: partsGo true S) t = M (42 :: S) t
  | [], _ => by
    refine ⟨fun t => by rw [partsGo, PM, M_nil], fun t => ?_⟩
    rw [partsGo, PM]
    unfold M
    rw [if_pos rfl]
    exact starM_congr (fun t => by rw [PM, M_nil]) t
  | c :: S, hS => by
    obtain ⟨i1, i2⟩ := PM_parts S (fun d hd => hS d (.tail _ hd))
    have first : ∀ t, PM (partsGo false (c :: S)) t = M (c :: S) t := by
      intro t
      rw [partsGo_cons]
      rcases hS c (.head _) with rfl | rfl | rfl | rfl
      · rw [if_neg (by decide), if_neg (by decide), M_sign 97 S t (by decide)]
        cases t with
        | nil => rfl
        | cons d t =>
          simp only [PM, i1]
          rw [show ((⟨#[d]⟩ : Str) == signOf ⟨#[97]⟩) = (97 == d) from ?_]
          rw [show signOf ⟨#[97]⟩ = ⟨#[97]⟩ by decide]
          apply Bool.eq_iff_iff.mpr; simp; exact eq_comm
      · rw [if_neg (by decide), if_neg (by decide), M_sign 98 S t (by decide)]
        cases t with
        | nil => rfl
        | cons d t =>
          simp only [PM, i1]
          rw [show ((⟨#[d]⟩ : Str) == signOf ⟨#[98]⟩) = (98 == d) from ?_]
          rw [show signOf ⟨#[98]⟩ = ⟨#[98]⟩ by decide]
          apply Bool.eq_iff_iff.mpr; simp; exact eq_comm
      · rw [if_neg (by decide), if_pos rfl, M_sign 91 S t (by decide)]
        cases t with
        | nil => rfl
        | cons d t =>
          simp only [PM, i1]
          rw [show ((⟨#[d]⟩ : Str) == signOf "[\\[]") = (91 == d) from ?_]
          rw [show signOf "[\\[]" = ⟨#[91]⟩ by decide]
          apply Bool.eq_iff_iff.mpr; simp; exact eq_comm
      · rw [if_pos rfl, if_neg (by decide)]; exact i2 t
    refine ⟨first, fun t => ?_⟩
    by_cases hc : c = 42
    · subst hc
      rw [partsGo_cons, if_pos rfl, if_pos rfl, M_twice]; exact i2 t
    · have e : partsGo true (c :: S) = partsGo false (c :: S) := by rw [partsGo_cons, partsGo_cons, if_neg hc, if_neg hc]
      rw [e, PM]
      conv => rhs; unfold M
      rw [if_pos rfl]
      exact starM_congr first t
theorem takes_law (S t : List Nat) (hS : ∀ c ∈ S, Sign c) : takesF (partsGo false S) (strOf t) = M S t := (takes_PM _ _).trans ((PM_parts S hS).1 t)
end Mine
end

section
set_option maxRecDepth 100000
namespace Mine
open PySem PySem.Builtin PySem.Builtin.Str
noncomputable def gapj : List (List Nat) → List Nat
  | [] => [42]
  | w :: ws => 42 :: (w ++ gapj ws)
noncomputable def gapz : List (List Nat) → List Nat → List Nat
  | [], z => 42 :: z
  | w :: ws, z => 42 :: (w ++ gapz ws z)
noncomputable def NoGap (w : List Nat) : Prop := 42 ∉ w
theorem gapj_cons_iff {w : List Nat} (hw : NoGap w) (X v : List Nat) : M (42 :: (w ++ X)) v = true ↔ ∃ x y, v = x ++ (w ++ y) ∧ M X y = true := by
  rw [M_star_iff]
  constructor
  · rintro ⟨x, y, rfl, h⟩
    obtain ⟨z, rfl, h2⟩ := (M_word hw X y).mp h
    exact ⟨x, z, rfl, h2⟩
  · rintro ⟨x, y, rfl, h⟩
    exact ⟨x, w ++ y, rfl, (M_word hw X _).mpr ⟨y, rfl, h⟩⟩
theorem gapj_nil (v : List Nat) : M (gapj []) v = true := (M_star_iff [] v).mpr ⟨v, [], by simp, rfl⟩
theorem gapj_mono : ∀ (ws : List (List Nat)) (x : List Nat) {v : List Nat}, M (gapj ws) v = true → M (gapj ws) (x ++ v) = true
  | [], x, v, _ => gapj_nil _
  | w :: ws, x, v, h => M_star_mono x h
theorem gapz_iff (z : List Nat) (hz : NoGap z) : ∀ (ws : List (List Nat)), (∀ w ∈ ws, NoGap w) → ∀ y, M (gapz ws z) y = true ↔ ∃ v, y = v ++ z ∧ M (gapj ws) v = true
  | [], _, y => by
    have hzz : ∀ u, M z u = true ↔ u = z := fun u => by
      have := M_word hz [] u
      rw [List.append_nil] at this
      rw [this]
      constructor
      · rintro ⟨y, rfl, h⟩; rw [M_nil] at h; simp at h; subst h; simp
      · rintro rfl; exact ⟨[], by simp, rfl⟩
    rw [gapz, M_star_iff]
    constructor
    · rintro ⟨x, u, rfl, h⟩
      rw [(hzz u).mp h]; exact ⟨x, rfl, gapj_nil _⟩
    · rintro ⟨v, rfl, _⟩; exact ⟨v, z, rfl, (hzz z).mpr rfl⟩
  | w :: ws, hw, y => by
    rw [gapz, gapj_cons_iff (hw w (.head _))]
    constructor
    · rintro ⟨x, u, rfl, h⟩
      obtain ⟨v, rfl, h2⟩ := (gapz_iff z hz ws (fun q hq => hw q (.tail _ hq)) u).mp h
      exact ⟨x ++ (w ++ v), by simp, (gapj_cons_iff (hw w (.head _)) _ _).mpr ⟨x, v, rfl, h2⟩⟩
    · rintro ⟨v, rfl, h⟩
      obtain ⟨x, u, rfl, h2⟩ := (gapj_cons_iff (hw w (.head _)) _ _).mp h
      exact ⟨x, u ++ z, by simp, (gapz_iff z hz ws (fun q hq => hw q (.tail _ hq)) _).mpr ⟨u, rfl, h2⟩⟩
theorem gapj_end : ∀ (ws : List (List Nat)), (∀ w ∈ ws, NoGap w) → ∀ v, M (gapj (ws ++ [[]])) v = M (gapj ws) v
  | [], _, v => M_twice [] v
  | w :: ws, hw, v => by
    apply Bool.eq_iff_iff.mpr
    show M (42 :: (w ++ gapj (ws ++ [[]]))) v = true ↔ M (42 :: (w ++ gapj ws)) v = true
    rw [gapj_cons_iff (hw w (.head _)), gapj_cons_iff (hw w (.head _))]
    simp only [gapj_end ws fun q hq => hw q (.tail _ hq)]
theorem gapj_begin (ws : List (List Nat)) (v : List Nat) : M (gapj ([] :: ws)) v = M (gapj ws) v := by
  cases ws with
  | nil => exact M_twice [] v
  | cons w ws => exact M_twice (w ++ gapj ws) v
/-- the pieces join to the pattern -/
theorem pieces_join : ∀ (S : List Nat), (42 ∉ S ∧ pieces S = [S]) ∨ ∃ a ms z, pieces S = a :: (ms ++ [z]) ∧ NoGap a ∧ (∀ w ∈ ms, NoGap w) ∧ NoGap z ∧ S = a ++ gapz ms z ∧ 42 ∈ S
  | [] => .inl ⟨by simp, rfl⟩
  | c :: S => by
    have ih := pieces_join S
    by_cases hc : c = 42
    · subst hc
      right
      rcases ih with ⟨h, e⟩ | ⟨a, ms, z, e, h1, h2, h3, h4, h5⟩
      · exact ⟨[], [], S, by simp [pieces, e], by simp [NoGap], by simp, h, by simp [gapz], .head _⟩
      · refine ⟨[], a :: ms, z, by simp [pieces, e], by simp [NoGap], ?_, h3, by rw [h4]; simp [gapz], .head _⟩
        intro w hw
        rcases List.mem_cons.mp hw with rfl | hw
        · exact h1
        · exact h2 w hw
    · rcases ih with ⟨h, e⟩ | ⟨a, ms, z, e, h1, h2, h3, h4, h5⟩
      · left
        exact ⟨by simp [h]; exact fun q => hc q.symm, by simp [pieces, e, hc]⟩
      · right
        refine ⟨c :: a, ms, z, by simp [pieces, e, hc], by simp [NoGap]; exact ⟨fun q => hc q.symm, h1⟩, h2, h3, by rw [h4]; simp, .tail _ h5⟩

theorem sub_at (t w : List Nat) (i : Nat) : subAt (strOf t) (strOf w) i = true ↔ (t.drop i).take w.length = w := by
  unfold subAt strOf
  simp [Str.length]
theorem at_iff (t w : List Nat) (hi i : Nat) : StrLaws.At (strOf t) (strOf w) hi i ↔ i + w.length ≤ hi ∧ (t.drop i).take w.length = w := by
  unfold StrLaws.At
  rw [sub_at]
  simp [strOf, Str.length]
theorem occ_to (x y : Str) (lo hi : Nat) :
    (occurrences x y lo hi 1 = [] ∧ ∀ i, lo ≤ i → ¬ StrLaws.At x y hi i) ∨
    ∃ i r, occurrences x y lo hi 1 = i :: r ∧ lo ≤ i ∧ StrLaws.At x y hi i ∧ ∀ k, lo ≤ k → k < i → ¬ StrLaws.At x y hi k := by
  rw [StrLaws.occ_eq]
  rcases StrLaws.occ_first x y hi 1 (Nat.le_refl _) (List.range' lo (hi + 1 - lo)) lo (fun i hi => by have := List.mem_range'_1.mp hi; omega) with ⟨h0, hn⟩ | ⟨pre, a, post, e, h0, ha, hn⟩
  · refine .inl ⟨by rw [h0], fun i hlo hi => ?_⟩
    exact hn i (by have := hi.1; rw [List.mem_range'_1]; omega) hi
  · have hs := StrLaws.range'_split_from e
    refine .inr ⟨a, ((forIn (List.range' lo (hi + 1 - lo)) ((#[] : Array Nat), lo) (StrLaws.occBody x y hi 1)).run.fst.toList).tail, ?_, hs.1, ha, fun k hk0 hk => hn k (hs.2 k hk0 hk)⟩
    generalize (forIn (List.range' lo (hi + 1 - lo)) ((#[] : Array Nat), lo) (StrLaws.occBody x y hi 1)).run.fst = arr at h0
    have h1 : arr.toList[0]? = some a := by simpa using h0
    cases hL : arr.toList with
    | nil => rw [hL] at h1; cases h1
    | cons b t => rw [hL] at h1; simp at h1; rw [h1]; rfl
theorem find_spec (t w : List Nat) (lo hi : Nat) (hhi : hi ≤ t.length) : (find4 (strOf t) (strOf w) (lo : Int) (hi : Int) = -1 ∧ ∀ i, lo ≤ i → ¬ StrLaws.At (strOf t) (strOf w) hi i) ∨
    ∃ i : Nat, find4 (strOf t) (strOf w) (lo : Int) (hi : Int) = (i : Int) ∧ lo ≤ i ∧ StrLaws.At (strOf t) (strOf w) hi i ∧ ∀ k, lo ≤ k → k < i → ¬ StrLaws.At (strOf t) (strOf w) hi k := by
  have hl : (strOf t).length = t.length := by simp [strOf, Str.length]
  have e1 : fromIndex (strOf t).length (lo : Int) = lo := by unfold fromIndex; rw [if_neg (by omega)]; omega
  have e2 : min (fromIndex (strOf t).length (hi : Int)) (strOf t).length = hi := by unfold fromIndex; rw [if_neg (by omega), hl]; omega
  unfold find4
  rw [e1, e2]
  rcases occ_to (strOf t) (strOf w) lo hi with ⟨h0, hn⟩ | ⟨i, r, h0, h1, h2, h3⟩
  · left; rw [h0]; exact ⟨rfl, hn⟩
  · right; rw [h0]; exact ⟨i, rfl, h1, h2, h3⟩
/-- a word stands at i before hi: the text from lo is cut there -/
theorem cut_at {t w : List Nat} {lo hi i : Nat} (hhi : hi ≤ t.length) (hlo : lo ≤ i) (h : i + w.length ≤ hi ∧ (t.drop i).take w.length = w) :
    (t.take hi).drop lo = ((t.take hi).drop lo).take (i - lo) ++ (w ++ (t.take hi).drop (i + w.length)) := by
  have e1 : ((t.take hi).drop lo) = ((t.take hi).drop lo).take (i - lo) ++ ((t.take hi).drop lo).drop (i - lo) := (List.take_append_drop _ _).symm
  have e2 : ((t.take hi).drop lo).drop (i - lo) = (t.take hi).drop i := by rw [List.drop_drop]; congr 1; omega
  have e3 : (t.take hi).drop i = w ++ (t.take hi).drop (i + w.length) := by
    have : ((t.take hi).drop i).take w.length = w := by
      rw [List.drop_take, List.take_take, Nat.min_eq_left (by omega)]; exact h.2
    conv => lhs; rw [← List.take_append_drop w.length ((t.take hi).drop i), this, List.drop_drop]
  rw [e2, e3] at e1
  exact e1
theorem ellGo_iff (t : List Nat) (hi : Nat) (hhi : hi ≤ t.length) : ∀ (ws : List (List Nat)), (∀ w ∈ ws, NoGap w) → ∀ lo : Nat, lo ≤ hi → (ellGo (strOf t) (hi : Int) (ws.map strOf) (lo : Int) = true ↔ M (gapj ws) ((t.take hi).drop lo) = true)
  | [], _, lo, _ => by simp [ellGo, gapj_nil]
  | w :: ws, hw, lo, hlo => by
    have hw0 := hw w (.head _)
    have hwl : (strOf w).length = w.length := by simp [strOf, Str.length]
    rw [List.map_cons, ellGo, gapj, gapj_cons_iff hw0]
    rcases find_spec t w lo hi hhi with ⟨h0, hn⟩ | ⟨i, h0, h1, h2, h3⟩
    · rw [h0, if_pos (by decide)]
      constructor
      · intro h; cases h
      · rintro ⟨x, y, e, _⟩
        exfalso
        refine hn (lo + x.length) (by omega) ((at_iff _ _ _ _).mpr ?_)
        have hlen := congrArg List.length e
        simp only [List.length_drop, List.length_take, List.length_append] at hlen
        refine ⟨by omega, ?_⟩
        have e2 := congrArg (fun l => (l.drop x.length).take w.length) e
        simp only [List.drop_drop, List.drop_left', List.drop_left, List.take_left', List.take_left] at e2
        rw [List.drop_take, List.take_take, Nat.min_eq_left (by omega)] at e2
        exact e2
    · rw [h0, if_neg (by omega), hwl]
      have h2' := (at_iff _ _ _ _).mp h2
      rw [show ((i : Int) + (w.length : Int)) = ((i + w.length : Nat) : Int) by omega, ellGo_iff t hi hhi ws (fun q hq => hw q (.tail _ hq)) (i + w.length) h2'.1]
      constructor
      · intro h
        exact ⟨_, _, cut_at hhi h1 h2', h⟩
      · rintro ⟨x, y, e, h⟩
        have hlen := congrArg List.length e
        simp only [List.length_drop, List.length_take, List.length_append] at hlen
        have e2 := congrArg (fun l => (l.drop x.length).take w.length) e
        simp only [List.drop_drop, List.drop_left', List.drop_left, List.take_left', List.take_left] at e2
        rw [List.drop_take, List.take_take, Nat.min_eq_left (by omega)] at e2
        have hle : i ≤ lo + x.length := by
          rcases Nat.lt_or_ge (lo + x.length) i with hlt | hge
          · exact absurd ((at_iff _ _ _ _).mpr ⟨by omega, e2⟩) (h3 (lo + x.length) (by omega) hlt)
          · exact hge
        have e3 : (t.take hi).drop (lo + x.length + w.length) = y := by
          have := congrArg (fun l => (l.drop x.length).drop w.length) e
          simpa [List.drop_drop, Nat.add_assoc] using this
        have e4 : (t.take hi).drop (i + w.length) = ((t.take hi).drop (i + w.length)).take (lo + x.length - i) ++ y := by
          rw [← e3]
          conv => lhs; rw [← List.take_append_drop (lo + x.length - i) ((t.take hi).drop (i + w.length)), List.drop_drop]
          congr 2; omega
        rw [e4]
        exact gapj_mono ws _ h
end Mine
end

section
set_option maxRecDepth 100000
namespace Mine
open PySem PySem.Builtin PySem.Builtin.Str
noncomputable def Pat (S : List Nat) : Prop := S.length ≤ 5 ∧ ∀ c ∈ S, Sign c
theorem Pat.mem {S : List Nat} (h : Pat S) : S ∈ words 5 := words_mem 5 S h.1 h.2
theorem strOf_len (S : List Nat) : (strOf S).length = S.length := by simp [strOf, Str.length]
theorem strOf_inj {S T : List Nat} : (strOf S == strOf T) = (S == T) := by
  apply Bool.eq_iff_iff.mpr; simp [strOf]
theorem pieces_len : ∀ (S : List Nat), (pieces S).length ≤ S.length + 1 ∧ ∀ w ∈ pieces S, w.length ≤ S.length
  | [] => by simp [pieces]
  | c :: S => by
    obtain ⟨h1, h2⟩ := pieces_len S
    unfold pieces
    split
    · refine ⟨by simp; omega, fun w hw => ?_⟩
      rcases List.mem_cons.mp hw with rfl | hw
      · simp
      · have := h2 w hw; simp; omega
    · split
      · rename_i p ps e
        rw [e] at h1 h2
        refine ⟨by simpa using Nat.le_succ_of_le (by simpa using h1), fun w hw => ?_⟩
        rcases List.mem_cons.mp hw with rfl | hw
        · have := h2 p (.head _); simp; omega
        · have := h2 w (.tail _ hw); simp; omega
      · refine ⟨by simp, fun w hw => ?_⟩
        obtain rfl := List.mem_singleton.mp hw
        simp
theorem dotS_plain : ∀ (S : List Nat), 42 ∉ S → dotS S = S
  | [], _ => rfl
  | c :: S, h => by
    rw [dotS_cons, dotS_plain S (fun q => h (.tail _ q))]
    have : c ≠ 42 := fun e => h (e ▸ .head _)
    simp [dot, this]
theorem fact2_of {S : List Nat} (h : Pat S) : (occurrences (strOf (dotS S)) "..." 0 (strOf (dotS S)).length 1).isEmpty = !S.contains 42 ∧ (S.contains 42 = true → Txt.split (strOf (dotS S)) "..." = (pieces S).map strOf) := fact2_say (List.all_eq_true.mp facts2 S h.mem)
theorem starts_iff (t a : List Nat) : Txt.startswith (strOf t) (strOf a) = true ↔ ∃ y, t = a ++ y := by
  unfold Txt.startswith
  rw [Bool.and_eq_true, sub_at, strOf_len, strOf_len, List.drop_zero]
  simp only [decide_eq_true_eq]
  constructor
  · rintro ⟨_, h⟩; exact ⟨t.drop a.length, by conv => lhs; rw [← List.take_append_drop a.length t, h]⟩
  · rintro ⟨y, rfl⟩; simp
theorem ends_iff (t z : List Nat) : Txt.endswith (strOf t) (strOf z) = true ↔ ∃ y, t = y ++ z := by
  unfold Txt.endswith
  rw [Bool.and_eq_true, sub_at, strOf_len, strOf_len]
  simp only [decide_eq_true_eq]
  constructor
  · rintro ⟨hl, h⟩
    refine ⟨t.take (t.length - z.length), ?_⟩
    have h2 : t.drop (t.length - z.length) = z := by
      rw [List.take_of_length_le (by simp; omega)] at h
      exact h
    conv => lhs; rw [← List.take_append_drop (t.length - z.length) t, h2]
  · rintro ⟨y, rfl⟩
    refine ⟨by simp, ?_⟩
    rw [show (y ++ z).length - z.length = y.length by simp, List.drop_left, List.take_length]
theorem run_law (a z : List Nat) (ms : List (List Nat)) (ha : NoGap a) (hm : ∀ w ∈ ms, NoGap w) (hz : NoGap z) (t : List Nat) : ellRun (strOf a) (ms.map strOf) (strOf z) (strOf t) = M (a ++ gapz ms z) t := by
  have hM : M (a ++ gapz ms z) t = true ↔ ∃ v, t = a ++ (v ++ z) ∧ M (gapj ms) v = true := by
    rw [M_word ha]
    constructor
    · rintro ⟨y, rfl, h⟩
      obtain ⟨v, rfl, h2⟩ := (gapz_iff z hz ms hm y).mp h
      exact ⟨v, rfl, h2⟩
    · rintro ⟨v, rfl, h⟩
      exact ⟨v ++ z, rfl, (gapz_iff z hz ms hm _).mpr ⟨v, rfl, h⟩⟩
  apply Bool.eq_iff_iff.mpr
  rw [hM]
  have ea : (if (strOf a).length ≠ 0 then ((strOf a).length : Int) else 0) = (a.length : Int) := by rw [strOf_len]; split <;> omega
  have ez : (if (strOf z).length ≠ 0 then ((strOf z).length : Int) else 0) = (z.length : Int) := by rw [strOf_len]; split <;> omega
  unfold ellRun
  rw [ea, ez]
  by_cases h1 : (strOf a).length ≠ 0 ∧ Txt.startswith (strOf t) (strOf a) = false
  · rw [if_pos h1]
    constructor
    · intro h; cases h
    · rintro ⟨v, e, _⟩
      have := (starts_iff t a).mpr ⟨_, e⟩
      rw [h1.2] at this; cases this
  rw [if_neg h1]
  by_cases h2 : (strOf z).length ≠ 0 ∧ Txt.endswith (strOf t) (strOf z) = false
  · rw [if_pos h2]
    constructor
    · intro h; cases h
    · rintro ⟨v, e, _⟩
      have := (ends_iff t z).mpr ⟨a ++ v, by rw [e]; simp⟩
      rw [h2.2] at this; cases this
  rw [if_neg h2]
  have hst : ∃ y, t = a ++ y := by
    rw [strOf_len] at h1
    by_cases q : a.length = 0
    · exact ⟨t, by rw [List.length_eq_zero_iff.mp q]; rfl⟩
    · refine (starts_iff t a).mp ?_
      cases e : Txt.startswith (strOf t) (strOf a) with
      | true => rfl
      | false => exact absurd ⟨q, e⟩ h1
  have hen : ∃ y, t = y ++ z := by
    rw [strOf_len] at h2
    by_cases q : z.length = 0
    · exact ⟨t, by rw [List.length_eq_zero_iff.mp q]; simp⟩
    · refine (ends_iff t z).mp ?_
      cases e : Txt.endswith (strOf t) (strOf z) with
      | true => rfl
      | false => exact absurd ⟨q, e⟩ h2
  rw [strOf_len t]
  by_cases h3 : (a.length : Int) > ((t.length : Int) - (z.length : Int))
  · rw [if_pos h3]
    constructor
    · intro h; cases h
    · rintro ⟨v, e, _⟩
      have := congrArg List.length e
      simp only [List.length_append] at this
      omega
  rw [if_neg h3]
  have hzl : z.length ≤ t.length := by obtain ⟨y, rfl⟩ := hen; simp
  rw [show (t.length : Int) - (z.length : Int) = ((t.length - z.length : Nat) : Int) by omega]
  have hws : ((if (strOf a).length ≠ 0 then [] else [strOf a]) ++ (ms.map strOf ++ if (strOf z).length ≠ 0 then [] else [strOf z])) = (((if a.length ≠ 0 then [] else [[]]) ++ (ms ++ if z.length ≠ 0 then [] else [[]])) : List (List Nat)).map strOf := by
    rw [strOf_len, strOf_len]
    by_cases q1 : a.length = 0 <;> by_cases q2 : z.length = 0 <;> simp [q1, q2, List.length_eq_zero_iff.mp] <;> simp_all [strOf]
  rw [hws, ellGo_iff t (t.length - z.length) (by omega) _ ?_ a.length (by omega)]
  · have hg : ∀ v, M (gapj ((if a.length ≠ 0 then [] else [[]]) ++ (ms ++ if z.length ≠ 0 then [] else [[]]))) v = M (gapj ms) v := by
      intro v
      have e2 : M (gapj (ms ++ if z.length ≠ 0 then [] else [[]])) v = M (gapj ms) v := by
        split
        · rw [List.append_nil]
        · exact gapj_end ms hm v
      rw [← e2]
      split
      · rfl
      · exact gapj_begin _ v
    rw [hg]
    constructor
    · intro h
      refine ⟨_, ?_, h⟩
      obtain ⟨y, e⟩ := hst
      obtain ⟨u, e'⟩ := hen
      have h5 : t.take (t.length - z.length) = u := by rw [e']; simp
      have h6 : u.take a.length = a := by
        rw [← h5, List.take_take, Nat.min_eq_left (by omega), e]; simp
      rw [h5]
      conv => lhs; rw [e', ← List.take_append_drop a.length u, h6]
      simp
    · rintro ⟨v, e, h⟩
      have : (t.take (t.length - z.length)).drop a.length = v := by
        rw [e]
        have : (a ++ (v ++ z)).length - z.length = (a ++ v).length := by simp; omega
        rw [this, ← List.append_assoc, List.take_left, List.drop_left]
      rw [this]; exact h
  · intro w hw
    simp only [List.mem_append] at hw
    rcases hw with hw | hw | hw
    · split at hw
      · cases hw
      · rw [List.mem_singleton.mp hw]; simp [NoGap]
    · exact hm w hw
    · split at hw
      · cases hw
      · rw [List.mem_singleton.mp hw]; simp [NoGap]
theorem ell_law {S : List Nat} (h : Pat S) : ∃ a mid z, SplitsTo (strOf (dotS S)) "..." a mid z ∧ ∀ t, ellF (strOf (dotS S)) a mid z (strOf t) = M S t := by
  obtain ⟨f1, f2⟩ := fact2_of h
  rcases pieces_join S with ⟨hn, e⟩ | ⟨a, ms, z, e, h1, h2, h3, h4, h5⟩
  · refine ⟨"", [], "", ⟨fun q => ?_, by decide, by decide, (fun q hq => by cases hq), by decide⟩, fun t => ?_⟩
    · rw [f1] at q
      have : S.contains 42 = false := by simpa using hn
      rw [this] at q; cases q
    · have hc : S.contains 42 = false := by simpa using hn
      unfold ellF
      rw [f1, hc, if_pos (by rfl), dotS_plain S hn, strOf_inj]
      have := M_word hn [] t
      rw [List.append_nil] at this
      apply Bool.eq_iff_iff.mpr
      rw [this, beq_iff_eq]
      constructor
      · rintro rfl; exact ⟨[], by simp, rfl⟩
      · rintro ⟨y, rfl, h⟩; rw [M_nil] at h; simp at h; subst h; simp
  · have hc : S.contains 42 = true := by simpa using h5
    obtain ⟨l1, l2⟩ := pieces_len S
    rw [e] at l1 l2
    have hS5 := h.1
    refine ⟨strOf a, ms.map strOf, strOf z, ⟨fun _ => by rw [f2 hc, e]; simp, ?_, ?_, ?_, ?_⟩, fun t => ?_⟩
    · have := l2 a (.head _); rw [strOf_len]; omega
    · have := l2 z (by simp); rw [strOf_len]; omega
    · intro q hq
      obtain ⟨w, hw, rfl⟩ := List.mem_map.mp hq
      have := l2 w (by simp [hw]); rw [strOf_len]; omega
    · simp only [List.length_cons, List.length_append, List.length_nil] at l1
      rw [List.length_map]; omega
    · unfold ellF
      rw [f1, hc, if_neg (by decide), run_law a z ms h1 h2 h3 t, ← h4]
theorem rep_star {S : List Nat} (_h : Pat S) : Txt.replace (strOf S) "*" "..." = strOf (dotS S) := rep_star0 S
theorem rep_br {S : List Nat} (_h : Pat S) : Txt.replace (strOf S) "[" "[[]" = patStr S := rep_br0 S
theorem gap_norm {S : List Nat} (h : Pat S) : gapF 100 (strOf S) = strOf (norm S) := (fact3_say (List.all_eq_true.mp facts3 S h.mem)).1
noncomputable def IsPat (x : Str) : Prop := ∃ S, Pat S ∧ x = strOf S
theorem isPat_len {c : Str} (h : IsPat c) : c.length ≤ 100 := by
  obtain ⟨S, h, rfl⟩ := h
  rw [strOf_len]; have := h.1; omega
theorem isPat_step {c : Str} (h : IsPat c) (hd : hasDbl c = true) : IsPat (oneStep c) ∧ (oneStep c).length < c.length := by
  obtain ⟨S, h, rfl⟩ := h
  obtain ⟨h1, h2, h3⟩ := (fact3_say (List.all_eq_true.mp facts3 S h.mem)).2 hd
  rw [h1, strOf_len, strOf_len]
  exact ⟨⟨rep S, ⟨by have := h.1; omega, h3⟩, rfl⟩, h2⟩
theorem pat_dots {S : List Nat} (h : Pat S) (U : List Nat) : M S (dotS U) = M S U := M_dots S (fun c hc e => by rcases h.2 c hc with q | q | q | q <;> omega) U
end Mine
end

section
open PySem PySem.W PySem.Spec PySem.Calls PyProof.Rows PySem.Builtin PySem.Builtin.Str
set_option Elab.async false
set_option maxRecDepth 100000
set_option maxHeartbeats 4000000
namespace Mine
section
variable {prog : Program} {w : World} {A : Around} {E : Value → Shared → Prop} {s : Shared} {h₀ : Heap} {L : Addr} {m : Str → Option Value} {news : Led}
theorem pick_ints {vs : List Value} {ns : List Int} (hi : IntsAre vs ns) (lo up st : Option Int) : IntsAre (slicePick vs.toArray lo up st).toList (numsOf (slicePick vs.toArray lo up st).toList) := by
  refine intsAre_ofList _ fun v hv => ?_
  unfold slicePick at hv
  simp only [List.mem_filterMap] at hv
  obtain ⟨i, _, hv⟩ := hv
  exact hi.allInts v (Array.mem_of_getElem? hv)
theorem slice_step {value slice : Expr} {l : Addr} {vs : List Value} {ns : List Int} {n : Nat} {k : Int} {uk : Tok} {st : Int} {us : Tok} {Q : Value → Shared → Prop} (F : Fr h₀ L s.heap m) (N : News h₀ L s.heap news) (hm : (l, W.listOf vs.toArray n) ∈ news) (hi : IntsAre vs ns) (hst : st ≠ 0) (hz : ns.length ≤ 1000)
    (h : ∀ D ws ms h', Fr h₀ L h' m → News h₀ L h' ((D, W.listOf (List.toArray ws) 0) :: news) → (∀ p ∈ news, p.1 < D) → IntsAre ws ms → Q (.ref D) { s with heap := h' })
    {ops : List Value} (hs : subscripted slice false (.ref l) (.ref s.heap.objs.size) = operate ops (getItem (.ref l) (.ref s.heap.objs.size)) := by with_unfolding_all rfl) :
    wpAny (model prog w) A (subscriptTail value slice (.ref l) (.ref s.heap.objs.size)) Q E { s with heap := s.heap.push { cls := .type "slice", data := .fields #[.int k uk, .none, .int st us] } } := by
  refine kba_turn (value' := Expr.Name (Str.ofString "_") ⟨0, 0, 0, 0⟩) (fun _ => rfl) ?_
  exact kmk_slice3_lit F N (News.isList N hm) (.int _ _) .none (.int _ _) (by simpa using hst) rfl (fun D h' F' N' l1 => h D _ _ h' F' N' l1 (pick_ints hi _ _ _)) hs (fun _ => rfl) (by rw [List.size_toArray, hi.length, sizeLine_eq]; omega)
theorem slice_from {value slice : Expr} {l : Addr} {its ys : List Value} {a : Nat} {jj : Int} {ub : Tok} {Q : Value → Shared → Prop}
    (F : Fr h₀ L s.heap m) (N : News h₀ L s.heap news) (hl : s.heap.IsList l its.toArray) (hjj : jj = (a : Int)) (hys : its.drop a = ys) (hsz : its.length ≤ 1000)
    (h : ∀ D h', Fr h₀ L h' m → News h₀ L h' ((D, W.listOf ys.toArray 0) :: news) → (∀ p ∈ news, p.1 < D) → Q (.ref D) { s with heap := h' })
    (hs : subscripted slice false (.ref l) (.ref s.heap.objs.size) = operate [.ref s.heap.objs.size, .ref l] (getItem (.ref l) (.ref s.heap.objs.size)) := by with_unfolding_all rfl)
    (ht : ∀ r, letTemporaryGo value (.ref l) r = pure () := by intro _; with_unfolding_all rfl) :
    wpAny (model prog w) A (subscriptTail value slice (.ref l) (.ref s.heap.objs.size)) Q E { s with heap := s.heap.push { cls := .type "slice", data := .fields #[.int jj ub, .none, .none] } } := by
  subst hjj
  subst hys
  refine subscriptTail_ops (Heap.IsList.typeIs (s := { s with heap := s.heap.push { cls := .type "slice", data := .fields #[.int (a : Int) ub, .none, .none] } }) (hl.push _)) list_getitem_lookup
    (wpAny_getItem_list_slice (lo := some (a : Int)) (hi := none) (st := none) (hl.push _) (Heap.IsSliceOf.new ..) (.int _ _) .none .none (by simp) ?_ (by rw [List.size_toArray, sizeLine_eq]; omega)) hs ht
  have N1 := News.push (F.push { cls := .type "slice", data := .fields #[.int (a : Int) ub, .none, .none] }) (N.grown fun _ _ e => Heap.get?_push_of_some _ e) { cls := .type "list", data := .seq (slicePick its.toArray (some (a : Int)) none none) }
  rw [slicePick_from' its.toArray a] at N1 ⊢
  rw [Heap.size_push] at N1
  show Q (.ref (s.heap.push _).objs.size) _
  rw [Heap.size_push]
  exact h _ _ ((F.push _).push _) N1 (fun p hp => Nat.lt_succ_of_lt (Heap.lt_size (N p hp).1))
theorem slice_to {value slice : Expr} {l : Addr} {its ys : List Value} {b : Nat} {jj : Int} {ub : Tok} {Q : Value → Shared → Prop}
    (F : Fr h₀ L s.heap m) (N : News h₀ L s.heap news) (hl : s.heap.IsList l its.toArray) (hjj : jj = (b : Int)) (hys : its.take b = ys) (hsz : its.length ≤ 1000)
    (h : ∀ D h', Fr h₀ L h' m → News h₀ L h' ((D, W.listOf ys.toArray 0) :: news) → (∀ p ∈ news, p.1 < D) → Q (.ref D) { s with heap := h' })
    (hs : subscripted slice false (.ref l) (.ref s.heap.objs.size) = operate [.ref s.heap.objs.size, .ref l] (getItem (.ref l) (.ref s.heap.objs.size)) := by with_unfolding_all rfl)
    (ht : ∀ r, letTemporaryGo value (.ref l) r = pure () := by intro _; with_unfolding_all rfl) :
    wpAny (model prog w) A (subscriptTail value slice (.ref l) (.ref s.heap.objs.size)) Q E { s with heap := s.heap.push { cls := .type "slice", data := .fields #[.none, .int jj ub, .none] } } := by
  subst hjj
  subst hys
  refine subscriptTail_ops (Heap.IsList.typeIs (s := { s with heap := s.heap.push { cls := .type "slice", data := .fields #[.none, .int (b : Int) ub, .none] } }) (hl.push _)) list_getitem_lookup
    (wpAny_getItem_list_slice (lo := none) (hi := some (b : Int)) (st := none) (hl.push _) (Heap.IsSliceOf.new ..) .none (.int _ _) .none (by simp) ?_ (by rw [List.size_toArray, sizeLine_eq]; omega)) hs ht
  have N1 := News.push (F.push { cls := .type "slice", data := .fields #[.none, .int (b : Int) ub, .none] }) (N.grown fun _ _ e => Heap.get?_push_of_some _ e) { cls := .type "list", data := .seq (slicePick its.toArray none (some (b : Int)) none) }
  rw [slicePick_upto' its.toArray b] at N1 ⊢
  rw [Heap.size_push] at N1
  show Q (.ref (s.heap.push _).objs.size) _
  rw [Heap.size_push]
  exact h _ _ ((F.push _).push _) N1 (fun p hp => Nat.lt_succ_of_lt (Heap.lt_size (N p hp).1))
theorem sum_ok {l : Addr} {vs : List Value} {ns : List Int} {n : Nat} {Q : Value → Shared → Prop} (F : Fr h₀ L s.heap m) (N : News h₀ L s.heap news) (hh : A.handled = none) (hm : (l, W.listOf vs.toArray n) ∈ news) (hi : IntsAre vs ns)
    (h : ∀ (x : Int) h' tk t', Fr h₀ L h' m → News h₀ L h' news → Q (.int x t') { s with heap := h', toks := tk }) : wpAny (model prog w) A (call (.builtin "sum") [.ref l]) Q E s := LSm.sum_ints F N hh (News.isList N hm) hi fun h' tk t' F' N' => h _ h' tk t' F' N'
end
noncomputable def Bit (S : List Nat) : Prop := S.length ≤ 1 ∧ ∀ c ∈ S, Sign c
noncomputable def BitV (v : Value) : Prop := ∃ S t, Bit S ∧ v = .str (strOf S) t
noncomputable def WordV (v : Value) : Prop := ∃ S t, Pat S ∧ v = .str (strOf S) t
theorem bit_a (t : Tok) : BitV (.str "a" t) := ⟨[97], t, ⟨by decide, by simp [Sign]⟩, rfl⟩
theorem bit_b (t : Tok) : BitV (.str "b" t) := ⟨[98], t, ⟨by decide, by simp [Sign]⟩, rfl⟩
theorem bit_br (t : Tok) : BitV (.str "[" t) := ⟨[91], t, ⟨by decide, by simp [Sign]⟩, rfl⟩
theorem bit_no (t : Tok) : BitV (.str "" t) := ⟨[], t, ⟨by decide, by simp⟩, rfl⟩
theorem bit_st (t : Tok) : BitV (.str "*" t) := ⟨[42], t, ⟨by decide, by simp [Sign]⟩, rfl⟩
theorem bits6 (t1 t2 t3 t4 t5 t6 : Tok) : ∀ v ∈ [Value.str "a" t1, .str "b" t2, .str "[" t3, .str "" t4, .str "*" t5, .str "*" t6], BitV v := by
  intro v hv
  simp only [List.mem_cons, List.not_mem_nil, or_false] at hv
  rcases hv with rfl | rfl | rfl | rfl | rfl | rfl
  · exact bit_a _
  · exact bit_b _
  · exact bit_br _
  · exact bit_no _
  · exact bit_st _
  · exact bit_st _
theorem bits4 (t1 t2 t3 t4 : Tok) : ∀ v ∈ [Value.str "a" t1, .str "b" t2, .str "[" t3, .str "" t4], BitV v := by
  intro v hv
  simp only [List.mem_cons, List.not_mem_nil, or_false] at hv
  rcases hv with rfl | rfl | rfl | rfl
  · exact bit_a _
  · exact bit_b _
  · exact bit_br _
  · exact bit_no _
section
variable {prog : Program} {w : World} {A : Around} {E : Value → Shared → Prop} {s : Shared} {h₀ : Heap} {L : Addr} {m : Str → Option Value} {news : Led}
/-- an item of a written list, at a place cut by the remainder -/
theorem item_mod {value slice : Expr} {l : Addr} {its : List Value} {a d : Int} {u : Tok} {Q : Value → Shared → Prop} (hl : s.heap.IsList l its.toArray) (hk : d = (its.length : Int)) (h0 : 0 < d) (hsz : d ≤ 1000) (hP : ∀ v ∈ its, BitV v) (h : ∀ v, BitV v → Q v s)
    (hs : ∀ a : Int, subscripted slice false (.ref l) (.int a u) = operate [.ref l, .int a u] (getItem (.ref l) (.int a u))) (hg : ∀ r, letTemporaryGo value (.ref l) r = pure ()) :
    wpAny (model prog w) A (subscriptTail value slice (.ref l) (.int (a.fmod d) u)) Q E s := by
  have h1 : 0 ≤ a.fmod d := Int.fmod_nonneg_of_pos _ h0
  have h2 : a.fmod d < d := Int.fmod_lt_of_pos _ h0
  obtain ⟨n, hn⟩ := Int.eq_ofNat_of_zero_le h1
  rw [hn] at h2 ⊢
  have hlt : n < its.length := by omega
  exact item_at (x := its[n]) hl (List.getElem?_eq_getElem hlt) (by omega) (h _ (hP _ (List.getElem_mem hlt))) (hs _) hg
theorem newList_keep {items : List Value} {Q : Value → Shared → Prop} (F : Fr h₀ L s.heap m) (N : News h₀ L s.heap news) (hsz : items.length ≤ 1000)
    (h : ∀ D h', Fr h₀ L h' m → News h₀ L h' ((D, W.listOf items.toArray 0) :: news) → (∀ p ∈ news, p.1 < D) → (∀ b o, s.heap.get? b = some o → h'.get? b = some o) → Q (.ref D) { s with heap := h' }) : wpAny (model prog w) A (newList items) Q E s :=
  wpAny_newList (h _ _ (F.push _) (N.push F _) (fun p hp => Heap.lt_size (N p hp).1) fun b o e => Heap.get?_push_of_some _ e) (by rw [sizeLine_eq]; omega)
theorem int_get {vs : List Value} (h : ∀ v ∈ vs, ∃ x t, v = Value.int x t) {i : Nat} {v : Value} (e : vs[i]? = some v) : ∃ x t, v = Value.int x t := h v (List.mem_of_getElem? e)
theorem ints3 {a b c : Int} {ta tb tc : Tok} : ∀ v ∈ [Value.int a ta, .int b tb, .int c tc], ∃ x t, v = Value.int x t := by
  intro v hv
  simp only [List.mem_cons, List.not_mem_nil, or_false] at hv
  rcases hv with rfl | rfl | rfl <;> exact ⟨_, _, rfl⟩
theorem ints2 {a b : Int} {ta tb : Tok} : ∀ v ∈ [Value.int a ta, .int b tb], ∃ x t, v = Value.int x t := by
  intro v hv
  simp only [List.mem_cons, List.not_mem_nil, or_false] at hv
  rcases hv with rfl | rfl <;> exact ⟨_, _, rfl⟩
theorem name_own {x : Str} {pos : Pos} {scope : Scope} {cl : List (Str × Addr)} {C : Addr} {env : Env} {h1 : Heap} {v : Value} {Q : Value → Shared → Prop} (hn : h1.Ns C m) (hv : m x = some v) (hk : ∀ b o, h1.get? b = some o → s.heap.get? b = some o) (hs : (compEnvC scope cl C env).scope.kind = .function) (hl : (compEnvC scope cl C env).kindOf x = some .local) (hd : (x == ("__debug__" : Str)) = false) (h : Q v s) :
    wpAny (model prog w) A (eval (.Name x pos) (compEnvC scope cl C env)) Q E s := wpAny_Name (wpAny_loadName_local hs hl (m := m) (by obtain ⟨o, es, ep, e, r⟩ := hn; exact ⟨o, es, ep, hk _ o e, r⟩) hv h) hd
theorem fdiv_pow {x b : Int} {i : Nat} {t u : Tok} {Q : Value → Shared → Prop} (hb0 : 0 < b) (hb : b ≤ 6) (hi : i < 5) (h : ∀ y t', Q (.int y t') { s with toks := s.toks + 1 }) : wpAny (model prog w) A (binaryOp .FloorDiv (.int x t) (.int (b ^ ((i : Int)).toNat) u)) Q E s := by
  have h1 : 0 < b ^ ((i : Int)).toNat := Int.pow_pos hb0
  have h2 : b ^ ((i : Int)).toNat ≤ 7776 := by
    rw [Int.toNat_natCast]
    have : i = 0 ∨ i = 1 ∨ i = 2 ∨ i = 3 ∨ i = 4 := by omega
    have hb' : b = 1 ∨ b = 2 ∨ b = 3 ∨ b = 4 ∨ b = 5 ∨ b = 6 := by omega
    rcases this with rfl | rfl | rfl | rfl | rfl <;> rcases hb' with rfl | rfl | rfl | rfl | rfl | rfl <;> decide
  exact floordiv_int (by omega) (h _ _) (Or.inl (PyProof.noPylong_small (by omega)))
theorem with_toks {α : Type} {M : Model} {c : Sem α} {Q : α → Shared → Prop} (h : wpAny M A c (fun a s' => s.toks ≤ s'.toks → Q a s') E s) : wpAny M A c Q E s :=
  wpAny_with_toks (Nat.le_refl _) (wpAny_mono h (fun _ _ x => x) fun _ _ e _ => e)
theorem paired3F {F : Value → Value → Prop} {a b c : Value} {ys : List Value} (h : Paired F [a, b, c] ys) : ∃ x y z, ys = [x, y, z] ∧ F a x ∧ F b y ∧ F c z := by
  cases h with
  | cons h1 h => cases h with
    | cons h2 h => cases h with
      | cons h3 h => cases h with
        | nil => exact ⟨_, _, _, rfl, h1, h2, h3⟩
noncomputable def DotV (v y : Value) : Prop := ∀ S t, v = .str (strOf S) t → ∃ u, y = .str (strOf (dotS S)) u
theorem dots3 {S0 S1 S2 : List Nat} {t0 t1 t2 : Tok} {ys : List Value} (h : Paired DotV [Value.str (strOf S0) t0, .str (strOf S1) t1, .str (strOf S2) t2] ys) : ∃ u0 u1 u2, ys = [Value.str (strOf (dotS S0)) u0, .str (strOf (dotS S1)) u1, .str (strOf (dotS S2)) u2] := by
  obtain ⟨x, y, z, rfl, h0, h1, h2⟩ := paired3F h
  obtain ⟨u0, rfl⟩ := h0 _ _ rfl
  obtain ⟨u1, rfl⟩ := h1 _ _ rfl
  obtain ⟨u2, rfl⟩ := h2 _ _ rfl
  exact ⟨_, _, _, rfl⟩
theorem strOf_inj' {S T : List Nat} (h : strOf S = strOf T) : S = T := by
  have := strOf_inj (S := S) (T := T)
  rw [h] at this; simpa using this.symm
theorem dot_v {S : List Nat} (hS : Pat S) {t u : Tok} : DotV (.str (strOf S) t) (.str (Txt.replace (strOf S) "*" "...") u) := by
  intro T t' e
  have := strOf_inj' (Value.str.inj e).1
  subst this
  exact ⟨u, by rw [rep_star hS]⟩
theorem pats3 {S0 S1 S2 : List Nat} {t0 t1 t2 : Tok} (h0 : Pat S0) (h1 : Pat S1) (h2 : Pat S2) : ∀ v ∈ [Value.str (strOf S0) t0, .str (strOf S1) t1, .str (strOf S2) t2], WordV v := by
  intro v hv
  simp only [List.mem_cons, List.not_mem_nil, or_false] at hv
  rcases hv with rfl | rfl | rfl
  · exact ⟨_, _, h0, rfl⟩
  · exact ⟨_, _, h1, rfl⟩
  · exact ⟨_, _, h2, rfl⟩
theorem mem_get {P : Value → Prop} {vs : List Value} (h : ∀ v ∈ vs, P v) {i : Nat} {v : Value} (e : vs[i]? = some v) : P v := h v (List.mem_of_getElem? e)
theorem pat_fit {S : List Nat} (h : Pat S) {z : Str} (hz : z.length ≤ 10) : (strOf S).length + ((strOf S).length + 1) * z.length ≤ 16777216 := by
  have h1 := h.1
  rw [strOf_len]
  have : (S.length + 1) * z.length ≤ 6 * 10 := Nat.mul_le_mul (by omega) hz
  omega
theorem paired3 {P : Value → Prop} {a b c : Value} {ys : List Value} (h : Paired (fun _ y => P y) [a, b, c] ys) : ∃ x y z, ys = [x, y, z] ∧ P x ∧ P y ∧ P z := by
  cases h with
  | cons h1 h => cases h with
    | cons h2 h => cases h with
      | cons h3 h => cases h with
        | nil => exact ⟨_, _, _, rfl, h1, h2, h3⟩
theorem paired2 {P : Value → Prop} {a b : Value} {ys : List Value} (h : Paired (fun _ y => P y) [a, b] ys) : ∃ x y, ys = [x, y] ∧ P x ∧ P y := by
  cases h with
  | cons h1 h => cases h with
    | cons h2 h => cases h with
      | nil => exact ⟨_, _, rfl, h1, h2⟩
theorem paired_all {P : Value → Prop} {l : List Nat} {ys : List Value} (h : Paired (fun _ y => P y) l ys) : ys.length = l.length ∧ ∀ y ∈ ys, P y := by
  induction h with
  | nil => simp
  | cons h1 _ ih => exact ⟨by simp [ih.1], fun y hy => by rcases List.mem_cons.mp hy with rfl | hy; exact h1; exact ih.2 y hy⟩
theorem bits_join : ∀ (ys : List Value), (∀ y ∈ ys, BitV y) → ∃ Ss : List (List Nat), (∀ S ∈ Ss, Bit S) ∧ Ss.length = ys.length ∧ StrsAre ys (Ss.map strOf)
  | [], _ => ⟨[], by simp, rfl, .nil⟩
  | y :: ys, h => by
    obtain ⟨S, t, hS, rfl⟩ := h y (.head _)
    obtain ⟨Ss, h1, h2, h3⟩ := bits_join ys fun z hz => h z (.tail _ hz)
    exact ⟨S :: Ss, fun T hT => by rcases List.mem_cons.mp hT with rfl | hT; exact hS; exact h1 T hT, by simp [h2], .cons _ _ h3⟩
theorem join_flat : ∀ Ss : List (List Nat), Str.join (Str.ofString "") (Ss.map strOf) = strOf Ss.flatten
  | [] => rfl
  | [S] => by simp [Str.join]
  | S :: T :: r => by
    have e : Str.join (Str.ofString "") ((S :: T :: r).map strOf) = strOf S ++ (Str.ofString "") ++ Str.join (Str.ofString "") ((T :: r).map strOf) := rfl
    rw [e, join_flat (T :: r)]
    apply Str.ext'
    rw [Str.cps_append, Str.cps_append]
    show S.toArray ++ #[] ++ (T :: r).flatten.toArray = (S :: T :: r).flatten.toArray
    simp
theorem flat_bits : ∀ Ss : List (List Nat), (∀ S ∈ Ss, Bit S) → Ss.flatten.length ≤ Ss.length ∧ ∀ c ∈ Ss.flatten, Sign c
  | [], _ => by simp
  | S :: r, h => by
    obtain ⟨h1, h2⟩ := flat_bits r fun T hT => h T (.tail _ hT)
    obtain ⟨h3, h4⟩ := h S (.head _)
    refine ⟨by simp only [List.flatten_cons, List.length_append, List.length_cons]; omega, fun c hc => ?_⟩
    rcases List.mem_append.mp (List.flatten_cons ▸ hc) with q | q
    · exact h4 c q
    · exact h2 c q
theorem join_bits {D : Addr} {ys : List Value} {t : Tok} {Q : Value → Shared → Prop} (hl : s.heap.IsList D ys.toArray) (hn : ys.length ≤ 5) (hP : ∀ y ∈ ys, BitV y) (h : ∀ v k, WordV v → Q v { s with toks := k }) : wpAny (model prog w) A (call (.builtin "str.join") [.str (Str.ofString "") t, .ref D]) Q E s := by
  obtain ⟨Ss, h1, h2, h3⟩ := bits_join ys hP
  obtain ⟨h4, h5⟩ := flat_bits Ss h1
  have hb : ((Ss.map strOf).map (·.length)).sum ≤ (Ss.map strOf).length * 5 := StrLaws.sumLen_le _ fun y hy => by
    obtain ⟨S, hS, rfl⟩ := List.mem_map.mp hy
    rw [strOf_len]; have := (h1 S hS).1; omega
  refine PyProof.Rows.join_list hl (ys := Ss.map strOf) (by simpa using h3) ?_ fun t' k => h _ k ⟨Ss.flatten, t', ⟨by omega, h5⟩, ?_⟩
  · rw [List.length_map] at hb ⊢
    show _ + _ * 0 ≤ _
    omega
  · congr 1
    show glued _ _ = _
    rw [StrLaws.glued_eq_join, join_flat]
end
end Mine
end

section
open PySem PySem.W PySem.Spec PySem.Calls PyProof.Rows PySem.Builtin PySem.Builtin.Str
set_option Elab.async false
set_option maxRecDepth 100000
set_option maxHeartbeats 4000000
namespace Mine
section
variable {prog : Program} {w : World} {A : Around} {E : Value → Shared → Prop} {R : Result → Shared → Prop} {s : Shared}
theorem isCell_at {h h' : Heap} {c : Addr} {v : Option Value} {wr : List Addr} (x : h.IsCell c v) (k : ∀ b o, b ∉ wr → h.get? b = some o → h'.get? b = some o) (hc : c ∉ wr) : h'.IsCell c v := by
  obtain ⟨o, e, d⟩ := x; exact ⟨o, k c o hc e, d⟩
theorem ns_keepsAt {h h' : Heap} {C : Addr} {m : Str → Option Value} (x : h.Ns C m) (k : ∀ o, h.get? C = some o → h'.get? C = some o) : h'.Ns C m := by
  obtain ⟨o, es, ep, e, r⟩ := x; exact ⟨o, es, ep, k o e, r⟩
/-- a comprehension's loop whose variable is a cell of its own scope -/
theorem compLoop_cell {elt iter : Expr} {x : Str} {px : Pos} {scope : Scope} {pos : Pos} {I D c : Addr} {fp wr : List Addr} {n : Nat} {P : Nat → Value → Prop} {St : Nat → Heap → Prop}
    {cenv : Env} {m : Str → Option Value} {v₀ : Option Value} (W : Walks prog w A I fp wr n P St) (F : Value → Value → Prop)
    (hk : cenv.scope.kind = .function) (hx : cenv.kindOf x = some .cell) (hc : cenv.cells.lookup x = some c)
    (hDC : D ≠ cenv.locals) (hDf : D ∉ fp) (hCf : cenv.locals ∉ fp) (hcf : c ∉ fp) (hcD : c ≠ D) (hcC : c ≠ cenv.locals)
    (hst : St 0 s.heap) (hacc : s.heap.PlainList D #[]) (hn : s.heap.Ns cenv.locals m) (hcell : s.heap.IsCell c v₀)
    (helt : ∀ i v s₂, P i v → s₂.heap.IsCell c (some v) → (∀ b o, b ≠ c → b ∉ wr → b ≠ D → s.heap.get? b = some o → s₂.heap.get? b = some o) →
      wpAny (model prog w) A (eval elt cenv) (fun y s₃ => F v y ∧ Keeps s₂ s₃) (notedBy (model prog w) A cenv fun e s' => R (.error e) s') s₂)
    (hR : ∀ h' tk ys (vs : List Value), h'.Ns cenv.locals m → h'.IsList D ys → h'.PlainList D ys → vs.length = n → (∀ j v, vs[j]? = some v → P j v) → Paired F vs ys.toList →
      (∀ b o, b ≠ c → b ∉ wr → b ≠ D → s.heap.get? b = some o → h'.get? b = some o) → s.toks ≤ tk → R (.ok .next) { s with heap := h', toks := tk })
    (hsz : n ≤ sizeLine := by size_fits) :
    codeAny (model prog w) A (.compLoop (.ListComp elt [⟨.Name x px, iter, [], 0⟩] scope pos) 0 (.ref I) (.ref D) cenv) R s := by
  have hCw : cenv.locals ∉ wr := fun h => hCf (W.sub _ h)
  have hDw : D ∉ wr := fun h => hDf (W.sub _ h)
  have hcw : c ∉ wr := fun h => hcf (W.sub _ h)
  refine codeAny_compLoop_list
    (fun k s' => ∃ h' tk ys, ∃ vs : List Value, ∃ vc, s' = { s with heap := h', toks := tk } ∧ St vs.length h' ∧ h'.PlainList D ys ∧ h'.Ns cenv.locals m ∧ h'.IsCell c vc ∧ (∀ j v, vs[j]? = some v → P j v) ∧
      Paired F vs ys.toList ∧ vs.length ≤ n ∧ k = n + 1 - vs.length ∧
      (∀ b o, b ≠ c → b ∉ wr → b ≠ D → s.heap.get? b = some o → h'.get? b = some o) ∧ s.toks ≤ tk) ?_ (n + 1)
    ⟨s.heap, s.toks, #[], [], v₀, rfl, hst, hacc, hn, hcell, by simp, by simpa using Paired.nil, Nat.zero_le _, rfl, fun _ _ _ _ _ e => e, Nat.le_refl _⟩
  rintro k s' ⟨H, tk, ys, vs, vc, rfl, hst', hacc', hn', hcell', hP, hF, hi, rfl, hkp, htk⟩
  by_cases hlt : vs.length < n
  · refine wpAny_with_toks (n := s.toks) htk (W.item vs.length _ _ _ hlt hst' fun v h1 tk1 hv hst1 k1 htk1 => ?_)
    refine wpAny_assign_Name (wpAny_storeName_cell hk hx hc (isCell_at hcell' k1 hcw) fun h2 hc2 hs2 => ?_)
    have k2 : ∀ b o, b ≠ c → b ∉ wr → H.get? b = some o → h2.get? b = some o := fun b o hb hw e => hs2.extBut b o hb (k1 b o hw e)
    refine wpAny_mono (wpAny_toks_of (n := s.toks) htk1 (helt vs.length v _ hv hc2 fun b o hb hw hd e => k2 b o hb hw (hkp b o hb hw hd e))) (fun y s₃ hy => ?_) fun _ _ z => z.2
    obtain ⟨htk3, hFy, h3, tk3, rfl, k3⟩ := hy
    have hD3 : h3.PlainList D ys := hacc'.at fun o e => k3 D o (k2 D o (Ne.symm hcD) hDw e)
    refine wpAny_list_append_plain hD3 (fun h4 hl4 hs4 => ?_) (by have := hF.length; simp at this; omega)
    have k4 : ∀ b o, b ≠ c → b ∉ wr → b ≠ D → H.get? b = some o → h4.get? b = some o := fun b o hb hw hd e => hs4.extBut b o hd (k3 b o (k2 b o hb hw e))
    refine ⟨n + 1 - (vs ++ [v]).length, by simp; omega, h4, tk3, ys.push y, vs ++ [v], some v, rfl, ?_, hl4, ?_, ?_, ?_, ?_, by simp; omega, rfl, fun b o hb hw hd e => k4 b o hb hw hd (hkp b o hb hw hd e), htk3⟩
    · rw [List.length_append]
      exact W.frame _ _ _ hst1 fun b hb o e => hs4.extBut b o (by rintro rfl; exact hDf hb) (k3 b o (hs2.extBut b o (by rintro rfl; exact hcf hb) e))
    · exact ((ns_keepsAt hn' fun o e => k4 _ o (Ne.symm hcC) hCw (Ne.symm hDC) e))
    · obtain ⟨o, e, d⟩ := hc2; exact ⟨o, hs4.extBut c o hcD (k3 c o e), d⟩
    · intro j u hu
      rw [List.getElem?_append] at hu
      split at hu
      · exact hP j u hu
      · rw [List.getElem?_singleton] at hu
        split at hu
        · obtain rfl := Option.some.inj hu
          rename_i h5 h6
          rw [show j = vs.length by omega]; exact hv
        · cases hu
    · rw [Array.toList_push]; exact hF.snoc hFy
  · have hle : vs.length = n := by omega
    rw [hle] at hst'
    refine wpAny_with_toks (n := s.toks) htk (W.done _ _ _ hst' fun h1 tk1 k1 htk1 => ?_)
    refine hR h1 tk1 ys vs (ns_keepsAt hn' fun o e => k1 _ o hCw e) (hacc'.isList.at fun o e => k1 _ o hDw e) (hacc'.at fun o e => k1 _ o hDw e) hle hP hF (fun b o hb hw hd e => k1 b o hw (hkp b o hb hw hd e)) htk1
theorem compEnv_cells {scope : Scope} {globals : Addr} {qual : Str} {outer : Env} {M : Model} {Q : Env → Shared → Prop}
    (hQ : Q (newEnv scope s.heap.objs.size globals (cellsFrom (s.heap.objs.size + 1) scope.names []) qual none .none (some outer) builtinsNs) { s with heap := pushCells (s.heap.push { cls := .type "dict", data := .dict #[] }) scope.names }) :
    wpAny M A (newFunctionEnv scope globals [] [] qual none .none (some outer)) Q E s := by
  simp only [newFunctionEnv, Option.isSome_some, if_true]
  refine wpAny_bind (wpAny_alloc ?_)
  refine wpAny_bind (wpAny_layCells _ (fun name kind cells => by cases hkc : kind == NameKind.cell <;> simp [hkc]) _ _ _ _ ?_)
  rw [Heap.size_push]
  simp only [List.forIn_nil]
  exact wpAny_bind (wpAny_pure (wpAny_pure hQ))
theorem comp_block_cell {elt iter : Expr} {x : Str} {px : Pos} {scope : Scope} {env : Env} {pos : Pos} {s₂ : Shared} {I : Addr} {fp wr : List Addr} {n : Nat} {P : Nat → Value → Prop}
    {St : Nat → Heap → Prop} (W : Walks prog w A I fp wr n P St) (hsz : n ≤ sizeLine) (F : Value → Value → Prop) {RR : Value → Addr → Result → Shared → Prop}
    (hcf : ∀ k, cellsFrom k scope.names [] = [(x, k)]) (hpc : ∀ h : Heap, pushCells h scope.names = h.push { cls := .type "cell", data := .cell none }) (hkind : scope.kind = .function) (hx : (relabel scope env).names.lookup x = some .cell) (hst : St 0 s₂.heap) (hfp : ∀ b ∈ fp, b < s₂.heap.objs.size)
    (helt : ∀ C c i v s₃ E', P i v → s₃.heap.IsCell c (some v) → s₂.heap.get? c = none → (∀ b o, b ∉ wr → s₂.heap.get? b = some o → s₃.heap.get? b = some o) →
      wpAny (model prog w) A (eval elt (compEnvC scope [(x, c)] C env)) (fun y s₄ => F v y ∧ Keeps s₃ s₄) E' s₃)
    (hRR : ∀ D C h' tk ys (vs : List Value), s₂.heap.get? D = none → s₂.heap.get? C = none → D ≠ C → h'.Ns C (fun _ => none) → h'.IsList D ys → h'.PlainList D ys → vs.length = n → (∀ j v, vs[j]? = some v → P j v) → Paired F vs ys.toList →
      (∀ b o, b ∉ wr → s₂.heap.get? b = some o → h'.get? b = some o) → s₂.toks ≤ tk → RR (.ref D) C (.ok .next) { s₂ with heap := h', toks := tk }) :
    wpAny (model prog w) A (newList []) (fun acc s₃ => wpAny (model prog w) A (newFunctionEnv scope env.globals [] [] env.qual none .none (some env)) (fun cenv s₄ =>
      codeAny (model prog w) A (.compStart (.ListComp elt [⟨.Name x px, iter, [], 0⟩] scope pos) 0 (.ref I) acc { cenv with scope := relabel scope env }) (RR acc cenv.locals) s₄) E s₃) E s₂ := by
  refine wpAny_newObj_type (compEnv_cells ?_)
  generalize hH2 : s₂.heap.push { cls := .type "list", dict := none, data := .seq ([] : List Value).toArray } = H2
  dsimp only
  rw [hcf, hpc]
  have hC : H2.objs.size = s₂.heap.objs.size + 1 := by rw [← hH2, Heap.size_push]
  have eD : H2.get? s₂.heap.objs.size = some { cls := .type "list", dict := none, data := .seq ([] : List Value).toArray } := by rw [← hH2]; exact Heap.get?_push_size _ rfl
  have old0 : ∀ b o, s₂.heap.get? b = some o → H2.get? b = some o := fun b o e => by rw [← hH2]; exact Heap.get?_push_of_some _ e
  have hsz3 : (H2.push { cls := .type "dict", data := .dict #[] }).objs.size = H2.objs.size + 1 := Heap.size_push ..
  have old : ∀ b o, s₂.heap.get? b = some o → ((H2.push { cls := .type "dict", data := .dict #[] }).push { cls := .type "cell", data := .cell none }).get? b = some o := fun b o e => Heap.get?_push_of_some _ (Heap.get?_push_of_some _ (old0 b o e))
  have hcell : ((H2.push { cls := .type "dict", data := .dict #[] }).push { cls := .type "cell", data := .cell none }).IsCell (H2.objs.size + 1) none := ⟨_, by rw [← hsz3]; exact Heap.get?_push_size _ rfl, rfl⟩
  have below : ∀ b, b < s₂.heap.objs.size → b ≠ H2.objs.size ∧ b ≠ s₂.heap.objs.size ∧ b ≠ H2.objs.size + 1 := fun b hb => by
    rw [hC]; exact ⟨Nat.ne_of_lt (by omega), Nat.ne_of_lt hb, Nat.ne_of_lt (by omega)⟩
  have fresh : ∀ a, s₂.heap.objs.size ≤ a → s₂.heap.get? a = none := fun a ha => by
    cases e : s₂.heap.get? a with
    | none => rfl
    | some o' => exact absurd (Heap.lt_size e) (Nat.not_lt.mpr ha)
  have loop : codeAny (model prog w) A (.compLoop (.ListComp elt [⟨.Name x px, iter, [], 0⟩] scope pos) 0 (.ref I) (.ref s₂.heap.objs.size) (compEnvC scope [(x, H2.objs.size + 1)] H2.objs.size env))
        (RR (.ref s₂.heap.objs.size) H2.objs.size) { s₂ with heap := (H2.push { cls := .type "dict", data := .dict #[] }).push { cls := .type "cell", data := .cell none } } := by
    refine compLoop_cell (c := H2.objs.size + 1) (hsz := hsz) (cenv := compEnvC scope [(x, H2.objs.size + 1)] H2.objs.size env) (m := fun _ => none) (v₀ := none) W F hkind hx (by simp [compEnvC]) ?_ ?_ ?_ ?_ ?_ ?_ (W.frame _ _ _ hst fun b _ o e => old b o e) ⟨_, Heap.get?_push_of_some _ (Heap.get?_push_of_some _ eD)⟩ ?_ hcell (fun i v s₃ hv hc hk => ?_) fun h' tk ys vs hn ha hpl hlen hP hF hk htk => ?_
    · exact Nat.ne_of_lt (by show s₂.heap.objs.size < H2.objs.size; omega)
    · exact fun hm => Nat.lt_irrefl _ (hfp _ hm)
    · exact fun hm => by have := hfp _ hm; exact absurd this (by show ¬ (H2.objs.size < s₂.heap.objs.size); omega)
    · exact fun hm => by have := hfp _ hm; exact absurd this (by show ¬ (H2.objs.size + 1 < s₂.heap.objs.size); omega)
    · exact Nat.ne_of_gt (by show s₂.heap.objs.size < H2.objs.size + 1; omega)
    · exact Nat.ne_of_gt (Nat.lt_succ_self _)
    · exact (Heap.Ns.new H2 (.type "dict")).keeps (fun b o e => Heap.get?_push_of_some _ e)
    · exact helt _ _ i v s₃ _ hv hc (fresh _ (by rw [hC]; omega)) fun b o hw e => hk b o (below b (Heap.lt_size e)).2.2 hw (below b (Heap.lt_size e)).2.1 (old b o e)
    · exact hRR _ _ h' tk ys vs (fresh _ (Nat.le_refl _)) (fresh _ (by show s₂.heap.objs.size ≤ H2.objs.size; omega)) (Nat.ne_of_lt (by show s₂.heap.objs.size < H2.objs.size; omega)) hn ha hpl hlen hP hF (fun b o hw e =>
        hk b o (below b (Heap.lt_size e)).2.2 hw (below b (Heap.lt_size e)).2.1 (old b o e)) htk
  exact codeAny_compStart_list loop (W.self 0 _ _ _ (W.frame _ _ _ hst fun b _ o e => old b o e) loop)
/-- a comprehension over a list, its variable a cell of its own scope -/
theorem comp_cell {elt iter : Expr} {x : Str} {px : Pos} {scope : Scope} {env : Env} {pos : Pos} {h₀ : Heap} {L : Addr} {m : Str → Option Value} {news : Led} {Q : Value → Shared → Prop} (Y : Value → Value → Prop)
    (_F : Fr h₀ L s.heap m) (_N : News h₀ L s.heap news) (hh : A.handled = none) (hclos : closureFor scope env = pure []) (hcf : ∀ k, cellsFrom k scope.names [] = [(x, k)]) (hpc : ∀ h : Heap, pushCells h scope.names = h.push { cls := .type "cell", data := .cell none }) (hkind : scope.kind = .function)
    (hx : (relabel scope env).names.lookup x = some .cell) (hnames : ∀ y ∈ scope.names, y.2 = .local → scope.names.lookup y.1 = some .local) (hs : ∀ x, foldedSetIterable iter env x = pure x)
    (h : wpAny (model prog w) A (eval iter env) (fun xv s₁ => ∃ (ax : Addr) (vs : List Value), xv = .ref ax ∧ s₁.heap.IsList ax vs.toArray ∧ vs.length ≤ 1000 ∧ Fr h₀ L s₁.heap m ∧ News h₀ L s₁.heap news ∧
      (∀ (C c : Addr) (i : Nat) (v : Value) (s₂ : Shared) (E' : Value → Shared → Prop) (oc : Obj), vs[i]? = some v → oc.data = .cell (some v) → Fr h₀ L s₂.heap m → News h₀ L s₂.heap ((c, oc) :: news) → (∀ b o, s₁.heap.get? b = some o → s₂.heap.get? b = some o) →
        wpAny (model prog w) A (eval elt (compEnvC scope [(x, c)] C env)) (fun y s₃ => Y v y ∧ Keeps s₂ s₃) E' s₂) ∧
      (∀ D (ys : List Value) n h' tk, Fr h₀ L h' m → News h₀ L h' ((D, listOf ys.toArray n) :: news) → AllNe D news → Paired Y vs ys → (∀ b o, s₁.heap.get? b = some o → h'.get? b = some o) → s₁.toks ≤ tk → Q (.ref D) { s₁ with heap := h', toks := tk })) E s) :
    wpAny (model prog w) A (eval (.ListComp elt [⟨.Name x px, iter, [], 0⟩] scope pos) env) Q E s := by
  rw [eval_ListComp]
  refine wpAny_comprehension_free (use := none) rfl hs hclos hkind hnames (wpAny_mono h (fun xv s₁ h₁ => ?_) fun _ _ e => e)
  obtain ⟨ax, vs, rfl, hl, hsz, F, N, helt, hQ⟩ := h₁
  have hlt : ax < s₁.heap.objs.size := by obtain ⟨_, e, _⟩ := hl; exact Heap.lt_size e
  have up : ∀ (s₃ : Shared), (∀ b o, b ∉ [s₁.heap.objs.size] → (s₁.heap.push { cls := .type "list_iterator", data := .fields #[.ref ax, .int 0 0] }).get? b = some o → s₃.heap.get? b = some o) → ∀ b o, s₁.heap.get? b = some o → s₃.heap.get? b = some o :=
    fun s₃ hk b o e => hk b o (fun hm => by rcases List.mem_cons.mp hm with rfl | hm; exact Nat.lt_irrefl _ (Heap.lt_size e); cases hm) (Heap.get?_push_of_some _ e)
  refine wpAny_pyIter_list hl ?_
  refine comp_block_cell (fp := [s₁.heap.objs.size, ax]) (wr := [s₁.heap.objs.size]) (n := vs.toArray.size) (RR := fun acc C => compPost (model prog w) A E none Q acc C) (Walks.list hh _ _ (Nat.ne_of_lt hlt) vs.toArray) (by rw [List.size_toArray, sizeLine_eq]; omega) Y hcf hpc hkind hx ⟨⟨_, Heap.get?_push_size _ rfl, rfl, rfl⟩, hl.push _⟩ ?_ ?_ ?_
  · intro b hb
    show b < (s₁.heap.push _).objs.size
    rw [Heap.size_push]
    rcases List.mem_cons.mp hb with rfl | hb
    · exact Nat.lt_succ_self _
    · rcases List.mem_cons.mp hb with rfl | hb
      · exact Nat.lt_succ_of_lt hlt
      · cases hb
  · intro C c i v s₃ E' hP hc hnew hk
    obtain ⟨oc, hoc, hd⟩ := hc
    have hno : s₁.heap.get? c = none := by
      cases e : s₁.heap.get? c with
      | none => rfl
      | some o' => rw [Heap.get?_push_of_some _ e] at hnew; cases hnew
    obtain ⟨F', N', _⟩ := news_add F N hno hoc (up s₃ hk)
    exact helt C c i v s₃ E' oc (by simpa using hP) hd F' N' (up s₃ hk)
  · intro D C h' tk ys vs' hnew hC hDC hn hl' hpl hlen hP hF hk htk
    refine ⟨fun _ => none, hn, fun h'' hs'' => ?_⟩
    have e : vs' = vs := by simpa using list_of_places hlen hP
    subst e
    obtain ⟨n, hD⟩ := hpl
    have hD' : h''.get? D = some (listOf ys.toList.toArray n) := by rw [Array.toArray_toList]; exact hs''.extBut _ _ hDC hD
    have hno : s₁.heap.get? D = none := by
      cases e : s₁.heap.get? D with
      | none => rfl
      | some o' => rw [Heap.get?_push_of_some _ e] at hnew; cases hnew
    have hup : ∀ b o, s₁.heap.get? b = some o → h''.get? b = some o := fun b o e => hs''.extBut b o (by rintro rfl; rw [Heap.get?_push_of_some _ e] at hC; cases hC) (up { s₁ with heap := h' } hk b o e)
    obtain ⟨F', N', ne⟩ := news_add F N hno hD' hup
    exact hQ D ys.toList n h'' tk F' N' ne hF hup htk
/-- a comprehension over a list, its variable a cell of its own scope, stored in a local -/
theorem comp_cellA {elt iter : Expr} {x y : Str} {px py : Pos} {spos : Pos} {scope : Scope} {env : Env} {pos : Pos} {h₀ : Heap} {L : Addr} {m : Str → Option Value} {news : Led} {Q : Flow → Shared → Prop} (Y : Value → Value → Prop)
    (_F : Fr h₀ L s.heap m) (_N : News h₀ L s.heap news) (hL : env.locals = L) (hsw : swapsWith (.ListComp elt [⟨.Name x px, iter, [], 0⟩] scope pos) (some (.Name y py)) spos.line env = pure true) (hy : env.kindOf y = some .local) (hp : (env.scope.kind == .class || (env.scope.kind == .module && env.locals != env.globals)) = false) (hh : A.handled = none) (hclos : closureFor scope env = pure []) (hcf : ∀ k, cellsFrom k scope.names [] = [(x, k)]) (hpc : ∀ h : Heap, pushCells h scope.names = h.push { cls := .type "cell", data := .cell none }) (hkind : scope.kind = .function)
    (hx : (relabel scope env).names.lookup x = some .cell) (hnames : ∀ y ∈ scope.names, y.2 = .local → scope.names.lookup y.1 = some .local) (hs : ∀ x, foldedSetIterable iter env x = pure x)
    (h : wpAny (model prog w) A (eval iter env) (fun xv s₁ => ∃ (ax : Addr) (vs : List Value), xv = .ref ax ∧ s₁.heap.IsList ax vs.toArray ∧ vs.length ≤ 1000 ∧ Fr h₀ L s₁.heap m ∧ News h₀ L s₁.heap news ∧
      (∀ (C c : Addr) (i : Nat) (v : Value) (s₂ : Shared) (E' : Value → Shared → Prop) (oc : Obj), vs[i]? = some v → oc.data = .cell (some v) → Fr h₀ L s₂.heap m → News h₀ L s₂.heap ((c, oc) :: news) → (∀ b o, s₁.heap.get? b = some o → s₂.heap.get? b = some o) →
        wpAny (model prog w) A (eval elt (compEnvC scope [(x, c)] C env)) (fun y s₃ => Y v y ∧ Keeps s₂ s₃) E' s₂) ∧
      (∀ D (ys : List Value) n h' tk, Fr h₀ L h' (fun z => if z = y then some (.ref D) else m z) → News h₀ L h' ((D, listOf ys.toArray n) :: news) → AllNe D news → Paired Y vs ys → (∀ b o, b ≠ L → s₁.heap.get? b = some o → h'.get? b = some o) → s₁.toks ≤ tk → Q .next { s₁ with heap := h', toks := tk })) E s) :
    wpAny (model prog w) A (exec (.Assign [.Name y py] (.ListComp elt [⟨.Name x px, iter, [], 0⟩] scope pos) spos) env) Q E s := by
  rw [exec_Assign_Name_used _ _ _ _ hsw]
  refine wpAny_bind (wpAny_standAt (wpAny_bind ?_))
  show wpAny _ A (do let _ ← comprehension (.ListComp elt [⟨.Name x px, iter, [], 0⟩] scope pos) scope env _ (newList []) false (eval iter env) (some (assign (.Name y py) env))) _ _ s
  refine wpAny_bind (wpAny_mono (wpAny_comprehension_free (use := some (assign (.Name y py) env)) (Q := fun _ s' => Q .next s') rfl hs hclos hkind hnames
    (wpAny_mono h (fun xv s₁ h₁ => ?_) fun _ _ e => e)) (fun _ s' hq => wpAny_pure (wpAny_pure hq)) fun _ _ e => e)
  obtain ⟨ax, vs, rfl, hl, hsz, F, N, helt, hQ⟩ := h₁
  have hlt : ax < s₁.heap.objs.size := by obtain ⟨_, e, _⟩ := hl; exact Heap.lt_size e
  have up : ∀ (s₃ : Shared), (∀ b o, b ∉ [s₁.heap.objs.size] → (s₁.heap.push { cls := .type "list_iterator", data := .fields #[.ref ax, .int 0 0] }).get? b = some o → s₃.heap.get? b = some o) → ∀ b o, s₁.heap.get? b = some o → s₃.heap.get? b = some o :=
    fun s₃ hk b o e => hk b o (fun hm => by rcases List.mem_cons.mp hm with rfl | hm; exact Nat.lt_irrefl _ (Heap.lt_size e); cases hm) (Heap.get?_push_of_some _ e)
  refine wpAny_pyIter_list hl ?_
  refine comp_block_cell (fp := [s₁.heap.objs.size, ax]) (wr := [s₁.heap.objs.size]) (n := vs.toArray.size) (RR := fun acc C => compPost (model prog w) A E (some (assign (.Name y py) env)) (fun _ s' => Q .next s') acc C) (Walks.list hh _ _ (Nat.ne_of_lt hlt) vs.toArray) (by rw [List.size_toArray, sizeLine_eq]; omega) Y hcf hpc hkind hx ⟨⟨_, Heap.get?_push_size _ rfl, rfl, rfl⟩, hl.push _⟩ ?_ ?_ ?_
  · intro b hb
    show b < (s₁.heap.push _).objs.size
    rw [Heap.size_push]
    rcases List.mem_cons.mp hb with rfl | hb
    · exact Nat.lt_succ_self _
    · rcases List.mem_cons.mp hb with rfl | hb
      · exact Nat.lt_succ_of_lt hlt
      · cases hb
  · intro C c i v s₃ E' hP hc hnew hk
    obtain ⟨oc, hoc, hd⟩ := hc
    have hno : s₁.heap.get? c = none := by
      cases e : s₁.heap.get? c with
      | none => rfl
      | some o' => rw [Heap.get?_push_of_some _ e] at hnew; cases hnew
    obtain ⟨F', N', _⟩ := news_add F N hno hoc (up s₃ hk)
    exact helt C c i v s₃ E' oc (by simpa using hP) hd F' N' (up s₃ hk)
  · intro D C h' tk ys vs' hnew hC hDC hn hl' hpl hlen hP hF hk htk
    have e : vs' = vs := by simpa using list_of_places hlen hP
    subst e
    have hno : ∀ B, (s₁.heap.push { cls := .type "list_iterator", data := .fields #[.ref ax, .int 0 0] }).get? B = none → s₁.heap.get? B = none := fun B hB => by
      cases e : s₁.heap.get? B with
      | none => rfl
      | some o' => rw [Heap.get?_push_of_some _ e] at hB; cases hB
    have hupl : ∀ b o, s₁.heap.get? b = some o → h'.get? b = some o := up { s₁ with heap := h' } hk
    have nsL : s₁.heap.Ns L m := F.ns
    have hLC : L ≠ C := by rintro rfl; obtain ⟨o, _, _, ho, _⟩ := nsL; rw [hno _ hC] at ho; cases ho
    have hLD : L ≠ D := by rintro rfl; obtain ⟨o, _, _, ho, _⟩ := nsL; rw [hno _ hnew] at ho; cases ho
    subst hL
    show wpAny _ A (assign (.Name y py) env (.ref D)) _ _ _
    refine wpAny_assign_Name (wpAny_storeName_local hy (ns_keepsAt nsL fun o e => hupl _ o e) (fun h₂ hn₂ hs₂ => ?_) hp)
    refine ⟨fun _ => none, hn.sameBut hs₂ (Ne.symm hLC), fun h₃ hs₃ => ?_⟩
    obtain ⟨n, hD⟩ := hpl
    have hD' : h₃.get? D = some (listOf ys.toList.toArray n) := by rw [Array.toArray_toList]; exact hs₃.extBut _ _ hDC (hs₂.extBut _ _ (Ne.symm hLD) hD)
    have hup : ∀ b o, b ≠ env.locals → s₁.heap.get? b = some o → h₃.get? b = some o := fun b o hb e => hs₃.extBut b o (by rintro rfl; rw [hno _ hC] at e; cases e) (hs₂.extBut b o hb (hupl b o e))
    have hLn : h₀.get? env.locals = none := Heap.get?_none_of_le F.above
    have F' : Fr h₀ env.locals h₃ (fun z => if z = y then some (.ref D) else m z) := ⟨hn₂.sameBut hs₃ hLC, fun b o e => hup b o (by rintro rfl; rw [hLn] at e; cases e) (F.keep b o e), F.above⟩
    refine hQ D ys.toList n h₃ _ F' (fun p hp => ?_) ?_ hF hup (Nat.le_succ_of_le htk)
    · rcases List.mem_cons.mp hp with rfl | hp
      · refine ⟨hD', Ne.symm hLD, ?_⟩
        cases e : h₀.get? D with
        | none => rfl
        | some o => have := F.keep _ _ e; rw [hno _ hnew] at this; cases this
      · have := N p hp
        exact ⟨hup _ _ this.2.1 this.1, this.2⟩
    · exact (news_add F N (hno _ hnew) hD (fun b o e => hupl b o e)).2.2
/-- comp_my, stored in a local -/
theorem comp_myA {elt iter : Expr} {x y : Str} {px py : Pos} {scope : Scope} {cl : List (Str × Addr)} {env : Env} {pos spos : Pos} {h₀ : Heap} {L : Addr} {m : Str → Option Value} {news : Led} {Q : Flow → Shared → Prop} (p : Value → Bool) (Y : Value → Value → Prop) {ifs : List Expr}
    (_F : Fr h₀ L s.heap m) (_N : News h₀ L s.heap news) (hL : env.locals = L) (hsw : swapsWith (.ListComp elt [⟨.Name x px, iter, ifs, 0⟩] scope pos) (some (.Name y py)) spos.line env = pure true) (hy : env.kindOf y = some .local) (hp : (env.scope.kind == .class || (env.scope.kind == .module && env.locals != env.globals)) = false)
    (hh : A.handled = none) (hclos : closureFor scope env = pure cl) (hcell : ∀ y ∈ scope.names, y.2 ≠ .cell) (hkind : scope.kind = .function)
    (hnames : ∀ y ∈ scope.names, y.2 = .local → scope.names.lookup y.1 = some .local) (hx : scope.names.lookup x = some .local) (hs : ∀ x, foldedSetIterable iter env x = pure x)
    (h : wpAny (model prog w) A (eval iter env) (fun xv s₁ => ∃ (ax : Addr) (vs : List Value), xv = .ref ax ∧ s₁.heap.IsList ax vs.toArray ∧ vs.length ≤ 1000 ∧ Fr h₀ L s₁.heap m ∧ News h₀ L s₁.heap news ∧
      (∀ (C : Addr) (i : Nat) (v : Value) (s₂ : Shared) (m₂ : Str → Option Value) (E' : Value → Shared → Prop), vs[i]? = some v → s₂.heap.Ns C m₂ → m₂ x = some v → (∀ b o, s₁.heap.get? b = some o → s₂.heap.get? b = some o) → s₁.toks ≤ s₂.toks →
        wpAny (model prog w) A (forIn ifs true fun c r => if r = true then do let ok ← isTrue c (compEnvC scope cl C env) (eval c (compEnvC scope cl C env)); pure (ForInStep.yield ok) else pure (ForInStep.yield r))
          (fun ok s₃ => ok = p v ∧ Keeps s₂ s₃) E' s₂) ∧
      (∀ (C : Addr) (i : Nat) (v : Value) (s₂ : Shared) (m₂ : Str → Option Value) (E' : Value → Shared → Prop), vs[i]? = some v → p v = true → s₂.heap.Ns C m₂ → m₂ x = some v → (∀ b o, s₁.heap.get? b = some o → s₂.heap.get? b = some o) → s₁.toks ≤ s₂.toks →
        wpAny (model prog w) A (eval elt (compEnvC scope cl C env)) (fun y s₃ => Y v y ∧ Keeps s₂ s₃) E' s₂) ∧
      (∀ D (ys : List Value) n h' tk, Fr h₀ L h' (fun z => if z = y then some (.ref D) else m z) → News h₀ L h' ((D, listOf ys.toArray n) :: news) → AllNe D news → Paired Y (vs.filter p) ys → (∀ b o, b ≠ L → s₁.heap.get? b = some o → h'.get? b = some o) → Q .next { s₁ with heap := h', toks := tk })) E s) :
    wpAny (model prog w) A (exec (.Assign [.Name y py] (.ListComp elt [⟨.Name x px, iter, ifs, 0⟩] scope pos) spos) env) Q E s := by
  subst hL
  refine wpAny_Assign_ListComp_free p Y hsw hclos hcell hkind hnames hx hy hp (wpAny_mono h (fun xv s₁ h₁ => ?_) fun _ _ e => e) hs
  obtain ⟨ax, vs, rfl, hl, hsz, F, N, htests, helt, hQ⟩ := h₁
  have hlt : ax < s₁.heap.objs.size := by obtain ⟨_, e, _⟩ := hl; exact Heap.lt_size e
  have up : ∀ (s₃ : Shared), (∀ b o, b ∉ [s₁.heap.objs.size] → (s₁.heap.push { cls := .type "list_iterator", data := .fields #[.ref ax, .int 0 0] }).get? b = some o → s₃.heap.get? b = some o) → ∀ b o, s₁.heap.get? b = some o → s₃.heap.get? b = some o :=
    fun s₃ hk b o e => hk b o (fun hm => by rcases List.mem_cons.mp hm with rfl | hm; exact Nat.lt_irrefl _ (Heap.lt_size e); cases hm) (Heap.get?_push_of_some _ e)
  have hLlt : env.locals < s₁.heap.objs.size := F.ns.lt
  refine wpAny_pyIter_list hl ⟨s₁.heap.objs.size, [s₁.heap.objs.size, ax], [s₁.heap.objs.size], vs.toArray.size, _, _, m, rfl, Walks.list hh _ _ (Nat.ne_of_lt hlt) vs.toArray, (by rw [List.size_toArray, sizeLine_eq]; omega), ⟨⟨_, Heap.get?_push_size _ rfl, rfl, rfl⟩, hl.push _⟩, ?_, ?_, (F.push _).ns, ⟨?_, ?_⟩, ?_⟩
  · intro b hb
    show b < (s₁.heap.push _).objs.size
    rw [Heap.size_push]
    rcases List.mem_cons.mp hb with rfl | hb
    · exact Nat.lt_succ_self _
    · rcases List.mem_cons.mp hb with rfl | hb
      · exact Nat.lt_succ_of_lt hlt
      · cases hb
  · intro hm
    rcases List.mem_cons.mp hm with e | hm
    · rw [e] at hLlt; exact Nat.lt_irrefl _ hLlt
    · cases hm
  · intro C i v s₃ m₃ E' _ hP hn hm hk htk
    exact htests C i v s₃ m₃ E' (by simpa using hP) hn hm (up s₃ hk) htk
  · intro C i v s₃ m₃ E' _ hP hp hn hm hk htk
    exact helt C i v s₃ m₃ E' (by simpa using hP) hp hn hm (up s₃ hk) htk
  · intro D h' tk ys vs' hnew _ hpl hlen hP hF hns hk
    have e : vs' = vs := by simpa using list_of_places hlen hP
    subst e
    obtain ⟨n, hD⟩ := hpl
    have hD' : h'.get? D = some (listOf ys.toList.toArray n) := by rw [Array.toArray_toList]; exact hD
    have hno : s₁.heap.get? D = none := by
      cases e : s₁.heap.get? D with
      | none => rfl
      | some o' => rw [Heap.get?_push_of_some _ e] at hnew; cases hnew
    have hup : ∀ b o, b ≠ env.locals → s₁.heap.get? b = some o → h'.get? b = some o := fun b o hb e => hk b o hb (fun hm => by rcases List.mem_cons.mp hm with rfl | hm; exact Nat.lt_irrefl _ (Heap.lt_size e); cases hm) (Heap.get?_push_of_some _ e)
    have hLn : h₀.get? env.locals = none := Heap.get?_none_of_le F.above
    have hLD : D ≠ env.locals := by rintro rfl; obtain ⟨o, _, _, ho, _⟩ := F.ns; rw [hno] at ho; cases ho
    refine hQ D ys.toList n h' tk ⟨hns, fun b o e => hup b o (by rintro rfl; rw [hLn] at e; cases e) (F.keep b o e), F.above⟩ (fun q hq => ?_) ?_ hF hup
    · rcases List.mem_cons.mp hq with rfl | hq
      · refine ⟨hD', hLD, ?_⟩
        cases e : h₀.get? D with
        | none => rfl
        | some o => have := F.keep _ _ e; rw [hno] at this; cases this
      · have := N q hq
        exact ⟨hup _ _ this.2.1 this.1, this.2⟩
    · exact allNe_of fun q hq e => by have := (N q hq).1; rw [e, hno] at this; cases this
end
end Mine
end

section
open PySem PySem.W PySem.Spec PySem.Calls PyProof.Rows PySem.Builtin PySem.Builtin.Str
set_option Elab.async false
set_option maxRecDepth 100000
set_option maxHeartbeats 4000000
namespace Mine
section
variable {prog : Program} {w : World} {A : Around} {E : Value → Shared → Prop} {s : Shared} {env : Env} {h₀ : Heap}
/-- how a turn of a loop whose variable is a cell ends -/
noncomputable def CellEnd (h₀ : Heap) (L I c : Addr) (it : Obj) (Jn : (Str → Option Value) → Led → Prop) (s₁ s' : Shared) : Prop :=
  ∃ h' tk m' news' oc d, s' = { s₁ with heap := h', toks := tk } ∧ Fr h₀ L h' m' ∧ News h₀ L h' ((I, it) :: (c, oc) :: news') ∧ oc.data = .cell d ∧ (∀ p ∈ news', p.1 ≠ I ∧ p.1 ≠ c) ∧ Jn m' news'
noncomputable def CellPost (h₀ : Heap) (L I c : Addr) (it : Obj) (Jn : (Str → Option Value) → Led → Prop) (s₁ : Shared) (Q : Flow → Shared → Prop) (f : Flow) (s' : Shared) : Prop :=
  match f with
  | .ret v => Q (.ret v) s'
  | .brk => Q .next s'
  | _ => CellEnd h₀ L I c it Jn s₁ s'
theorem forLoop_cell {R : Result → Shared → Prop} {x : Str} {px : Pos} {body : List Stmt} {I c : Addr} {n : Nat} {m₀ : Str → Option Value} {news : Led} {oc₀ : Obj} {d₀ : Option Value} (hh : A.handled = none)
    (hk : env.scope.kind = .function) (hx : env.kindOf x = some .cell) (hc : env.cells.lookup x = some c)
    (hIL : I ≠ env.locals) (hI0 : h₀.get? I = none) (hIc : I ≠ c) (hnw : ∀ p ∈ news, p.1 ≠ I ∧ p.1 ≠ c)
    (hst : IsRangeIter s.heap I (0 + (0 : Nat) * 1) ((n : Int) - (0 : Nat)) 1) (F : Fr h₀ env.locals s.heap m₀) (N : News h₀ env.locals s.heap ((c, oc₀) :: news)) (hd₀ : oc₀.data = .cell d₀)
    (J : Nat → (Str → Option Value) → Led → Prop) (h0 : J 0 m₀ news)
    (step : ∀ (i : Nat) m₁ news₁ h tk it oc t, i < n → J i m₁ news₁ → Fr h₀ env.locals h m₁ → News h₀ env.locals h ((I, it) :: (c, oc) :: news₁) → oc.data = .cell (some (.int (i : Int) t)) → (∀ p ∈ news₁, p.1 ≠ I ∧ p.1 ≠ c) → s.toks ≤ tk →
      wpAny (model prog w) A (execs body env) (CellPost h₀ env.locals I c it (J (i + 1)) { s with heap := h, toks := tk } fun f s' => R (.ok f) s') (notedBy (model prog w) A env fun e s' => R (.error e) s') { s with heap := h, toks := tk })
    (hR : ∀ h' tk m' news' oc d, Fr h₀ env.locals h' m' → News h₀ env.locals h' ((c, oc) :: news') → oc.data = .cell d → (∀ p ∈ news', p.1 ≠ c) → J n m' news' → s.toks ≤ tk → R (.ok .next) { s with heap := h', toks := tk }) :
    codeAny (model prog w) A (.forLoop (.Name x px) (.ref I) body [] env) R s := by
  have W := (Walks.range (prog := prog) (w := w) hh I 0 1 n)
  refine codeAny_forLoop
    (fun k s' => ∃ h' tk m' news' oc d i, s' = { s with heap := h', toks := tk } ∧ IsRangeIter h' I (0 + (i : Nat) * 1) ((n : Int) - (i : Nat)) 1 ∧ Fr h₀ env.locals h' m' ∧ News h₀ env.locals h' ((c, oc) :: news') ∧ oc.data = .cell d ∧ (∀ p ∈ news', p.1 ≠ I ∧ p.1 ≠ c) ∧ J i m' news' ∧ i ≤ n ∧ k = n + 1 - i ∧ s.toks ≤ tk) ?_ (n + 1)
    ⟨s.heap, s.toks, m₀, news, oc₀, d₀, 0, rfl, hst, F, N, hd₀, hnw, h0, Nat.zero_le _, rfl, Nat.le_refl _⟩
  rintro k s' ⟨h', tk, m', news', oc, d, i, rfl, hst', F', N', hd', hnw', hJ, hi, rfl, htk⟩
  have next : ∀ h₁ : Heap, (∀ b o, b ∉ [I] → h'.get? b = some o → h₁.get? b = some o) → Fr h₀ env.locals h₁ m' ∧ News h₀ env.locals h₁ ((c, oc) :: news') := fun h₁ hk₁ => by
    obtain ⟨oL, a1, a2, hoL, a3⟩ := F'.ns
    refine ⟨⟨⟨oL, a1, a2, hk₁ _ _ (by simpa using Ne.symm hIL) hoL, a3⟩, fun b o e => hk₁ b o (by rintro hb; rw [List.mem_singleton.mp hb, hI0] at e; cases e) (F'.keep b o e), F'.above⟩, fun p hp => ⟨hk₁ _ _ ?_ (N' p hp).1, (N' p hp).2⟩⟩
    rcases List.mem_cons.mp hp with rfl | hp
    · simpa using Ne.symm hIc
    · simpa using (hnw' p hp).1
  by_cases hlt : i < n
  · refine wpAny_with_toks (n := s.toks) htk (W.item i _ _ _ hlt hst' fun v h₁ tk₁ hP hst₁ hk₁ htk₁ => ?_)
    obtain ⟨t, rfl⟩ := hP
    obtain ⟨F₁, N₁⟩ := next h₁ hk₁
    have hcell : h₁.IsCell c d := ⟨oc, (N₁ _ (.head _)).1, hd'⟩
    refine wpAny_assign_Name (wpAny_storeName_cell hk hx hc hcell (fun h₂ hc₂ hs₂ => ?_))
    obtain ⟨oc₂, hoc₂, hd₂⟩ := hc₂
    have F₂ := F₁.change hs₂ (N₁ _ (.head _)).2.1 (N₁ _ (.head _)).2.2
    have N₂ : News h₀ env.locals h₂ ((c, oc₂) :: news') := N₁.setHead (fun p hp => (hnw' p hp).2) hs₂ hoc₂
    have hst₂ := W.frame _ _ _ hst₁ fun b hb o e => (hs₂.2 b (by rw [List.mem_singleton.mp hb]; exact hIc)).trans e
    have e0 : (0 : Int) + (i : Int) * 1 = (i : Int) := by omega
    rw [e0] at hd₂
    have N₃ : ∀ it, h₂.get? I = some it → News h₀ env.locals h₂ ((I, it) :: (c, oc₂) :: news') := fun it hit p hp => by
      rcases List.mem_cons.mp hp with rfl | hp
      · exact ⟨hit, hIL, hI0⟩
      · exact N₂ p hp
    obtain ⟨it, hst₂'⟩ : ∃ it, h₂.get? I = some it := ⟨_, hst₂⟩
    have fin : ∀ s₃, CellEnd h₀ env.locals I c it (J (i + 1)) { s with heap := h₂, toks := tk₁ } s₃ → s.toks ≤ s₃.toks → ∃ k', k' < n + 1 - i ∧ ∃ h' tk m' news' oc d i, s₃ = { s with heap := h', toks := tk } ∧ IsRangeIter h' I (0 + (i : Nat) * 1) ((n : Int) - (i : Nat)) 1 ∧ Fr h₀ env.locals h' m' ∧ News h₀ env.locals h' ((c, oc) :: news') ∧ oc.data = .cell d ∧ (∀ p ∈ news', p.1 ≠ I ∧ p.1 ≠ c) ∧ J i m' news' ∧ i ≤ n ∧ k' = n + 1 - i ∧ s.toks ≤ tk := by
      rintro s₃ ⟨h₃, tk₃, m₂, news₂, oc₃, d₃, rfl, F₃, N₄, hd₃, hnw₃, hJ₃⟩ htk₃
      exact ⟨n + 1 - (i + 1), by omega, h₃, tk₃, m₂, news₂, oc₃, d₃, i + 1, rfl, W.frame _ _ _ hst₂ (fun b hb o e => by
        rw [List.mem_singleton.mp hb] at e ⊢
        have e3 := hst₂'.symm.trans e
        rw [← Option.some.inj e3]; exact (N₄ _ (.head _)).1), F₃, fun p hp => N₄ p (.tail _ hp), hd₃, hnw₃, hJ₃, hlt, rfl, htk₃⟩
    refine wpAny_mono (wpAny_toks_of (n := s.toks) htk₁ (step i m' news' h₂ tk₁ it oc₂ t hlt hJ F₂ (N₃ _ hst₂') hd₂ hnw' htk₁)) (fun f s₃ h₃ => ?_) fun _ _ e => e.2
    cases f with
    | ret v => exact h₃.2
    | brk => exact h₃.2
    | cont => exact fin s₃ h₃.2 h₃.1
    | next => exact fin s₃ h₃.2 h₃.1
  · have hin : i = n := by omega
    subst hin
    refine wpAny_with_toks (n := s.toks) htk (W.done _ _ _ hst' fun h₁ tk₁ hk₁ htk₁ => wpAny_execs_nil ?_)
    obtain ⟨F₁, N₁⟩ := next h₁ hk₁
    exact hR h₁ tk₁ m' news' oc d F₁ N₁ hd' (fun p hp => (hnw' p hp).2) hJ htk₁
theorem For_cell {x : Str} {px pos : Pos} {iter : Expr} {body : List Stmt} {Q : Flow → Shared → Prop} {c : Addr} {m0 : Str → Option Value} (_F : Fr h₀ env.locals s.heap m0) (hk : env.scope.kind = .function) (hx : env.kindOf x = some .cell) (hc : env.cells.lookup x = some c) (hh : A.handled = none)
    (hs : ∀ x, foldedSetIterable iter env x = pure x) (hE : PassesOwn (model prog w) A env E)
    (h : wpAny (model prog w) A (eval iter env) (fun xv s₁ => ∃ (ax : Addr) (n : Nat) (t u v : Tok) (m₀ : Str → Option Value) (news : Led) (oc : Obj) (d : Option Value) (J : Nat → (Str → Option Value) → Led → Prop), xv = .ref ax ∧ IsRange s₁.heap ax 0 (n : Int) 1 t u v ∧ n ≤ 1000 ∧
      Fr h₀ env.locals s₁.heap m₀ ∧ News h₀ env.locals s₁.heap ((c, oc) :: news) ∧ oc.data = .cell d ∧ (∀ p ∈ news, p.1 ≠ c) ∧ J 0 m₀ news ∧
      (∀ (i : Nat) m₁ news₁ h tk I it oc t, i < n → J i m₁ news₁ → Fr h₀ env.locals h m₁ → News h₀ env.locals h ((I, it) :: (c, oc) :: news₁) → oc.data = .cell (some (.int (i : Int) t)) → I ≠ c → (∀ p ∈ news₁, p.1 ≠ I ∧ p.1 ≠ c) → s₁.toks ≤ tk →
        wpAny (model prog w) A (execs body env) (CellPost h₀ env.locals I c it (J (i + 1)) { s₁ with heap := h, toks := tk } Q) E { s₁ with heap := h, toks := tk }) ∧
      (∀ h' tk m' news' oc d, Fr h₀ env.locals h' m' → News h₀ env.locals h' ((c, oc) :: news') → oc.data = .cell d → (∀ p ∈ news', p.1 ≠ c) → J n m' news' → s₁.toks ≤ tk → Q .next { s₁ with heap := h', toks := tk })) E s) :
    wpAny (model prog w) A (exec (.For (.Name x px) iter body [] pos) env) Q E s := by
  refine wpAny_For (wpAny_mono h (fun xv s₁ h₁ => ?_) fun _ _ e => e) hs
  obtain ⟨ax, n, t, u, v, m₀, news, oc, d, J, rfl, hr, hn, F, N, hd, hnw, h0, step, hQ⟩ := h₁
  have hrs : Builtin.Range.rangeSize 0 (n : Int) 1 = (n : Int) := by
    simp only [Builtin.Range.rangeSize]
    by_cases hn : n = 0
    · subst hn; rfl
    · simp; omega
  have hsmall : Builtin.Range.small 0 (n : Int) 1 = true := by
    have fit : ∀ z : Int, 0 ≤ z → z ≤ 1000 → Builtin.Range.rangeFitsLong z = true := fun z h0 h1 => by
      unfold Builtin.Range.rangeFitsLong
      rw [Bool.and_eq_true, decide_eq_true_eq, decide_eq_true_eq]
      exact ⟨Int.le_trans (by decide) h0, Int.lt_of_le_of_lt h1 (by decide)⟩
    unfold Builtin.Range.small
    rw [hrs, fit 0 (by omega) (by omega), fit (n : Int) (by omega) (by omega), fit 1 (by omega) (by omega), if_pos (by decide), fit ((n : Int) + (1 - 1)) (by omega) (by omega)]
    simp
  refine wpAny_pyIter_range hr hsmall ?_
  have hI0 : h₀.get? s₁.heap.objs.size = none := next_is_new F
  have up : ∀ b o, s₁.heap.get? b = some o → (s₁.heap.push { cls := .type "range_iterator", data := .fields #[rawInt 0, rawInt (Builtin.Range.rangeSize 0 (n : Int) 1), rawInt 1] }).get? b = some o := fun b o e => Heap.get?_push_of_some _ e
  refine forLoop_cell (R := fun r s' => match r with | .ok f => Q f s' | .error e => cameBackBy (model prog w) A env E e s') (n := n) (oc₀ := oc) (d₀ := d) (m₀ := m₀) (news := news) hh hk hx hc ?_ hI0 ?_ ?_ ?_ (F.push _) (N.grown up) hd J h0 ?_ ?_
  · exact Ne.symm (Nat.ne_of_lt F.ns.lt)
  · exact Ne.symm (Nat.ne_of_lt (Heap.lt_size (N _ (.head _)).1))
  · exact fun p hp => ⟨Nat.ne_of_lt (Heap.lt_size (N p (.tail _ hp)).1), hnw p hp⟩
  · show IsRangeIter _ _ _ _ _
    rw [hrs]
    simpa using Heap.get?_push_size _ rfl
  · intro i m₁ news₁ h tk it oc t hi hJ F₁ N₁ hd₁ hn₁ htk
    exact wpAny_passesOwn hE (step i m₁ news₁ h tk _ it oc t hi hJ F₁ N₁ hd₁ (Ne.symm (Nat.ne_of_lt (Heap.lt_size (N _ (.head _)).1))) hn₁ htk)
  · intro h' tk m' news' oc d F₁ N₁ hd₁ hn₁ hJ htk
    exact hQ h' tk m' news' oc d F₁ N₁ hd₁ hn₁ hJ htk
end
end Mine
end

section
open PySem PySem.W PySem.Spec PySem.Calls PyProof.Rows PySem.Builtin PySem.Builtin.Str
set_option Elab.async false
set_option maxRecDepth 100000
set_option maxHeartbeats 4000000
namespace Mine
section
variable {w : World} {p : Program} {loose : List Str} {mean : ExcName → Option Value} {mg mb : Str → Option Value} {cn : Str} {cs : Scope} {a L : Addr} {ccd : Value} {base h₀ : Heap} {m : Str → Option Value} {s : Shared} {E : Value → Shared → Prop}
abbrev LawA (cn : Str) (cs : Scope) (L a : Addr) (ccd : Value) : Around := callerA.deeper (envOfC cn cs L a ccd)
theorem lawA_eq : LawA cn cs L a ccd = ktrTop (LawA cn cs L a ccd).depth (LawA cn cs L a ccd).units (LawA cn cs L a ccd).guards cn cs L a ccd (cellsFrom (L + 1) cs.names []) [] := rfl
theorem lawA_dp : (LawA cn cs L a ccd).depth + 6 < recursionLimit := by
  show callerA.depth + 1 + 6 < recursionLimit
  decide
theorem lawA_un : (LawA cn cs L a ccd).units + 50 < cLine := by
  dsimp only [LawA, Around.deeper, callerA]
  decide
theorem takes_step {lp : Addr} {vs : List Value} {y : Str} {u : Tok} {ps : List (Option Str)} {Q : Value → Shared → Prop} (hy : y.length ≤ 100) (hps : PartVals vs ps) (B : Below callerA base [] h₀) (F : Fr h₀ L s.heap m) (X : (Mine.hd.heap_39 w.params).In h₀) (T : Top p loose mean mg mb h₀) (hk : cs.kind = .function)
    (hl : s.heap.IsList lp vs.toArray) (h : ∀ h' tk', (∀ b o, s.heap.get? b = some o → h'.get? b = some o) → Q (.bool (takesF ps y)) { s with heap := h', toks := tk' }) :
    wpAny (model PR w) (LawA cn cs L a ccd) (call (.ref 67) [.ref lp, .str y u]) Q E s := by
  rw [lawA_eq]
  exact takes_ok w p loose mean mg mb lp vs y u ps hy hps _ _ _ cn cs a ccd _ [] callerA base h₀ L m s Q E B F X T hk (Nat.lt_of_succ_lt lawA_dp) (by have := @lawA_un cn cs a L ccd; omega) hl fun v new h' tk' hp G => by
    obtain ⟨rfl, rfl⟩ := hp
    exact h h' tk' G.1
theorem ell_step {x a0 z y : Str} {mid : List Str} {t u : Tok} {Q : Value → Shared → Prop} (hx : x.length ≤ 100) (hy : y.length ≤ 100) (hsp : SplitsTo x "..." a0 mid z) (B : Below callerA base [] h₀) (F : Fr h₀ L s.heap m) (X : (Mine.hd.heap_39 w.params).In h₀) (T : Top p loose mean mg mb h₀) (hk : cs.kind = .function)
    (h : ∀ h' tk', (∀ b o, s.heap.get? b = some o → h'.get? b = some o) → Q (.bool (ellF x a0 mid z y)) { s with heap := h', toks := tk' }) :
    wpAny (model PR w) (LawA cn cs L a ccd) (call (.ref 38) [.str x t, .str y u]) Q E s := by
  rw [lawA_eq]
  exact ell_ok w p loose mean mg mb x y a0 z mid t u hx hy hsp _ _ _ cn cs a ccd _ [] callerA base h₀ L m s Q E B F X T hk (Nat.lt_of_succ_lt lawA_dp) (by have := @lawA_un cn cs a L ccd; omega) trivial fun v new h' tk' hp G => by
    obtain ⟨rfl, rfl⟩ := hp
    exact h h' tk' G.1
theorem gap_stepL {S : List Nat} {t : Tok} {Q : Value → Shared → Prop} (hS : Pat S) (B : Below callerA base [] h₀) (F : Fr h₀ L s.heap m) (X : (Mine.hd.heap_39 w.params).In h₀) (T : Top p loose mean mg mb h₀) (hk : cs.kind = .function)
    (h : ∀ h' tk' t', (∀ b o, s.heap.get? b = some o → h'.get? b = some o) → Q (.str (strOf (norm S)) t') { s with heap := h', toks := tk' }) :
    wpAny (model PR w) (LawA cn cs L a ccd) (call (.ref 74) [.str (strOf S) t]) Q E s := by
  rw [lawA_eq]
  exact gap_ok w p loose mean mg mb (strOf S) t IsPat ⟨S, hS, rfl⟩ (fun _ => isPat_len) (fun _ => isPat_step) _ _ _ cn cs a ccd _ [] callerA base h₀ L m s Q E B F X T hk (Nat.lt_of_succ_lt lawA_dp) (by have := @lawA_un cn cs a L ccd; omega) trivial fun v new h' tk' hp G => by
    obtain ⟨rfl, t', rfl⟩ := hp
    rw [gap_norm hS]
    exact h h' tk' t' G.1
theorem tr_step {S : List Nat} {t u : Tok} {tb : Array Value} {Q : Value → Shared → Prop} (hS : Pat S) (B : Below callerA base [] h₀) (F : Fr h₀ L s.heap m) (N : News h₀ L s.heap [(57, W.tabObj tb)]) (htb : TabGood tb) (X : (Mine.hd.heap_39 w.params).In h₀) (T : Top p loose mean mg mb h₀) (hk : cs.kind = .function)
    (h : ∀ l vs n tb' h' tk', PartVals vs (partsGo false S) → vs.length ≤ 5 → TabGood tb' → (∀ b o, @Ne Nat b 57 → s.heap.get? b = some o → h'.get? b = some o) → h'.get? 57 = some (W.tabObj tb') → h'.get? l = some (W.listOf vs.toArray n) → s.heap.get? l = none → Q (.ref l) { s with heap := h', toks := tk' }) :
    wpAny (model PR w) (LawA cn cs L a ccd) (call (.ref 62) [.str (patStr S) t, .none, .str "." u]) Q E s := by
  rw [lawA_eq]
  exact tr_ok w p loose mean mg mb S hS.2 hS.1 t u _ _ _ cn cs a ccd _ [] callerA base h₀ L m tb s Q E B F N htb X T hk lawA_dp lawA_un fun v new tb' h' tk' hp ht hkp h57 hn => by
    obtain ⟨l, vs, n, ob, rfl, rfl, hpv, hl⟩ := hp
    have := hn (l, W.listOf vs.toArray n) (.tail _ (.head _))
    exact h l vs n tb' h' tk' hpv hl ht hkp h57 this.1 this.2
end
end Mine
end

section
open PySem PySem.W PySem.Spec PySem.Calls PyProof.Rows PySem.Builtin PySem.Builtin.Str
set_option Elab.async false
set_option maxRecDepth 100000
set_option maxHeartbeats 4000000
namespace Mine
noncomputable def sel3 (a b c : List Nat) : Nat → List Nat
  | 0 => a
  | 1 => b
  | _ => c
theorem sel3_pat {a b c : List Nat} (ha : Pat a) (hb : Pat b) (hc : Pat c) : ∀ i, Pat (sel3 a b c i)
  | 0 => ha
  | 1 => hb
  | _ + 2 => hc
theorem sel3_dot (a b c : List Nat) : ∀ i, sel3 (dotS a) (dotS b) (dotS c) i = dotS (sel3 a b c i)
  | 0 => rfl
  | 1 => rfl
  | _ + 2 => rfl
noncomputable def bools (bs : List Bool) : List Value := bs.map Value.bool
noncomputable def dueB (S : List Nat) (Ts : List (List Nat)) : List Bool := Ts.map (M S)
noncomputable def SV : List Value → List (List Nat) → Prop
  | [], [] => True
  | v :: vs, T :: Ts => (∃ t, v = .str (strOf T) t) ∧ SV vs Ts
  | _, _ => False
theorem SV.get : ∀ {vs : List Value} {Ts : List (List Nat)}, SV vs Ts → ∀ {i : Nat} {v : Value}, vs[i]? = some v → ∃ T t, T ∈ Ts ∧ v = .str (strOf T) t
  | [], _, _, _, _, e => by simp at e
  | _ :: _, [], h, _, _, _ => h.elim
  | w :: vs, T :: Ts, ⟨⟨t, hw⟩, h⟩, 0, v, e => by
    simp only [List.getElem?_cons_zero, Option.some.injEq] at e
    exact ⟨T, t, .head _, e.symm.trans hw⟩
  | w :: vs, T :: Ts, ⟨_, h⟩, i + 1, v, e => by
    simp only [List.getElem?_cons_succ] at e
    obtain ⟨T', t, h1, h2⟩ := h.get e
    exact ⟨T', t, .tail _ h1, h2⟩
theorem SV.len : ∀ {vs : List Value} {Ts : List (List Nat)}, SV vs Ts → vs.length = Ts.length
  | [], [], _ => rfl
  | [], _ :: _, h => h.elim
  | _ :: _, [], h => h.elim
  | _ :: vs, _ :: Ts, ⟨_, h⟩ => by simp [h.len]
/-- each element's answer, by its own text -/
noncomputable def AnsV (f : List Nat → Bool) (v y : Value) : Prop := ∀ T t, v = .str (strOf T) t → y = .bool (f T)
theorem ans_v {f : List Nat → Bool} {T : List Nat} {t : Tok} {b : Bool} (h : b = f T) : AnsV f (.str (strOf T) t) (.bool b) := by
  intro T' t' e
  have := strOf_inj' (Value.str.inj e).1
  subst this
  rw [h]
theorem answers {f : List Nat → Bool} : ∀ {vs : List Value} {Ts : List (List Nat)} {ys : List Value}, SV vs Ts → Paired (AnsV f) vs ys → ys = bools (Ts.map f)
  | _, [], _, _, .nil => rfl
  | _, _ :: _, _, h, .nil => h.elim
  | _, [], _, h, .cons _ _ => h.elim
  | _, T :: Ts, _, h, .cons hF r => by
    obtain ⟨⟨t, e⟩, h⟩ := h
    rw [hF T t e, answers h r]; rfl
theorem filter_true {vs : List Value} : vs.filter (fun _ => true) = vs := List.filter_eq_self.mpr fun _ _ => rfl
section
variable {prog : Program} {w : World} {A : Around} {E : Value → Shared → Prop} {s : Shared} {h₀ : Heap} {L : Addr} {m : Str → Option Value} {news : Led}
theorem ne_same {l b : Addr} {bs : List Bool} {Q : Value → Shared → Prop} (hl : s.heap.IsList l (bools bs).toArray) (hb : s.heap.IsList b (bools bs).toArray) (hu : A.units < cLine) (h : Q (.bool false) s) :
    wpAny (model prog w) A (compareOp .NotEq (.ref l) (.ref b)) Q E s :=
  SeqAt.RcNeAt.lists (e := fun _ => true) hl hb rfl hu (fun j h1 _ => by
    have : ∃ c : Bool, (bools bs).toArray[j] = .bool c := by
      have hj : j < bs.length := by simpa [bools] using h1
      exact ⟨bs[j], by simp [bools]⟩
    obtain ⟨c, e⟩ := this
    rw [e]
    have := eqGives_bool c c
    simp only [beq_self_eq_true] at this
    exact this.at _ _) prog w E Q (by
    have e : (!(List.range (bools bs).toArray.size).all fun _ => true) = false := by simp [List.all_eq_true]
    rw [e]; exact h)
theorem item_sel {value slice : Expr} {l : Addr} {a b c : List Nat} {t0 t1 t2 : Tok} {i : Nat} {u : Tok} {Q : Value → Shared → Prop} (hl : s.heap.IsList l [Value.str (strOf a) t0, .str (strOf b) t1, .str (strOf c) t2].toArray) (hi : i < 3)
    (hs : subscripted slice false (.ref l) (.int (i : Int) u) = operate [.ref l, .int (i : Int) u] (getItem (.ref l) (.int (i : Int) u))) (hg : ∀ r, letTemporaryGo value (.ref l) r = pure ()) (h : ∀ t, Q (.str (strOf (sel3 a b c i)) t) s) :
    wpAny (model prog w) A (subscriptTail value slice (.ref l) (.int (i : Int) u)) Q E s := by
  have : ∃ t, [Value.str (strOf a) t0, .str (strOf b) t1, .str (strOf c) t2][i]? = some (.str (strOf (sel3 a b c i)) t) := by
    match i, hi with
    | 0, _ => exact ⟨t0, rfl⟩
    | 1, _ => exact ⟨t1, rfl⟩
    | 2, _ => exact ⟨t2, rfl⟩
    | _ + 3, hi => omega
  obtain ⟨t, e⟩ := this
  exact item_at (x := .str (strOf (sel3 a b c i)) t) hl e (by simp) (h t) hs hg
theorem item_dots {value slice : Expr} {l : Addr} {a b c : List Nat} {t0 t1 t2 : Tok} {i : Nat} {u : Tok} {Q : Value → Shared → Prop} (hl : s.heap.IsList l [Value.str (strOf (dotS a)) t0, .str (strOf (dotS b)) t1, .str (strOf (dotS c)) t2].toArray) (hi : i < 3)
    (hs : subscripted slice false (.ref l) (.int (i : Int) u) = operate [.ref l, .int (i : Int) u] (getItem (.ref l) (.int (i : Int) u))) (hg : ∀ r, letTemporaryGo value (.ref l) r = pure ()) (h : ∀ t, Q (.str (strOf (dotS (sel3 a b c i))) t) s) :
    wpAny (model prog w) A (subscriptTail value slice (.ref l) (.int (i : Int) u)) Q E s :=
  item_sel hl hi hs hg (by rw [sel3_dot]; exact h)
/-- stars[i].replace('[', '[[]') -/
theorem rep_step {S : List Nat} {t u v : Tok} {Q : Value → Shared → Prop} (hu : u ≠ 0) (hv : v ≠ 0) (huv : u ≠ v) (hS : Pat S) (h : ∀ t' k, Q (.str (patStr S) t') { s with toks := k }) :
    wpAny (model prog w) A (call (.builtin "str.replace") [.str (strOf S) t, .str (Str.ofString "[") u, .str (Str.ofString "[[]") v]) Q E s :=
  SC.replace hu hv huv (by decide +kernel) (pat_fit hS (by decide +kernel)) fun t' k => by
    have e : Txt.replace (strOf S) (Str.ofString "[") (Str.ofString "[[]") = patStr S := rep_br hS
    rw [e]; exact h t' k
theorem tr_news {l : Addr} {vs : List Value} {n : Nat} {tb tb' : Array Value} {h h' : Heap} (F : Fr h₀ L h m) (N : News h₀ L h ((57, W.tabObj tb) :: news)) (h57 : AllNe 57 news) (hkp : ∀ b o, @Ne Nat b 57 → h.get? b = some o → h'.get? b = some o) (h1 : h'.get? 57 = some (W.tabObj tb')) (h2 : h'.get? l = some (W.listOf vs.toArray n)) (h3 : h.get? l = none) :
    Fr h₀ L h' m ∧ News h₀ L h' ((l, W.listOf vs.toArray n) :: (57, W.tabObj tb') :: news) ∧ AllNe l ((57, W.tabObj tb) :: news) := by
  have hL : (57 : Addr) ≠ L := (N _ (.head _)).2.1
  have h0 : h₀.get? 57 = none := (N _ (.head _)).2.2
  have all : ∀ {l : Led}, AllNe 57 l → ∀ p ∈ l, @Ne Nat p.1 57 := by
    intro l
    induction l with
    | nil => intro _ p hp; cases hp
    | cons q r ih =>
      intro h p hp
      rcases List.mem_cons.mp hp with rfl | hp
      · exact h.1
      · exact ih h.2 p hp
  obtain ⟨oL, a1, a2, hoL, a3⟩ := F.ns
  have F' : Fr h₀ L h' m := ⟨⟨oL, a1, a2, hkp _ _ (Ne.symm hL) hoL, a3⟩, fun b o e => hkp b o (by rintro rfl; rw [h0] at e; cases e) (F.keep b o e), F.above⟩
  refine ⟨F', fun p hp => ?_, ?_⟩
  · rcases List.mem_cons.mp hp with rfl | hp
    · refine ⟨h2, fun e => ?_, ?_⟩
      · have e' : l = L := e
        rw [e', hoL] at h3; cases h3
      · cases q : h₀.get? l with
        | none => rfl
        | some o => rw [F.keep _ _ q] at h3; cases h3
    · rcases List.mem_cons.mp hp with rfl | hp
      · exact ⟨h1, hL, h0⟩
      · exact ⟨hkp _ _ (all h57 p hp) (N p (.tail _ hp)).1, (N p (.tail _ hp)).2⟩
  · exact allNe_of fun p hp e => by have := (N p hp).1; rw [e, h3] at this; cases this
end
/-- the answers of one pattern over all texts, by both roads -/
theorem takes_ans {S T : List Nat} (hS : Pat S) : takesF (partsGo false S) (strOf T) = M S T := takes_law S T hS.2
theorem len_pat {S : List Nat} (h : Pat S) : (strOf S).length ≤ 100 := by rw [strOf_len]; have := h.1; omega
theorem len_dot {S : List Nat} (h : Pat S) : (strOf (dotS S)).length ≤ 100 := by
  rw [strOf_len]
  have : ∀ S : List Nat, (dotS S).length ≤ 3 * S.length := by
    intro S
    induction S with
    | nil => simp [dotS]
    | cons c S ih => rw [dotS_cons, List.length_append, List.length_cons]; (have : (dot c).length ≤ 3 := by (unfold dot; split <;> simp)); omega
  have h1 := this S
  have := h.1; omega
end Mine
end

section
open PySem PySem.W PySem.Spec PySem.Calls PyProof.Rows PySem.Builtin PySem.Builtin.Str
set_option Elab.async false
set_option maxRecDepth 100000
set_option maxHeartbeats 4000000
namespace Mine
abbrev Lts (a b : Addr) : Prop := @LT.lt Nat _ a b
/-- two addresses apart, told so that omega does not look -/
noncomputable def Apart (a b : Addr) : Prop := @Ne Nat a b
theorem Apart.ne {a b : Addr} (h : Apart a b) : @Ne Nat a b := h
theorem Apart.en {a b : Addr} (h : Apart a b) : @Ne Nat b a := Ne.symm h
noncomputable def AllAp (d : Addr) : Led → Prop
  | [] => True
  | p :: r => Apart p.1 d ∧ AllAp d r
theorem allAp {d : Addr} : ∀ {l : Led}, AllNe d l → AllAp d l
  | [], _ => trivial
  | _ :: _, h => ⟨h.1, allAp h.2⟩
structure Off (ci cp cj T a : Addr) : Prop where
  i : Apart a ci
  p : Apart a cp
  j : Apart a cj
  t : Apart a T
  h : Apart a 57
noncomputable def Slot (S0 S1 S2 : List Nat) (TT : List (List Nat)) (i k : Nat) (tv : List Value) (a : Addr) (o : Obj) : Prop := k < i → tv[k]? = some (.ref a) ∧ ∃ n, o = W.listOf (bools (dueB (sel3 S0 S1 S2 k) TT)).toArray n
/-- what stands between two turns of the first loop -/
noncomputable def J1 (S0 S1 S2 : List Nat) (TT : List (List Nat)) (ci cp cj ct cd D D3 D4 T : Addr) (ot od oD oD3 oD4 : Obj) (m₀ : Str → Option Value) (i : Nat) (m : Str → Option Value) (news : Led) : Prop :=
  ∃ (tv : List Value) (nT : Nat) (tb : Array Value) (op oj : Obj) (dp dj : Option Value) (a0 a1 a2 : Addr) (o0 o1 o2 : Obj),
    news = [(cp, op), (cj, oj), (T, W.listOf tv.toArray nT), (57, W.tabObj tb), (ct, ot), (cd, od), (D, oD), (D3, oD3), (D4, oD4), (a0, o0), (a1, o1), (a2, o2)] ∧ op.data = .cell dp ∧ oj.data = .cell dj ∧ TabGood tb ∧ tv.length = i ∧
    Slot S0 S1 S2 TT i 0 tv a0 o0 ∧ Slot S0 S1 S2 TT i 1 tv a1 o1 ∧ Slot S0 S1 S2 TT i 2 tv a2 o2 ∧ (∀ z : Str, z ≠ "due" → m z = m₀ z) ∧
    Off ci cp cj T a0 ∧ Off ci cp cj T a1 ∧ Off ci cp cj T a2
section
variable {w : World} {prog : Program} {A : Around} {E : Value → Shared → Prop} {s₁ : Shared} {env : Env} {h₀ : Heap} {body : List Stmt} {Q : Flow → Shared → Prop} {news : Led} {m₀ : Str → Option Value}
theorem due_frame {m₁ m₀ : Str → Option Value} (h : ∀ z : Str, z ≠ "due" → m₁ z = m₀ z) : m₁ = fun z => if z = ("due" : Str) then m₁ "due" else m₀ z := by
  funext z
  by_cases hz : z = "due"
  · simp [hz]
  · simp only [if_neg hz]; exact h z hz
theorem slot_next {S0 S1 S2 : List Nat} {TT : List (List Nat)} {i k : Nat} {tv : List Value} {a Dn : Addr} {o : Obj} {nn : Nat} (hl : tv.length = i) (h : Slot S0 S1 S2 TT i k tv a o) :
    Slot S0 S1 S2 TT (i + 1) k (tv ++ [.ref Dn]) (if k = i then Dn else a) (if k = i then W.listOf (bools (dueB (sel3 S0 S1 S2 i) TT)).toArray nn else o) := by
  intro hk
  by_cases e : k = i
  · subst e
    rw [if_pos rfl, if_pos rfl]
    refine ⟨?_, nn, rfl⟩
    rw [← hl]; simp
  · rw [if_neg e, if_neg e]
    obtain ⟨h1, h2⟩ := h (by omega)
    refine ⟨?_, h2⟩
    rw [List.getElem?_append_left (by omega)]; exact h1
theorem pick_of {P : Addr → Obj → Prop} {k i : Nat} {a Dn : Addr} {o on : Obj} (h : P a o) (hn : P Dn on) : P (if k = i then Dn else a) (if k = i then on else o) := by
  by_cases e : k = i
  · rw [if_pos e, if_pos e]; exact hn
  · rw [if_neg e, if_neg e]; exact h
theorem pick_adr {P : Addr → Prop} {k i : Nat} {a Dn : Addr} (h : P a) (hn : P Dn) : P (if k = i then Dn else a) := by
  by_cases e : k = i
  · rw [if_pos e]; exact hn
  · rw [if_neg e]; exact h
theorem loop1_ex {S0 S1 S2 : List Nat} {TT : List (List Nat)} {ci cp cj ct cd D D3 D4 T ax : Addr} {oi op oj ot od oD oD3 oD4 : Obj} {di dp dj : Option Value} {nT : Nat} {tb : Array Value} {t u v : Tok}
    (hr : IsRange s₁.heap ax 0 ((3 : Nat) : Int) 1 t u v) (F : Fr h₀ env.locals s₁.heap m₀) (N : News h₀ env.locals s₁.heap news) (htb : TabGood tb) (h1 : 1 ≤ s₁.toks)
    (li : env.cells.lookup (Str.ofString "i") = some ci) (lp : env.cells.lookup (Str.ofString "parts") = some cp) (lj : env.cells.lookup (Str.ofString "j") = some cj) (lt : env.cells.lookup (Str.ofString "told") = some ct) (ld : env.cells.lookup (Str.ofString "dots") = some cd)
    (hi : (ci, oi) ∈ news) (hp : (cp, op) ∈ news) (hj : (cj, oj) ∈ news) (ht : (ct, ot) ∈ news) (hd : (cd, od) ∈ news) (hT : (T, W.listOf ([] : List Value).toArray nT) ∈ news) (h57 : (57, W.tabObj tb) ∈ news) (hD : (D, oD) ∈ news) (hD3 : (D3, oD3) ∈ news) (hD4 : (D4, oD4) ∈ news)
    (ei : oi.data = .cell di) (ep : op.data = .cell dp) (ej : oj.data = .cell dj)
    (hch : Lts 57 cd ∧ Lts cd ct ∧ Lts ct ci ∧ Lts ci cp ∧ Lts cp cj ∧ Lts cj T) (oD0 : Off ci cp cj T D) (oD1 : Off ci cp cj T D3) (oD2 : Off ci cp cj T D4)
    (turn : ∀ (i : Nat) (tv : List Value) (nT : Nat) (tb : Array Value) (op oj oc it : Obj) (dp dj : Option Value) (a0 a1 a2 : Addr) (o0 o1 o2 : Obj) (I : Addr) (t : Tok) (uu : Option Value) (h : Heap) (tk : Nat), i < 3 → tv.length = i → TabGood tb → op.data = .cell dp → oj.data = .cell dj → oc.data = .cell (some (.int (i : Int) t)) →
      Off ci cp cj T a0 → Off ci cp cj T a1 → Off ci cp cj T a2 → (Apart cp I ∧ Apart T I ∧ Apart 57 I) → (Lts 57 cd ∧ Lts cd ct ∧ Lts ct ci ∧ Lts ci cp ∧ Lts cp cj ∧ Lts cj T) → 1 ≤ tk →
      (∀ h' tk' m' Dn nn nT' tb' op' dp', Fr h₀ env.locals h' m' → News h₀ env.locals h' [(I, it), (ci, oc), (cp, op'), (cj, oj), (T, W.listOf (tv ++ [Value.ref Dn]).toArray nT'), (57, W.tabObj tb'), (ct, ot), (cd, od), (D, oD), (D3, oD3), (D4, oD4), (a0, o0), (a1, o1), (a2, o2), (Dn, W.listOf (bools (dueB (sel3 S0 S1 S2 i) TT)).toArray nn)] →
        op'.data = .cell dp' → TabGood tb' → Off ci cp cj T Dn → Apart Dn I → (∀ z : Str, z ≠ "due" → m' z = m₀ z) → CellEnd h₀ env.locals I ci it (J1 S0 S1 S2 TT ci cp cj ct cd D D3 D4 T ot od oD oD3 oD4 m₀ (i + 1)) { s₁ with heap := h, toks := tk } { s₁ with heap := h', toks := tk' }) →
      Fr h₀ env.locals h (fun z => if z = ("due" : Str) then uu else m₀ z) → News h₀ env.locals h [(I, it), (ci, oc), (cp, op), (cj, oj), (T, W.listOf tv.toArray nT), (57, W.tabObj tb), (ct, ot), (cd, od), (D, oD), (D3, oD3), (D4, oD4), (a0, o0), (a1, o1), (a2, o2)] →
      wpAny (model prog w) A (execs body env) (CellPost h₀ env.locals I ci it (J1 S0 S1 S2 TT ci cp cj ct cd D D3 D4 T ot od oD oD3 oD4 m₀ (i + 1)) { s₁ with heap := h, toks := tk } Q) E { s₁ with heap := h, toks := tk })
    (done : ∀ (uu : Option Value) (nT n0 n1 n2 : Nat) (tb : Array Value) (op oj oi : Obj) (dp dj di : Option Value) (a0 a1 a2 : Addr) (h : Heap) (tk : Nat), TabGood tb → op.data = .cell dp → oj.data = .cell dj → oi.data = .cell di → Off ci cp cj T a0 → Off ci cp cj T a1 → Off ci cp cj T a2 → (Apart T ci ∧ Apart 57 ci ∧ Apart ct ci ∧ Apart cd ci ∧ Apart cp ci ∧ Apart cj ci ∧ Apart T cj ∧ Apart 57 cj ∧ Apart ct cj ∧ Apart cd cj ∧ Apart cp cj) → 1 ≤ tk →
      Fr h₀ env.locals h (fun z => if z = ("due" : Str) then uu else m₀ z) →
      News h₀ env.locals h [(ci, oi), (cp, op), (cj, oj), (T, W.listOf [Value.ref a0, .ref a1, .ref a2].toArray nT), (57, W.tabObj tb), (ct, ot), (cd, od), (D, oD), (D3, oD3), (D4, oD4), (a0, W.listOf (bools (dueB S0 TT)).toArray n0), (a1, W.listOf (bools (dueB S1 TT)).toArray n1), (a2, W.listOf (bools (dueB S2 TT)).toArray n2)] → Q .next { s₁ with heap := h, toks := tk }) :
    ∃ (ax' : Addr) (n : Nat) (t u v : Tok) (m₀ : Str → Option Value) (news : Led) (oc : Obj) (d : Option Value) (J : Nat → (Str → Option Value) → Led → Prop), Value.ref ax = .ref ax' ∧ IsRange s₁.heap ax' 0 (n : Int) 1 t u v ∧ n ≤ 1000 ∧
      Fr h₀ env.locals s₁.heap m₀ ∧ News h₀ env.locals s₁.heap ((ci, oc) :: news) ∧ oc.data = .cell d ∧ (∀ p ∈ news, p.1 ≠ ci) ∧ J 0 m₀ news ∧
      (∀ (i : Nat) m₁ news₁ h tk I it oc t, i < n → J i m₁ news₁ → Fr h₀ env.locals h m₁ → News h₀ env.locals h ((I, it) :: (ci, oc) :: news₁) → oc.data = .cell (some (.int (i : Int) t)) → I ≠ ci → (∀ p ∈ news₁, p.1 ≠ I ∧ p.1 ≠ ci) → s₁.toks ≤ tk →
        wpAny (model prog w) A (execs body env) (CellPost h₀ env.locals I ci it (J (i + 1)) { s₁ with heap := h, toks := tk } Q) E { s₁ with heap := h, toks := tk }) ∧
      (∀ h' tk m' news' oc d, Fr h₀ env.locals h' m' → News h₀ env.locals h' ((ci, oc) :: news') → oc.data = .cell d → (∀ p ∈ news', p.1 ≠ ci) → J n m' news' → s₁.toks ≤ tk → Q .next { s₁ with heap := h', toks := tk }) := by
  have q57 : @Ne Nat 57 ci := by omega
  have qd : @Ne Nat cd ci := by omega
  have qt : @Ne Nat ct ci := by omega
  have qp : @Ne Nat cp ci := by omega
  have qj : @Ne Nat cj ci := by omega
  have qT : @Ne Nat T ci := by omega
  refine ⟨ax, 3, t, u, v, m₀, [(cp, op), (cj, oj), (T, W.listOf ([] : List Value).toArray nT), (57, W.tabObj tb), (ct, ot), (cd, od), (D, oD), (D3, oD3), (D4, oD4), (D, oD), (D, oD), (D, oD)], oi, di, J1 S0 S1 S2 TT ci cp cj ct cd D D3 D4 T ot od oD oD3 oD4 m₀, rfl, hr, by omega, F, fun p hp' => N p ?_, ei, ?_, ?_, ?_, ?_⟩
  · simp only [List.mem_cons, List.not_mem_nil, or_false] at hp'
    rcases hp' with rfl | rfl | rfl | rfl | rfl | rfl | rfl | rfl | rfl | rfl | rfl | rfl | rfl <;> assumption
  · intro p hp'
    simp only [List.mem_cons, List.not_mem_nil, or_false] at hp'
    rcases hp' with rfl | rfl | rfl | rfl | rfl | rfl | rfl | rfl | rfl | rfl | rfl | rfl
    · exact qp
    · exact qj
    · exact qT
    · exact q57
    · exact qt
    · exact qd
    · exact oD0.i
    · exact oD1.i
    · exact oD2.i
    · exact oD0.i
    · exact oD0.i
    · exact oD0.i
  · exact ⟨[], nT, tb, op, oj, dp, dj, D, D, D, oD, oD, oD, rfl, ep, ej, htb, rfl, fun h => absurd h (by omega), fun h => absurd h (by omega), fun h => absurd h (by omega), fun _ _ => rfl, oD0, oD0, oD0⟩
  · rintro i m₁ news₁ h tk I it oc t' hi3 ⟨tv, nT', tb', op', oj', dp', dj', a0, a1, a2, o0, o1, o2, rfl, ep', ej', htb', hl, s0, s1, s2, hm, d0, d1, d2⟩ F₁ N₁ hoc hIc hne htk
    rw [due_frame hm] at F₁
    simp only [List.forall_mem_cons, List.not_mem_nil, false_implies, implies_true, and_true] at hne
    obtain ⟨⟨i1, -⟩, ⟨i2, -⟩, ⟨i3, -⟩, ⟨i4, -⟩, ⟨i5, -⟩, ⟨i6, -⟩, ⟨i7, -⟩, ⟨i8, -⟩, ⟨i9, -⟩, ⟨i10, -⟩, ⟨i11, -⟩, i12, -⟩ := hne
    refine turn i tv nT' tb' op' oj' oc it dp' dj' a0 a1 a2 o0 o1 o2 I t' _ h tk hi3 hl htb' ep' ej' hoc d0 d1 d2 ⟨i1, i3, i4⟩ hch (Nat.le_trans h1 htk) ?_ F₁ N₁
    intro h' tk' m' Dn nn nT2 tb2 op2 dp2 F₂ N₂ ep2 htb2 hDn hDI hm2
    refine ⟨h', tk', m', [(cp, op2), (cj, oj'), (T, W.listOf (tv ++ [Value.ref Dn]).toArray nT2), (57, W.tabObj tb2), (ct, ot), (cd, od), (D, oD), (D3, oD3), (D4, oD4), (if 0 = i then Dn else a0, if 0 = i then W.listOf (bools (dueB (sel3 S0 S1 S2 i) TT)).toArray nn else o0), (if 1 = i then Dn else a1, if 1 = i then W.listOf (bools (dueB (sel3 S0 S1 S2 i) TT)).toArray nn else o1), (if 2 = i then Dn else a2, if 2 = i then W.listOf (bools (dueB (sel3 S0 S1 S2 i) TT)).toArray nn else o2)], oc, _, rfl, F₂, ?_, hoc, ?_, ?_⟩
    · have hnew := N₂ (Dn, W.listOf (bools (dueB (sel3 S0 S1 S2 i) TT)).toArray nn) (by simp)
      intro p hp'
      simp only [List.mem_cons, List.not_mem_nil, or_false] at hp'
      rcases hp' with rfl | rfl | rfl | rfl | rfl | rfl | rfl | rfl | rfl | rfl | rfl | rfl | rfl | rfl
      · exact N₂ _ (by simp)
      · exact N₂ _ (by simp)
      · exact N₂ _ (by simp)
      · exact N₂ _ (by simp)
      · exact N₂ _ (by simp)
      · exact N₂ _ (by simp)
      · exact N₂ _ (by simp)
      · exact N₂ _ (by simp)
      · exact N₂ _ (by simp)
      · exact N₂ _ (by simp)
      · exact N₂ _ (by simp)
      · exact pick_of (P := fun a o => h'.get? a = some o ∧ a ≠ env.locals ∧ h₀.get? a = none) (N₂ (a0, o0) (by simp)) hnew
      · exact pick_of (P := fun a o => h'.get? a = some o ∧ a ≠ env.locals ∧ h₀.get? a = none) (N₂ (a1, o1) (by simp)) hnew
      · exact pick_of (P := fun a o => h'.get? a = some o ∧ a ≠ env.locals ∧ h₀.get? a = none) (N₂ (a2, o2) (by simp)) hnew
    · intro p hp'
      simp only [List.mem_cons, List.not_mem_nil, or_false] at hp'
      rcases hp' with rfl | rfl | rfl | rfl | rfl | rfl | rfl | rfl | rfl | rfl | rfl | rfl
      · exact ⟨i1, qp⟩
      · exact ⟨i2, qj⟩
      · exact ⟨i3, qT⟩
      · exact ⟨i4, q57⟩
      · exact ⟨i5, qt⟩
      · exact ⟨i6, qd⟩
      · exact ⟨i7, oD0.i⟩
      · exact ⟨i8, oD1.i⟩
      · exact ⟨i9, oD2.i⟩
      · exact pick_adr (P := fun a => a ≠ I ∧ a ≠ ci) ⟨i10, d0.i⟩ ⟨hDI, hDn.i⟩
      · exact pick_adr (P := fun a => a ≠ I ∧ a ≠ ci) ⟨i11, d1.i⟩ ⟨hDI, hDn.i⟩
      · exact pick_adr (P := fun a => a ≠ I ∧ a ≠ ci) ⟨i12, d2.i⟩ ⟨hDI, hDn.i⟩
    · exact ⟨tv ++ [Value.ref Dn], nT2, tb2, op2, oj', dp2, dj', _, _, _, _, _, _, rfl, ep2, ej', htb2, by simp [hl], slot_next hl s0, slot_next hl s1, slot_next hl s2, hm2, pick_adr d0 hDn, pick_adr d1 hDn, pick_adr d2 hDn⟩
  · rintro h' tk m' news' oc d F₁ N₁ hoc hne ⟨tv, nT', tb', op', oj', dp', dj', a0, a1, a2, o0, o1, o2, rfl, ep', ej', htb', hl, s0, s1, s2, hm, d0, d1, d2⟩ htk
    rw [due_frame hm] at F₁
    obtain ⟨e0, n0, rfl⟩ := s0 (by omega)
    obtain ⟨e1, n1, rfl⟩ := s1 (by omega)
    obtain ⟨e2, n2, rfl⟩ := s2 (by omega)
    have htv : tv = [.ref a0, .ref a1, .ref a2] := by
      match tv, hl with
      | [x, y, z], _ =>
        simp only [List.getElem?_cons_zero, List.getElem?_cons_succ, Option.some.injEq] at e0 e1 e2
        rw [e0, e1, e2]
    subst htv
    exact done _ nT' n0 n1 n2 tb' op' oj' oc dp' dj' d a0 a1 a2 h' tk htb' ep' ej' hoc d0 d1 d2 ⟨qT, q57, qt, qd, qp, qj, by (show @Ne Nat _ _; omega), by (show @Ne Nat _ _; omega), by (show @Ne Nat _ _; omega), by (show @Ne Nat _ _; omega), by (show @Ne Nat _ _; omega)⟩ (Nat.le_trans h1 htk) F₁ N₁
end
end Mine
end

section
open PySem PySem.W PySem.Spec PySem.Calls PyProof.Rows PySem.Builtin PySem.Builtin.Str
set_option Elab.async false
set_option maxRecDepth 100000
set_option maxHeartbeats 4000000
namespace Mine
theorem allAp_of {d : Addr} : ∀ {l : Led}, (∀ p ∈ l, p.1 ≠ d) → AllAp d l
  | [], _ => trivial
  | p :: _, h => ⟨h p (.head _), allAp_of fun q hq => h q (.tail _ hq)⟩
theorem take_bools {n : Nat} {bs : List Bool} : (bools bs).take n = bools (bs.take n) := by simp [bools]
theorem sv5 {S0 S1 S2 S3 S4 : List Nat} {t0 t1 t2 t3 t4 : Tok} : SV ([Value.str (strOf S0) t0, .str (strOf S1) t1, .str (strOf S2) t2] ++ [Value.str (strOf S3) t3, .str (strOf S4) t4]) [S0, S1, S2, S3, S4] := ⟨⟨_, rfl⟩, ⟨_, rfl⟩, ⟨_, rfl⟩, ⟨_, rfl⟩, ⟨_, rfl⟩, trivial⟩
theorem sv3 {S0 S1 S2 : List Nat} {t0 t1 t2 : Tok} : SV [Value.str (strOf S0) t0, .str (strOf S1) t1, .str (strOf S2) t2] [S0, S1, S2] := ⟨⟨_, rfl⟩, ⟨_, rfl⟩, ⟨_, rfl⟩, trivial⟩
theorem pats5 {S0 S1 S2 S3 S4 T : List Nat} (h0 : Pat S0) (h1 : Pat S1) (h2 : Pat S2) (h3 : Pat S3) (h4 : Pat S4) (h : T ∈ [S0, S1, S2, S3, S4]) : Pat T := by
  simp only [List.mem_cons, List.not_mem_nil, or_false] at h
  rcases h with rfl | rfl | rfl | rfl | rfl <;> assumption
theorem dots_of {S0 S1 S2 T : List Nat} (h0 : Pat S0) (h1 : Pat S1) (h2 : Pat S2) (h : T ∈ [dotS S0, dotS S1, dotS S2]) : ∃ U, Pat U ∧ T = dotS U := by
  simp only [List.mem_cons, List.not_mem_nil, or_false] at h
  rcases h with rfl | rfl | rfl
  · exact ⟨_, h0, rfl⟩
  · exact ⟨_, h1, rfl⟩
  · exact ⟨_, h2, rfl⟩
theorem dots_due {S S0 S1 S2 : List Nat} (h : Pat S) : [dotS S0, dotS S1, dotS S2].map (M S) = dueB S [S0, S1, S2] := by
  simp only [List.map_cons, List.map_nil, dueB, pat_dots h]
section
variable {w : World} {p : Program} {loose : List Str} {mean : ExcName → Option Value} {mg mb : Str → Option Value} {cn : Str} {cs : Scope} {a L : Addr} {ccd : Value} {base h₀ : Heap} {m : Str → Option Value} {s : Shared} {E : Value → Shared → Prop}
theorem tr_stepU {S : List Nat} {t u : Tok} {tb : Array Value} {news : Led} {news' : Array Value → Led} {Q : Value → Shared → Prop} (hS : Pat S) (B : Below callerA base [] h₀) (F : Fr h₀ L s.heap m) (N : News h₀ L s.heap news) (U : ∀ tb', Upd 57 (W.tabObj tb) (W.tabObj tb') news (news' tb')) (htb : TabGood tb) (X : (Mine.hd.heap_39 w.params).In h₀) (T : Top p loose mean mg mb h₀) (hk : cs.kind = .function)
    (h : ∀ l vs n tb' h' tk', PartVals vs (partsGo false S) → vs.length ≤ 5 → TabGood tb' → Fr h₀ L h' m → News h₀ L h' ((l, W.listOf vs.toArray n) :: news' tb') → AllAp l (news' tb') → Q (.ref l) { s with heap := h', toks := tk' }) :
    wpAny (model PR w) (LawA cn cs L a ccd) (call (.ref 62) [.str (patStr S) t, .none, .str "." u]) Q E s := by
  have N57 : News h₀ L s.heap [(57, W.tabObj tb)] := by
    obtain ⟨pre, post, e, -, -, -⟩ := (U tb).split
    intro q hq
    rw [List.mem_singleton.mp hq]
    exact N _ (by rw [e]; simp)
  refine tr_step hS B F N57 htb X T hk fun l vs n tb' h' tk' hpv hvl htb' hkp h57 hl hln => ?_
  obtain ⟨pre, post, e, e', ha, hb⟩ := (U tb').split
  subst e
  have hL : (57 : Addr) ≠ L := (N57 _ (.head _)).2.1
  have h0 : h₀.get? 57 = none := (N57 _ (.head _)).2.2
  obtain ⟨oL, a1, a2, hoL, a3⟩ := F.ns
  have F' : Fr h₀ L h' m := ⟨⟨oL, a1, a2, hkp _ _ (Ne.symm hL) hoL, a3⟩, fun b o e => hkp b o (by rintro rfl; rw [h0] at e; cases e) (F.keep b o e), F.above⟩
  have old : ∀ q ∈ news' tb', ∃ o, s.heap.get? q.1 = some o := by
    rw [e']
    intro q hq
    rcases List.mem_append.mp hq with hq | hq
    · exact ⟨_, (N q (List.mem_append_left _ hq)).1⟩
    · rcases List.mem_cons.mp hq with rfl | hq
      · exact ⟨_, (N57 _ (.head _)).1⟩
      · exact ⟨_, (N q (List.mem_append_right _ (.tail _ hq))).1⟩
  refine h l vs n tb' h' tk' hpv hvl htb' F' (fun q hq => ?_) (allAp_of fun q hq e => ?_)
  · rcases List.mem_cons.mp hq with rfl | hq
    · refine ⟨hl, fun e => ?_, ?_⟩
      · have e' : l = L := e
        rw [e', hoL] at hln; cases hln
      · cases q : h₀.get? l with
        | none => rfl
        | some o => rw [F.keep _ _ q] at hln; cases hln
    · rw [e'] at hq
      rcases List.mem_append.mp hq with hq | hq
      · exact ⟨hkp _ _ (ha q hq) (N q (List.mem_append_left _ hq)).1, (N q (List.mem_append_left _ hq)).2⟩
      · rcases List.mem_cons.mp hq with rfl | hq
        · exact ⟨h57, hL, h0⟩
        · exact ⟨hkp _ _ (hb q hq) (N q (List.mem_append_right _ (.tail _ hq))).1, (N q (List.mem_append_right _ (.tail _ hq))).2⟩
  · obtain ⟨o, ho⟩ := old q hq
    rw [e, hln] at ho; cases ho
end
end Mine
end

section
open PySem PySem.W PySem.Spec PySem.Calls PyProof.Rows PySem.Builtin PySem.Builtin.Str
set_option Elab.async false
set_option maxRecDepth 100000
set_option maxHeartbeats 4000000
namespace Mine
section
variable {w : World} {prog : Program} {A : Around} {E : Value → Shared → Prop} {s₁ : Shared} {env : Env} {h₀ : Heap} {body : List Stmt} {Q : Flow → Shared → Prop} {R : Led} {m₀ : Str → Option Value}
noncomputable def J2 (cj cp : Addr) (op : Obj) (R : Led) (m₀ : Str → Option Value) (_ : Nat) (m : Str → Option Value) (news : Led) : Prop := m = m₀ ∧ ∃ oj dj, news = (cj, oj) :: (cp, op) :: R ∧ oj.data = .cell dj
noncomputable def J3 (R : Led) (m₀ : Str → Option Value) (_ : Nat) (m : Str → Option Value) (news : Led) : Prop := m = m₀ ∧ news = R
/-- the second loop: the cell of j alone turns -/
theorem loopI_ex {ci cp cj ax : Addr} {oi op oj : Obj} {di dj : Option Value} {t u v : Tok}
    (hr : IsRange s₁.heap ax 0 ((3 : Nat) : Int) 1 t u v) (F : Fr h₀ env.locals s₁.heap m₀) (N : News h₀ env.locals s₁.heap ((ci, oi) :: (cp, op) :: (cj, oj) :: R))
    (ei : oi.data = .cell di) (ej : oj.data = .cell dj) (hpi : Apart cp ci) (hji : Apart cj ci) (hR : ∀ p ∈ R, p.1 ≠ ci)
    (turn : ∀ (i : Nat) (oc it oj : Obj) (dj : Option Value) (I : Addr) (t : Tok) (h : Heap) (tk : Nat), i < 3 → oc.data = .cell (some (.int (i : Int) t)) → oj.data = .cell dj → Apart cj I →
      (∀ h' tk' oj' dj', Fr h₀ env.locals h' m₀ → News h₀ env.locals h' ((I, it) :: (ci, oc) :: (cj, oj') :: (cp, op) :: R) → oj'.data = .cell dj' → CellEnd h₀ env.locals I ci it (J2 cj cp op R m₀ (i + 1)) { s₁ with heap := h, toks := tk } { s₁ with heap := h', toks := tk' }) →
      Fr h₀ env.locals h m₀ → News h₀ env.locals h ((I, it) :: (ci, oc) :: (cj, oj) :: (cp, op) :: R) →
      wpAny (model prog w) A (execs body env) (CellPost h₀ env.locals I ci it (J2 cj cp op R m₀ (i + 1)) { s₁ with heap := h, toks := tk } Q) E { s₁ with heap := h, toks := tk })
    (done : ∀ (oi oj : Obj) (h : Heap) (tk : Nat), Fr h₀ env.locals h m₀ → News h₀ env.locals h ((ci, oi) :: (cj, oj) :: (cp, op) :: R) → Q .next { s₁ with heap := h, toks := tk }) :
    ∃ (ax' : Addr) (n : Nat) (t u v : Tok) (m₀ : Str → Option Value) (news : Led) (oc : Obj) (d : Option Value) (J : Nat → (Str → Option Value) → Led → Prop), Value.ref ax = .ref ax' ∧ IsRange s₁.heap ax' 0 (n : Int) 1 t u v ∧ n ≤ 1000 ∧
      Fr h₀ env.locals s₁.heap m₀ ∧ News h₀ env.locals s₁.heap ((ci, oc) :: news) ∧ oc.data = .cell d ∧ (∀ p ∈ news, p.1 ≠ ci) ∧ J 0 m₀ news ∧
      (∀ (i : Nat) m₁ news₁ h tk I it oc t, i < n → J i m₁ news₁ → Fr h₀ env.locals h m₁ → News h₀ env.locals h ((I, it) :: (ci, oc) :: news₁) → oc.data = .cell (some (.int (i : Int) t)) → I ≠ ci → (∀ p ∈ news₁, p.1 ≠ I ∧ p.1 ≠ ci) → s₁.toks ≤ tk →
        wpAny (model prog w) A (execs body env) (CellPost h₀ env.locals I ci it (J (i + 1)) { s₁ with heap := h, toks := tk } Q) E { s₁ with heap := h, toks := tk }) ∧
      (∀ h' tk m' news' oc d, Fr h₀ env.locals h' m' → News h₀ env.locals h' ((ci, oc) :: news') → oc.data = .cell d → (∀ p ∈ news', p.1 ≠ ci) → J n m' news' → s₁.toks ≤ tk → Q .next { s₁ with heap := h', toks := tk }) := by
  have hall : ∀ oj' : Obj, ∀ p ∈ ((cj, oj') :: (cp, op) :: R : Led), p.1 ≠ ci := fun oj' => List.forall_mem_cons.mpr ⟨hji, List.forall_mem_cons.mpr ⟨hpi, hR⟩⟩
  refine ⟨ax, 3, t, u, v, m₀, (cj, oj) :: (cp, op) :: R, oi, di, J2 cj cp op R m₀, rfl, hr, by omega, F, fun p hp => N p ?_, ei, hall oj, ⟨rfl, oj, dj, rfl, ej⟩, ?_, ?_⟩
  · simp only [List.mem_cons] at hp ⊢
    rcases hp with h | h | h | h
    · exact .inl h
    · exact .inr (.inr (.inl h))
    · exact .inr (.inl h)
    · exact .inr (.inr (.inr h))
  · rintro i m₁ news₁ h tk I it oc t' hi ⟨rfl, oj', dj', rfl, hj⟩ F₁ N₁ hoc hIc hne htk
    refine turn i oc it oj' dj' I t' h tk hi hoc hj (hne _ (.head _)).1 ?_ F₁ N₁
    intro h' tk' oj2 dj2 F₂ N₂ hj2
    refine ⟨h', tk', _, (cj, oj2) :: (cp, op) :: R, oc, _, rfl, F₂, N₂, hoc, fun p hp => ⟨?_, hall oj2 p hp⟩, rfl, oj2, dj2, rfl, hj2⟩
    rcases List.mem_cons.mp hp with rfl | hp
    · exact (hne (cj, oj') (.head _)).1
    · exact (hne p (.tail _ hp)).1
  · rintro h' tk m' news' oc d F₁ N₁ hoc hne ⟨rfl, oj', dj', rfl, hj⟩ htk
    exact done oc oj' h' tk F₁ N₁
theorem loopJ_ex {cj ax : Addr} {oj : Obj} {dj : Option Value} {t u v : Tok} {news : Led}
    (hr : IsRange s₁.heap ax 0 ((3 : Nat) : Int) 1 t u v) (F : Fr h₀ env.locals s₁.heap m₀) (N : News h₀ env.locals s₁.heap news) (hm : ∀ p ∈ (cj, oj) :: R, p ∈ news)
    (ej : oj.data = .cell dj) (hR : ∀ p ∈ R, p.1 ≠ cj)
    (turn : ∀ (j : Nat) (oc it : Obj) (I : Addr) (t : Tok) (h : Heap) (tk : Nat), j < 3 → oc.data = .cell (some (.int (j : Int) t)) →
      (∀ h' tk', Fr h₀ env.locals h' m₀ → News h₀ env.locals h' ((I, it) :: (cj, oc) :: R) → CellEnd h₀ env.locals I cj it (J3 R m₀ (j + 1)) { s₁ with heap := h, toks := tk } { s₁ with heap := h', toks := tk' }) →
      Fr h₀ env.locals h m₀ → News h₀ env.locals h ((I, it) :: (cj, oc) :: R) →
      wpAny (model prog w) A (execs body env) (CellPost h₀ env.locals I cj it (J3 R m₀ (j + 1)) { s₁ with heap := h, toks := tk } Q) E { s₁ with heap := h, toks := tk })
    (done : ∀ (oj : Obj) (dj : Option Value) (h : Heap) (tk : Nat), oj.data = .cell dj → Fr h₀ env.locals h m₀ → News h₀ env.locals h ((cj, oj) :: R) → Q .next { s₁ with heap := h, toks := tk }) :
    ∃ (ax' : Addr) (n : Nat) (t u v : Tok) (m₀ : Str → Option Value) (news : Led) (oc : Obj) (d : Option Value) (J : Nat → (Str → Option Value) → Led → Prop), Value.ref ax = .ref ax' ∧ IsRange s₁.heap ax' 0 (n : Int) 1 t u v ∧ n ≤ 1000 ∧
      Fr h₀ env.locals s₁.heap m₀ ∧ News h₀ env.locals s₁.heap ((cj, oc) :: news) ∧ oc.data = .cell d ∧ (∀ p ∈ news, p.1 ≠ cj) ∧ J 0 m₀ news ∧
      (∀ (i : Nat) m₁ news₁ h tk I it oc t, i < n → J i m₁ news₁ → Fr h₀ env.locals h m₁ → News h₀ env.locals h ((I, it) :: (cj, oc) :: news₁) → oc.data = .cell (some (.int (i : Int) t)) → I ≠ cj → (∀ p ∈ news₁, p.1 ≠ I ∧ p.1 ≠ cj) → s₁.toks ≤ tk →
        wpAny (model prog w) A (execs body env) (CellPost h₀ env.locals I cj it (J (i + 1)) { s₁ with heap := h, toks := tk } Q) E { s₁ with heap := h, toks := tk }) ∧
      (∀ h' tk m' news' oc d, Fr h₀ env.locals h' m' → News h₀ env.locals h' ((cj, oc) :: news') → oc.data = .cell d → (∀ p ∈ news', p.1 ≠ cj) → J n m' news' → s₁.toks ≤ tk → Q .next { s₁ with heap := h', toks := tk }) := by
  refine ⟨ax, 3, t, u, v, m₀, R, oj, dj, J3 R m₀, rfl, hr, by omega, F, fun p hp => N p (hm p hp), ej, hR, ⟨rfl, rfl⟩, ?_, ?_⟩
  · rintro j m₁ news₁ h tk I it oc t' hj ⟨rfl, rfl⟩ F₁ N₁ hoc hIc hne htk
    refine turn j oc it I t' h tk hj hoc ?_ F₁ N₁
    intro h' tk' F₂ N₂
    exact ⟨h', tk', _, _, oc, _, rfl, F₂, N₂, hoc, hne, rfl, rfl⟩
  · rintro h' tk m' news' oc d F₁ N₁ hoc hne ⟨rfl, rfl⟩ htk
    exact done oc d h' tk hoc F₁ N₁
theorem loopJ_ex' {cj ax : Addr} {oj : Obj} {dj : Option Value} {t u v : Tok} {p1 p2 : Addr × Obj}
    (hr : IsRange s₁.heap ax 0 ((3 : Nat) : Int) 1 t u v) (F : Fr h₀ env.locals s₁.heap m₀) (N : News h₀ env.locals s₁.heap (p1 :: p2 :: (cj, oj) :: R))
    (ej : oj.data = .cell dj) (hR : ∀ p ∈ p1 :: p2 :: R, p.1 ≠ cj)
    (turn : ∀ (j : Nat) (oc it : Obj) (I : Addr) (t : Tok) (h : Heap) (tk : Nat), j < 3 → oc.data = .cell (some (.int (j : Int) t)) →
      (∀ h' tk', Fr h₀ env.locals h' m₀ → News h₀ env.locals h' ((I, it) :: (cj, oc) :: p1 :: p2 :: R) → CellEnd h₀ env.locals I cj it (J3 (p1 :: p2 :: R) m₀ (j + 1)) { s₁ with heap := h, toks := tk } { s₁ with heap := h', toks := tk' }) →
      Fr h₀ env.locals h m₀ → News h₀ env.locals h ((I, it) :: (cj, oc) :: p1 :: p2 :: R) →
      wpAny (model prog w) A (execs body env) (CellPost h₀ env.locals I cj it (J3 (p1 :: p2 :: R) m₀ (j + 1)) { s₁ with heap := h, toks := tk } Q) E { s₁ with heap := h, toks := tk })
    (done : ∀ (oj : Obj) (dj : Option Value) (h : Heap) (tk : Nat), oj.data = .cell dj → Fr h₀ env.locals h m₀ → News h₀ env.locals h ((cj, oj) :: p1 :: p2 :: R) → Q .next { s₁ with heap := h, toks := tk }) :
    ∃ (ax' : Addr) (n : Nat) (t u v : Tok) (m₀ : Str → Option Value) (news : Led) (oc : Obj) (d : Option Value) (J : Nat → (Str → Option Value) → Led → Prop), Value.ref ax = .ref ax' ∧ IsRange s₁.heap ax' 0 (n : Int) 1 t u v ∧ n ≤ 1000 ∧
      Fr h₀ env.locals s₁.heap m₀ ∧ News h₀ env.locals s₁.heap ((cj, oc) :: news) ∧ oc.data = .cell d ∧ (∀ p ∈ news, p.1 ≠ cj) ∧ J 0 m₀ news ∧
      (∀ (i : Nat) m₁ news₁ h tk I it oc t, i < n → J i m₁ news₁ → Fr h₀ env.locals h m₁ → News h₀ env.locals h ((I, it) :: (cj, oc) :: news₁) → oc.data = .cell (some (.int (i : Int) t)) → I ≠ cj → (∀ p ∈ news₁, p.1 ≠ I ∧ p.1 ≠ cj) → s₁.toks ≤ tk →
        wpAny (model prog w) A (execs body env) (CellPost h₀ env.locals I cj it (J (i + 1)) { s₁ with heap := h, toks := tk } Q) E { s₁ with heap := h, toks := tk }) ∧
      (∀ h' tk m' news' oc d, Fr h₀ env.locals h' m' → News h₀ env.locals h' ((cj, oc) :: news') → oc.data = .cell d → (∀ p ∈ news', p.1 ≠ cj) → J n m' news' → s₁.toks ≤ tk → Q .next { s₁ with heap := h', toks := tk }) :=
  loopJ_ex hr F N (fun p hp => by
    simp only [List.mem_cons] at hp ⊢
    rcases hp with h | h | h | h
    · exact .inr (.inr (.inl h))
    · exact .inl h
    · exact .inr (.inl h)
    · exact .inr (.inr (.inr h))) ej hR turn done
end
noncomputable def selA (a b c : Addr) : Nat → Addr
  | 0 => a
  | 1 => b
  | _ => c
section
variable {prog : Program} {w : World} {A : Around} {E : Value → Shared → Prop} {s : Shared} {h₀ : Heap} {L : Addr} {m : Str → Option Value} {news : Led}
theorem item_told {value slice : Expr} {l a b c : Addr} {i : Nat} {u : Tok} {Q : Value → Shared → Prop} (hl : s.heap.IsList l [Value.ref a, .ref b, .ref c].toArray) (hi : i < 3)
    (hs : subscripted slice false (.ref l) (.int (i : Int) u) = operate [.ref l, .int (i : Int) u] (getItem (.ref l) (.int (i : Int) u))) (hg : ∀ r, letTemporaryGo value (.ref l) r = pure ()) (h : Q (.ref (selA a b c i)) s) :
    wpAny (model prog w) A (subscriptTail value slice (.ref l) (.int (i : Int) u)) Q E s := by
  have e : [Value.ref a, .ref b, .ref c][i]? = some (.ref (selA a b c i)) := by
    match i, hi with
    | 0, _ => rfl
    | 1, _ => rfl
    | 2, _ => rfl
    | _ + 3, hi => omega
  exact item_at (x := .ref (selA a b c i)) hl e (by simp) h hs hg
theorem item_due5 {value slice : Expr} {a b c : Addr} {S0 S1 S2 : List Nat} {TT : List (List Nat)} {i k : Nat} {u : Tok} {Q : Value → Shared → Prop} (h0 : s.heap.IsList a (bools (dueB S0 TT)).toArray) (h1 : s.heap.IsList b (bools (dueB S1 TT)).toArray) (h2 : s.heap.IsList c (bools (dueB S2 TT)).toArray) (hi : i < 3) (hk : k < 5) (hT : TT.length = 5)
    (hs : subscripted slice false (.ref (selA a b c i)) (.int (k : Int) u) = operate [.ref (selA a b c i), .int (k : Int) u] (getItem (.ref (selA a b c i)) (.int (k : Int) u))) (hg : ∀ r, letTemporaryGo value (.ref (selA a b c i)) r = pure ()) (h : Q (.bool (M (sel3 S0 S1 S2 i) (TT.getD k []))) s) :
    wpAny (model prog w) A (subscriptTail value slice (.ref (selA a b c i)) (.int (k : Int) u)) Q E s := by
  have hl : s.heap.IsList (selA a b c i) (bools (dueB (sel3 S0 S1 S2 i) TT)).toArray := by
    match i, hi with
    | 0, _ => exact h0
    | 1, _ => exact h1
    | 2, _ => exact h2
    | _ + 3, hi => omega
  have hkl : k < TT.length := by omega
  exact item_at (x := .bool (M (sel3 S0 S1 S2 i) (TT.getD k []))) hl (by simp [bools, dueB, List.getD_eq_getElem?_getD, hkl]) (by simp [bools, dueB, hT]) h hs hg
theorem sel_get {S0 S1 S2 S3 S4 : List Nat} {j : Nat} (hj : j < 3) : [S0, S1, S2, S3, S4].getD j [] = sel3 S0 S1 S2 j := by
  match j, hj with
  | 0, _ => rfl
  | 1, _ => rfl
  | 2, _ => rfl
  | _ + 3, hj => omega
theorem item_due3 {value slice : Expr} {a b c : Addr} {S0 S1 S2 S3 S4 : List Nat} {i j : Nat} {u : Tok} {Q : Value → Shared → Prop} (h0 : s.heap.IsList a (bools (dueB S0 [S0, S1, S2, S3, S4])).toArray) (h1 : s.heap.IsList b (bools (dueB S1 [S0, S1, S2, S3, S4])).toArray) (h2 : s.heap.IsList c (bools (dueB S2 [S0, S1, S2, S3, S4])).toArray) (hi : i < 3) (hj : j < 3)
    (hs : subscripted slice false (.ref (selA a b c i)) (.int (j : Int) u) = operate [.ref (selA a b c i), .int (j : Int) u] (getItem (.ref (selA a b c i)) (.int (j : Int) u))) (hg : ∀ r, letTemporaryGo value (.ref (selA a b c i)) r = pure ()) (h : Q (.bool (M (sel3 S0 S1 S2 i) (sel3 S0 S1 S2 j))) s) :
    wpAny (model prog w) A (subscriptTail value slice (.ref (selA a b c i)) (.int (j : Int) u)) Q E s :=
  item_due5 h0 h1 h2 hi (by omega) rfl hs hg (by rw [sel_get hj]; exact h)
theorem item_self {value slice : Expr} {a b c : Addr} {S0 S1 S2 S3 S4 : List Nat} {i : Nat} {u : Tok} {Q : Value → Shared → Prop} (h0 : s.heap.IsList a (bools (dueB S0 [S0, S1, S2, S3, S4])).toArray) (h1 : s.heap.IsList b (bools (dueB S1 [S0, S1, S2, S3, S4])).toArray) (h2 : s.heap.IsList c (bools (dueB S2 [S0, S1, S2, S3, S4])).toArray) (hi : i < 3)
    (hs : subscripted slice false (.ref (selA a b c i)) (.int (i : Int) u) = operate [.ref (selA a b c i), .int (i : Int) u] (getItem (.ref (selA a b c i)) (.int (i : Int) u))) (hg : ∀ r, letTemporaryGo value (.ref (selA a b c i)) r = pure ()) (h : Q (.bool true) s) :
    wpAny (model prog w) A (subscriptTail value slice (.ref (selA a b c i)) (.int (i : Int) u)) Q E s :=
  item_due3 h0 h1 h2 hi hi hs hg (by rw [M_refl]; exact h)
theorem due_self {value slice : Expr} {a b c : Addr} {S0 S1 S2 S3 S4 : List Nat} {i : Nat} {u : Tok} {Q : Value → Shared → Prop} (h0 : s.heap.IsList a (bools (dueB S0 [S0, S1, S2, S3, S4])).toArray) (h1 : s.heap.IsList b (bools (dueB S1 [S0, S1, S2, S3, S4])).toArray) (h2 : s.heap.IsList c (bools (dueB S2 [S0, S1, S2, S3, S4])).toArray) (hi : i < 3)
    (hs : subscripted slice false (.ref (selA a b c i)) (.int (i : Int) u) = operate [.ref (selA a b c i), .int (i : Int) u] (getItem (.ref (selA a b c i)) (.int (i : Int) u))) (h : Q (.bool true) s) :
    wpAny (model prog w) A (subscriptTail value slice (.ref (selA a b c i)) (.int (i : Int) u)) Q E s :=
  kba_turn (value' := Expr.Name (Str.ofString "_") ⟨0, 0, 0, 0⟩) (fun _ => rfl) (item_self h0 h1 h2 hi hs (fun _ => rfl) h)
theorem due3 {value slice : Expr} {a b c : Addr} {S0 S1 S2 S3 S4 : List Nat} {i j : Nat} {u : Tok} {Q : Value → Shared → Prop} (h0 : s.heap.IsList a (bools (dueB S0 [S0, S1, S2, S3, S4])).toArray) (h1 : s.heap.IsList b (bools (dueB S1 [S0, S1, S2, S3, S4])).toArray) (h2 : s.heap.IsList c (bools (dueB S2 [S0, S1, S2, S3, S4])).toArray) (hi : i < 3) (hj : j < 3)
    (hs : subscripted slice false (.ref (selA a b c i)) (.int (j : Int) u) = operate [.ref (selA a b c i), .int (j : Int) u] (getItem (.ref (selA a b c i)) (.int (j : Int) u))) (h : Q (.bool (M (sel3 S0 S1 S2 i) (sel3 S0 S1 S2 j))) s) :
    wpAny (model prog w) A (subscriptTail value slice (.ref (selA a b c i)) (.int (j : Int) u)) Q E s :=
  kba_turn (value' := Expr.Name (Str.ofString "_") ⟨0, 0, 0, 0⟩) (fun _ => rfl) (item_due3 h0 h1 h2 hi hj hs (fun _ => rfl) h)
theorem due5 {value slice : Expr} {a b c : Addr} {S0 S1 S2 : List Nat} {TT : List (List Nat)} {i k : Nat} {u : Tok} {Q : Value → Shared → Prop} (h0 : s.heap.IsList a (bools (dueB S0 TT)).toArray) (h1 : s.heap.IsList b (bools (dueB S1 TT)).toArray) (h2 : s.heap.IsList c (bools (dueB S2 TT)).toArray) (hi : i < 3) (hk : k < 5) (hT : TT.length = 5)
    (hs : subscripted slice false (.ref (selA a b c i)) (.int (k : Int) u) = operate [.ref (selA a b c i), .int (k : Int) u] (getItem (.ref (selA a b c i)) (.int (k : Int) u))) (h : Q (.bool (M (sel3 S0 S1 S2 i) (TT.getD k []))) s) :
    wpAny (model prog w) A (subscriptTail value slice (.ref (selA a b c i)) (.int (k : Int) u)) Q E s :=
  kba_turn (value' := Expr.Name (Str.ofString "_") ⟨0, 0, 0, 0⟩) (fun _ => rfl) (item_due5 h0 h1 h2 hi hk hT hs (fun _ => rfl) h)
end
theorem order_none {S U : List Nat} {TT : List (List Nat)} {ys : List Value} {Y : Nat → Value → Prop} (h : M S U = true) (hP : Paired Y ((List.range 5).filter fun k => M U (TT.getD k []) && !M S (TT.getD k [])) ys) : ys = [] := by
  have : (List.range 5).filter (fun k => M U (TT.getD k []) && !M S (TT.getD k [])) = [] := by
    rw [List.filter_eq_nil_iff]
    intro k _ hk
    rw [Bool.and_eq_true, Bool.not_eq_true'] at hk
    have := M_trans U S _ h hk.1
    rw [hk.2] at this; cases this
  rw [this] at hP
  cases hP; rfl
theorem both_eq {S U : List Nat} : (M S U && M U S) = (strOf (norm S) == strOf (norm U)) := by rw [strOf_inj, gap_law]
theorem gap_stepN {w : World} {p : Program} {loose : List Str} {mean : ExcName → Option Value} {mg mb : Str → Option Value} {cn : Str} {cs : Scope} {a L : Addr} {ccd : Value} {base h₀ : Heap} {m : Str → Option Value} {s : Shared} {E : Value → Shared → Prop} {news : Led} {S : List Nat} {t : Tok} {Q : Value → Shared → Prop} (hS : Pat S) (B : Below callerA base [] h₀) (F : Fr h₀ L s.heap m) (N : News h₀ L s.heap news) (X : (Mine.hd.heap_39 w.params).In h₀) (T : Top p loose mean mg mb h₀) (hk : cs.kind = .function)
    (h : ∀ h' tk' t', Fr h₀ L h' m → News h₀ L h' news → Q (.str (strOf (norm S)) t') { s with heap := h', toks := tk' }) :
    wpAny (model PR w) (LawA cn cs L a ccd) (call (.ref 74) [.str (strOf S) t]) Q E s :=
  gap_stepL hS B F X T hk fun h' tk' t' keep => h h' tk' t' (F.keeps keep) (N.grown keep)
theorem news_rot {h₀ h : Heap} {L : Addr} {x y z : Addr × Obj} {R : Led} (N : News h₀ L h (x :: y :: z :: R)) : News h₀ L h (y :: z :: x :: R) := fun p hp => N p (by
  simp only [List.mem_cons] at hp ⊢
  rcases hp with h | h | h | h
  · exact .inr (.inl h)
  · exact .inr (.inr (.inl h))
  · exact .inl h
  · exact .inr (.inr (.inr h)))
theorem ne_bool_same {prog : Program} {w : World} {A : Around} {E : Value → Shared → Prop} {s : Shared} {a b : Bool} {Q : Value → Shared → Prop} (e : a = b) (h : Q (.bool false) s) : wpAny (model prog w) A (compareOp .NotEq (.bool a) (.bool b)) Q E s := by
  subst e
  exact SeqAt.RcNeAt.bool_bool a a prog w E Q (by simpa using h)
theorem neA {S U : List Nat} (h : M S U = true) : M U S = (strOf (norm S) == strOf (norm U)) := by rw [← both_eq, h, Bool.true_and]
theorem neB {S U : List Nat} (h : M S U = false) : M S U = (strOf (norm S) == strOf (norm U)) := by rw [← both_eq, h, Bool.false_and]
theorem neC {S U : List Nat} (h : M S U = false) : false = (strOf (norm S) == strOf (norm U)) := by rw [← both_eq, h, Bool.false_and]
theorem tA {a b : Bool} (ha : a = true) (hb : b = true) : false = (a && !b) := by rw [ha, hb]; rfl
theorem tB {a b : Bool} (ha : a = true) (hb : b = false) : true = (a && !b) := by rw [ha, hb]; rfl
theorem tC {a b : Bool} (ha : a = false) : false = (a && !b) := by rw [ha]; rfl
theorem tD {a b : Bool} (ha : a = true) : (!b) = (a && !b) := by rw [ha]; rfl
end Mine
end

section
open PySem PySem.W PySem.Spec PySem.Calls PyProof.Rows PySem.Builtin PySem.Builtin.Str
set_option Elab.async false
set_option maxRecDepth 100000
set_option maxHeartbeats 4000000
namespace Mine
local macro_rules | `(tactic| k_ne) => `(tactic| first | (refine neN ?_; (try dsimp only); exact Apart.ne (by with_reducible assumption)) | (refine neN ?_; (try dsimp only); exact Apart.en (by with_reducible assumption)) | (refine neN ?_; (try dsimp only); omega))
theorem law_ok : PySem.Challenge.rw_ij0083_01.Holds := Mine.hd ⟨Mine.left, by
  k_with_none
  k_with "eval Name" => (k_here; (with_reducible show wpAny _ _ (eval (Expr.Name _ _) (compEnvC _ _ _ _)) _ _ _); (with_reducible refine inComp ?_); name_kind "local"; with_unfolding_all refine ldVarK (by assumption) (by assumption) ?_)
  k_with "eval Name" => (k_here; (with_reducible show wpAny _ _ (eval (Expr.Name _ _) (compEnvC _ _ _ _)) _ _ _); (first
    | (refine' lcf_cell ?r_N ?r_c ?r_m ?r_d ?_ ?r_a ?r_b ?r_e; (k_dflt ((case r_a => rfl); (case r_b => kernel_rfl!); (case r_N => k_asm); (case r_c => with_unfolding_all rfl); (case r_m => k_mem); (case r_d => k_asm); (case r_e => decide))); k_whole)
    | (refine' lcf_free ?r_N ?r_c ?r_m ?r_d ?_ ?r_a ?r_b ?r_e ?r_f; (k_dflt ((case r_a => rfl); (case r_b => kernel_rfl!); (case r_N => k_asm); (case r_c => with_unfolding_all rfl); (case r_m => k_mem); (case r_d => k_asm); (case r_e => decide); (case r_f => decide))); k_whole)
    | (refine' nameG_K ?r_F ?r_X ?r_T ?r_e ?_ ?r_g ?r_a ?r_b ?r_d; (k_dflt ((case r_g => rfl); (case r_a => rfl); (case r_b => kernel_rfl!); (case r_F => k_asm); (case r_X => k_asm); (case r_T => k_asm); (case r_e => k_is); (case r_d => decide))); k_whole)
    | (refine' LCgL.ld_built ?r_F ?r_X ?r_T ?r_e ?r_v ?r_n ?_ ?r_g ?r_h ?r_a ?r_b ?r_d; (k_dflt ((case r_g => rfl); (case r_h => rfl); (case r_a => rfl); (case r_b => kernel_rfl!); (case r_F => k_asm); (case r_X => k_asm); (case r_T => k_asm); (case r_e => k_is); (case r_v => boot_by_name); (case r_n => decide); (case r_d => decide))); k_whole)))
  k_with "eval Name" => (k_here; (with_reducible show wpAny _ _ (eval (Expr.Name _ _) (envOfC _ _ _ _ _)) _ _ _); (first
    | (refine' nameO_L ?r_F ?r_v ?_ ?r_a ?r_b ?r_d; (k_dflt ((case r_a => rfl); (case r_b => kernel_rfl!); (case r_F => k_asm); (case r_v => rfl); (case r_d => kernel_rfl!))); k_whole)
    | (refine' nameO_C ?r_N ?r_c ?r_m ?r_d ?_ ?r_a ?r_b ?r_e; (k_dflt ((case r_a => rfl); (case r_b => kernel_rfl!); (case r_N => k_asm); (case r_c => rfl); (case r_m => k_mem); (case r_d => k_asm); (case r_e => kernel_rfl!))); k_whole)
    | (refine' nameO_K ?r_F ?r_X ?r_T ?r_e ?_ ?r_a ?r_b ?r_d; (k_dflt ((case r_a => rfl); (case r_b => kernel_rfl!); (case r_F => k_asm); (case r_X => k_asm); (case r_T => k_asm); (case r_e => k_is); (case r_d => kernel_rfl!))); k_whole)
    | (refine' nameO_B ?r_F ?r_X ?r_T ?r_e ?r_v ?r_n ?_ ?r_a ?r_b ?r_d; (k_dflt ((case r_a => rfl); (case r_b => kernel_rfl!); (case r_F => k_asm); (case r_X => k_asm); (case r_T => k_asm); (case r_e => k_is); (case r_v => boot_fast); (case r_n => decide); (case r_d => kernel_rfl!))); k_whole)))
  k_with "callWith ref" => (k_here; k_dflt (first
    | (refine' callWith_K ?r_k1 ?r_k2 ?_; (case r_k1 => k_asm); (case r_k2 => k_is); k_whole)
    | (refine' callWith_K0 ?r_k1 ?r_k2 ?_; (case r_k1 => k_in); (case r_k2 => k_is); k_whole)))
  k_with "subscriptTail" => (k_here; (with_reducible show wpAny _ _ (subscriptTail (Expr.List _ _) _ (Value.ref _) (Value.int _ _)) _ _ _); (with_unfolding_all refine' item_litK ?r_k1 ?r_k2 ?r_k3 ?r_k4 ?_ ?r_k6; (case r_k1 => is_list); (case r_k2 => decide); (case r_k3 => decide); (case r_k4 => rfl); (case r_k6 => with_unfolding_all rfl); k_whole))
  k_with "exec If" => (k_here; with_reducible refine wpAny_If ?_)
  k_with "setItem ref int" => (k_here; k_dflt (refine' ki_set ?r_F ?r_N ?r_a ?r_b ?r_e ?r_U ?_; (case r_F => k_asm); (case r_N => k_asm); (case r_U => k_upd); (case r_a => decide); (case r_b => decide); (case r_e => rfl)); ki_rest)
  k_with "call builtin:sum" => (k_here; (k_dflt refine' sum_ok ?r_k1 ?r_k2 ?r_k3 ?r_k4 ?r_k5 ?_; (case r_k1 => k_asm); (case r_k2 => k_asm); (case r_k3 => rfl); (case r_k4 => k_mem); (case r_k5 => assumption)); k_whole; intro qx' qh' qtk' qt' qF' qN')
  k_with "subscriptTail" => (k_here; (with_reducible show wpAny _ _ (subscriptTail _ (Expr.Slice _ _ (some _) _) _ _) _ _ _); (k_dflt refine' slice_step (s := ⟨_, _, _, _, _⟩) ?r_k1 ?r_k2 ?r_k3 ?r_k4 ?r_k5 ?r_k6 ?_; (case r_k1 => k_asm); (case r_k2 => k_asm); (case r_k3 => k_mem); (case r_k4 => assumption); (case r_k5 => decide); (case r_k6 => omega)); k_whole; intro qD' qws' qms' qh' qF' qN' ql1 qhi'; (try k_lt ql1))
  k_with "subscriptTail Subscript Name Slice Slice ref ref" => (k_here; (with_reducible show wpAny _ _ (subscriptTail _ (Expr.Slice _ _ (some _) _) _ _) _ _ _); (k_dflt refine' slice_step (s := ⟨_, _, _, _, _⟩) ?r_k1 ?r_k2 ?r_k3 ?r_k4 ?r_k5 ?r_k6 ?_; (case r_k1 => k_asm); (case r_k2 => k_asm); (case r_k3 => k_mem); (case r_k4 => assumption); (case r_k5 => decide); (case r_k6 => omega)); k_whole; intro qD' qws' qms' qh' qF' qN' ql1 qhi'; (try k_lt ql1))
  k_with "subscriptTail Name Slice ref ref" => (k_here; (with_reducible show wpAny _ _ (subscriptTail _ (Expr.Slice none (some _) none _) (Value.ref _) (Value.ref _)) _ _ _); (with_unfolding_all refine' slice_to (s := ⟨_, _, _, _, _⟩) (b := 3) ?r_k1 ?r_k2 ?r_k3 ?r_k4 ?r_k5 ?r_k6 ?_; (case r_k1 => k_asm); (case r_k2 => k_asm); (case r_k3 => exact News.isList (by k_asm) (by k_mem)); (case r_k4 => rfl); (case r_k5 => first | (simp only [List.take_succ_cons, List.take_zero]; rfl) | exact take_bools); (case r_k6 => first | (simp only [List.length_cons, List.length_nil]; omega) | exact (by decide : (5 : Nat) ≤ 1000)); k_whole); intro qD' qh' qF' qN' ql1; (try k_lt ql1))
  k_with "subscriptTail Name Slice ref ref" => (k_here; (with_reducible show wpAny _ _ (subscriptTail _ (Expr.Slice (some _) none none _) (Value.ref _) (Value.ref _)) _ _ _); (with_unfolding_all refine' slice_from (s := ⟨_, _, _, _, _⟩) (a := 3) ?r_k1 ?r_k2 ?r_k3 ?r_k4 ?r_k5 ?r_k6 ?_; (case r_k1 => k_asm); (case r_k2 => k_asm); (case r_k3 => exact News.isList (by k_asm) (by k_mem)); (case r_k4 => rfl); (case r_k5 => (simp only [List.drop_succ_cons, List.drop_zero]; rfl)); (case r_k6 => (simp only [List.length_cons, List.length_nil]; omega)); k_whole); intro qD' qh' qF' qN' ql1; (try k_lt ql1))
  k_with "Exists" => ((with_reducible show ∃ (_ : Addr) (_ : List Value), _); (refine stop_of ?_); trace "EX")
  k_with "Exists" => ((with_reducible show ∃ (_ : Addr) (_ : Nat), _); (refine stop_of ?_); trace "EXR")
  k_with "newList" => (k_here; (with_reducible show wpAny _ _ (newList (Value.str _ _ :: _)) _ _ _); (k_dflt refine' newList_keep ?r_k1 ?r_k2 ?r_k3 ?_; (case r_k1 => k_asm); (case r_k2 => k_asm); (case r_k3 => (simp only [List.length_cons, List.length_nil]; omega))); k_whole; intro qD' qh' qF' qN' ql1 qhk'; (try k_lt ql1))
  k_with "eval ListComp" => (refine stop_of ?_; trace "COMP")
  k_with "exec Assign cons ListComp" => ((with_reducible show wpAny _ _ (exec (Stmt.Assign [Expr.Name (Str.ofString "stars") _] _ _) _) _ _ _); refine stop_of ?_; trace "ACOMP")
  k_with "exec Assign cons ListComp" => ((with_reducible show wpAny _ _ (exec (Stmt.Assign [Expr.Name (Str.ofString "texts") _] _ _) _) _ _ _); refine stop_of ?_; trace "ACOMP")
  k_with "exec Assign cons ListComp" => ((with_reducible show wpAny _ _ (exec (Stmt.Assign [Expr.Name (Str.ofString "due") _] _ _) _) _ _ _); refine stop_of ?_; trace "ACOMP")
  k_with "exec Assign cons ListComp" => ((with_reducible show wpAny _ _ (exec (Stmt.Assign [Expr.Name (Str.ofString "dots") _] _ _) _) _ _ _); with_unfolding_all refine wpAny_Assign_Name ?_)
  k_with "eval Name" => (k_here; (with_reducible show wpAny _ _ (eval (Expr.Name _ _) (compEnvC _ _ _ _)) _ _ _); (refine' name_own ?r_k1 ?r_k2 ?r_k3 ?r_k4 ?r_k5 ?r_k6 ?_; (k_dflt ((case r_k4 => rfl); (case r_k5 => rfl); (case r_k6 => decide); (case r_k1 => assumption); (case r_k2 => assumption); (case r_k3 => first | exact fun _ _ e => e | assumption)))); k_whole)
  k_with "binaryOp FloorDiv int int" => (k_here; (refine' fdiv_pow ?r_k1 ?r_k2 ?r_k3 ?_; (case r_k1 => decide); (case r_k2 => decide); (case r_k3 => assumption)); intro qy' qt')
  k_with "call builtin:str.join" => (k_here; (with_reducible show wpAny _ _ (call (Value.builtin "str.join") [Value.str _ _, Value.ref _]) _ _ _); (k_dflt refine' join_bits ?r_k1 ?r_k2 ?r_k3 ?_; (case r_k1 => k_dflt exact News.isList (by k_asm) (by k_mem)); (case r_k2 => assumption); (case r_k3 => assumption)); k_whole; intro qv' qk' qhw')
  k_with "call builtin:str.replace" => (k_here; refine SC.replace (by first | omega | ((show @Ne Nat _ _); omega)) (by first | omega | ((show @Ne Nat _ _); omega)) (by first | omega | ((show @Ne Nat _ _); omega)) (by decide +kernel) (pat_fit (by with_reducible assumption) (by decide +kernel)) ?_; intro qt' qk')
  k_with "exec For Name Call cons nil" => ((with_reducible show wpAny _ _ (exec (Stmt.For (Expr.Name (Str.ofString "i") _) _ _ _ _) _) _ _ _); (refine stop_of ?_); trace "FOR")
  k_with "call type:range" => ((fail_if_success (with_reducible show wpAny _ _ _ (fun _ s' => _ ≤ Shared.toks s' → _) _ _)); refine with_toks ?_)
  k_with "subscriptTail Name Name ref int" => (k_here; (with_reducible show wpAny _ _ (subscriptTail (Expr.Name (Str.ofString "stars") _) _ (Value.ref _) (Value.int _ _)) _ _ _); (refine' item_sel ?r_k1 ?r_k2 ?r_k6 ?r_k7 ?_; (case r_k1 => k_dflt exact News.isList (by k_asm) (by k_mem)); (case r_k2 => assumption); (case r_k6 => (with_unfolding_all rfl)); (case r_k7 => (intro _; with_unfolding_all rfl))); k_whole; intro qt')
  k_with "subscriptTail" => (k_here; (with_reducible show wpAny _ _ (subscriptTail (Expr.Name (Str.ofString "stars") _) _ (Value.ref _) (Value.int _ _)) _ _ _); trace "SELECT"; (refine' item_sel ?r_k1 ?r_k2 ?r_k6 ?r_k7 ?_; (case r_k1 => k_dflt exact News.isList (by k_asm) (by k_mem)); (case r_k2 => assumption); (case r_k6 => (with_unfolding_all rfl)); (case r_k7 => (intro _; with_unfolding_all rfl))); k_whole; intro qt')
  k_with "call builtin:str.replace" => (k_here; (with_reducible show wpAny _ _ (call (Value.builtin "str.replace") [Value.str _ _, Value.str (Str.ofString "[") _, _]) _ _ _); trace "REP"; refine' rep_step ?r_k1 ?r_k2 ?r_k3 ?r_k4 ?_; (case r_k1 => first | omega | ((show @Ne Nat _ _); omega)); (case r_k2 => first | omega | ((show @Ne Nat _ _); omega)); (case r_k3 => first | omega | ((show @Ne Nat _ _); omega)); (case r_k4 => exact sel3_pat (by with_reducible assumption) (by with_reducible assumption) (by with_reducible assumption) _); intro qt' qk')
  k_with "call ref" => (k_here; (with_reducible show wpAny _ _ (call (Value.ref 62) _) _ _ _); ((k_dflt refine' tr_stepU ?r_kS ?r_kB ?r_kF ?r_kN ?r_kU ?r_kb ?r_kX ?r_kT ?r_kk ?_); (case r_kB => k_dflt assumption); (case r_kF => with_unfolding_all assumption); (case r_kN => with_unfolding_all assumption); (case r_kU => (intro qt'; k_upd)); (case r_kS => exact sel3_pat (by with_reducible assumption) (by with_reducible assumption) (by with_reducible assumption) _); (case r_kb => k_dflt assumption); (case r_kX => k_dflt assumption); (case r_kT => k_dflt assumption); (case r_kk => rfl)); k_whole; intro ql' qvs' qn' qtb' qh' qtk' qhpv' qhvl' qhtb' qF' qN' qhap'; simp only [AllAp, and_true] at qhap'; (repeat (obtain ⟨_, qhap'⟩ := qhap')))
  k_with "call ref" => (k_here; (with_reducible show wpAny _ _ (call (Value.ref 67) _) _ _ _); ((k_dflt refine' takes_step ?r_ky ?r_kp ?r_kB ?r_kF ?r_kX ?r_kT ?r_kk ?r_kl ?_); (case r_kB => k_dflt assumption); (case r_kF => with_unfolding_all assumption); (case r_kl => k_dflt exact News.isList (by k_asm) (by k_mem)); (case r_ky => first | exact len_pat (by with_reducible assumption) | exact len_dot (by with_reducible assumption)); (case r_kp => assumption); (case r_kX => k_dflt assumption); (case r_kT => k_dflt assumption); (case r_kk => rfl)); k_whole; intro qh' qtk' qhk')
  k_with "call ref" => (k_here; (with_reducible show wpAny _ _ (call (Value.ref 38) _) _ _ _); ((k_dflt refine' ell_step ?r_kx ?r_ky ?r_ks ?r_kB ?r_kF ?r_kX ?r_kT ?r_kk ?_); (case r_kB => k_dflt assumption); (case r_kF => with_unfolding_all assumption); (case r_kx => exact len_dot (sel3_pat (by with_reducible assumption) (by with_reducible assumption) (by with_reducible assumption) _)); (case r_ky => first | exact len_pat (by with_reducible assumption) | exact len_dot (by with_reducible assumption)); (case r_ks => assumption); (case r_kX => k_dflt assumption); (case r_kT => k_dflt assumption); (case r_kk => rfl)); k_whole; intro qh' qtk' qhk')
  k_with "binaryOp Add" => (k_here; (with_reducible show wpAny _ _ (binaryOp _ (Value.ref _) (Value.ref _)) _ _ _); (refine' add_two ?r_k1 ?r_k2 ?r_k3 ?r_k4 ?r_k5 ?_; (case r_k1 => k_asm); (case r_k2 => k_asm); (case r_k3 => k_dflt exact News.isList (by k_asm) (by k_mem)); (case r_k4 => k_dflt exact News.isList (by k_asm) (by k_mem)); (case r_k5 => (simp only [List.length_cons, List.length_nil]; omega))); k_whole; intro qD' qh' qF' qN' ql1; (try k_lt ql1))
  k_with "subscriptTail" => (k_here; (with_reducible show wpAny _ _ (subscriptTail (Expr.Name (Str.ofString "dots") _) _ (Value.ref _) (Value.int _ _)) _ _ _); (refine' item_dots ?r_k1 ?r_k2 ?r_k6 ?r_k7 ?_; (case r_k1 => k_dflt exact News.isList (by k_asm) (by k_mem)); (case r_k2 => assumption); (case r_k6 => (with_unfolding_all rfl)); (case r_k7 => (intro _; with_unfolding_all rfl))); k_whole; intro qt')
  k_with "subscriptTail Name Name ref int" => (k_here; (with_reducible show wpAny _ _ (subscriptTail (Expr.Name (Str.ofString "dots") _) _ (Value.ref _) (Value.int _ _)) _ _ _); (refine' item_dots ?r_k1 ?r_k2 ?r_k6 ?r_k7 ?_; (case r_k1 => k_dflt exact News.isList (by k_asm) (by k_mem)); (case r_k2 => assumption); (case r_k6 => (with_unfolding_all rfl)); (case r_k7 => (intro _; with_unfolding_all rfl))); k_whole; intro qt')
  k_with "compareOp NotEq ref ref" => (k_here; (with_reducible show wpAny _ _ (compareOp CmpOp.NotEq (Value.ref _) (Value.ref _)) _ _ _); (k_dflt refine' ne_same ?r_k1 ?r_k2 ?r_k3 ?_); (case r_k1 => k_dflt exact News.isList (by k_asm) (by k_mem)); (case r_k2 => k_dflt exact News.isList (by k_asm) (by k_mem)); (case r_k3 => exact Nat.lt_of_le_of_lt (Nat.le_add_right _ 50) lawA_un); k_whole)
  k_with "call builtin:list.append" => (k_here; (with_reducible show wpAny _ _ (call (Value.builtin "list.append") [Value.ref _, Value.ref _]) _ _ _); ((k_dflt refine' append_K ?r_k1 ?r_k2 ?r_k3 ?_ ?r_k4); (case r_k1 => k_asm); (case r_k2 => k_asm); (case r_k3 => k_upd); (case r_k4 => (simp only [List.size_toArray]; rw [sizeLine_eq]; omega))); k_whole; intro qh' qF' qN')
  k_with "subscriptTail" => (k_here; (with_reducible show wpAny _ _ (subscriptTail (Expr.Name (Str.ofString "told") _) _ (Value.ref _) (Value.int _ _)) _ _ _); (refine' item_told ?r_k1 ?r_k2 ?r_k6 ?r_k7 ?_; (case r_k1 => k_dflt exact News.isList (by k_asm) (by k_mem)); (case r_k2 => assumption); (case r_k6 => (with_unfolding_all rfl)); (case r_k7 => (intro _; with_unfolding_all rfl))); k_whole)
  k_with "subscriptTail Name Name ref int" => (k_here; (with_reducible show wpAny _ _ (subscriptTail (Expr.Name (Str.ofString "told") _) _ (Value.ref _) (Value.int _ _)) _ _ _); (refine' item_told ?r_k1 ?r_k2 ?r_k6 ?r_k7 ?_; (case r_k1 => k_dflt exact News.isList (by k_asm) (by k_mem)); (case r_k2 => assumption); (case r_k6 => (with_unfolding_all rfl)); (case r_k7 => (intro _; with_unfolding_all rfl))); k_whole)
  k_with "exec For Name Call cons nil" => ((with_reducible show wpAny _ _ (exec (Stmt.For (Expr.Name (Str.ofString "j") _) _ _ _ _) _) _ _ _); (refine stop_of ?_); trace "FORJ")
  k_with "subscriptTail" => (k_here; (with_reducible show wpAny _ _ (subscriptTail (Expr.Subscript _ _ _) _ (Value.ref (selA _ _ _ _)) (Value.int _ _)) _ _ _); (first | (refine' due_self ?r_k1 ?r_k2 ?r_k3 ?r_k4 ?r_k6 ?_; (case r_k4 => assumption); (case r_k1 => k_dflt exact News.isList (by k_asm) (by k_mem)); (case r_k2 => k_dflt exact News.isList (by k_asm) (by k_mem)); (case r_k3 => k_dflt exact News.isList (by k_asm) (by k_mem)); (case r_k6 => (with_unfolding_all rfl))) | (refine' due3 ?r_k1 ?r_k2 ?r_k3 ?r_k4 ?r_k5 ?r_k6 ?_; (case r_k4 => assumption); (case r_k5 => assumption); (case r_k1 => k_dflt exact News.isList (by k_asm) (by k_mem)); (case r_k2 => k_dflt exact News.isList (by k_asm) (by k_mem)); (case r_k3 => k_dflt exact News.isList (by k_asm) (by k_mem)); (case r_k6 => (with_unfolding_all rfl))) | (refine' due5 ?r_k1 ?r_k2 ?r_k3 ?r_k4 ?r_k5 ?r_k8 ?r_k6 ?_; (case r_k4 => assumption); (case r_k5 => assumption); (case r_k1 => k_dflt exact News.isList (by k_asm) (by k_mem)); (case r_k2 => k_dflt exact News.isList (by k_asm) (by k_mem)); (case r_k3 => k_dflt exact News.isList (by k_asm) (by k_mem)); (case r_k8 => rfl); (case r_k6 => (with_unfolding_all rfl)))); k_whole)
  k_with "subscriptTail Subscript Name ref int" => (k_here; (with_reducible show wpAny _ _ (subscriptTail (Expr.Subscript _ _ _) _ (Value.ref (selA _ _ _ _)) (Value.int _ _)) _ _ _); (first | (refine' due_self ?r_k1 ?r_k2 ?r_k3 ?r_k4 ?r_k6 ?_; (case r_k4 => assumption); (case r_k1 => k_dflt exact News.isList (by k_asm) (by k_mem)); (case r_k2 => k_dflt exact News.isList (by k_asm) (by k_mem)); (case r_k3 => k_dflt exact News.isList (by k_asm) (by k_mem)); (case r_k6 => (with_unfolding_all rfl))) | (refine' due3 ?r_k1 ?r_k2 ?r_k3 ?r_k4 ?r_k5 ?r_k6 ?_; (case r_k4 => assumption); (case r_k5 => assumption); (case r_k1 => k_dflt exact News.isList (by k_asm) (by k_mem)); (case r_k2 => k_dflt exact News.isList (by k_asm) (by k_mem)); (case r_k3 => k_dflt exact News.isList (by k_asm) (by k_mem)); (case r_k6 => (with_unfolding_all rfl))) | (refine' due5 ?r_k1 ?r_k2 ?r_k3 ?r_k4 ?r_k5 ?r_k8 ?r_k6 ?_; (case r_k4 => assumption); (case r_k5 => assumption); (case r_k1 => k_dflt exact News.isList (by k_asm) (by k_mem)); (case r_k2 => k_dflt exact News.isList (by k_asm) (by k_mem)); (case r_k3 => k_dflt exact News.isList (by k_asm) (by k_mem)); (case r_k8 => rfl); (case r_k6 => (with_unfolding_all rfl)))); k_whole)
  k_with "subscriptTail Subscript Name Name Name ref int" => (k_here; (with_reducible show wpAny _ _ (subscriptTail (Expr.Subscript _ _ _) _ (Value.ref (selA _ _ _ _)) (Value.int _ _)) _ _ _); (first | (refine' due_self ?r_k1 ?r_k2 ?r_k3 ?r_k4 ?r_k6 ?_; (case r_k4 => assumption); (case r_k1 => k_dflt exact News.isList (by k_asm) (by k_mem)); (case r_k2 => k_dflt exact News.isList (by k_asm) (by k_mem)); (case r_k3 => k_dflt exact News.isList (by k_asm) (by k_mem)); (case r_k6 => (with_unfolding_all rfl))) | (refine' due3 ?r_k1 ?r_k2 ?r_k3 ?r_k4 ?r_k5 ?r_k6 ?_; (case r_k4 => assumption); (case r_k5 => assumption); (case r_k1 => k_dflt exact News.isList (by k_asm) (by k_mem)); (case r_k2 => k_dflt exact News.isList (by k_asm) (by k_mem)); (case r_k3 => k_dflt exact News.isList (by k_asm) (by k_mem)); (case r_k6 => (with_unfolding_all rfl))) | (refine' due5 ?r_k1 ?r_k2 ?r_k3 ?r_k4 ?r_k5 ?r_k8 ?r_k6 ?_; (case r_k4 => assumption); (case r_k5 => assumption); (case r_k1 => k_dflt exact News.isList (by k_asm) (by k_mem)); (case r_k2 => k_dflt exact News.isList (by k_asm) (by k_mem)); (case r_k3 => k_dflt exact News.isList (by k_asm) (by k_mem)); (case r_k8 => rfl); (case r_k6 => (with_unfolding_all rfl)))); k_whole)
  k_with "call ref" => (k_here; (with_reducible show wpAny _ _ (call (Value.ref 74) _) _ _ _); ((k_dflt refine' gap_stepN ?r_kS ?r_kB ?r_kF ?r_kN ?r_kX ?r_kT ?r_kk ?_); (case r_kB => k_dflt assumption); (case r_kF => with_unfolding_all assumption); (case r_kN => with_unfolding_all assumption); (case r_kS => exact sel3_pat (by with_reducible assumption) (by with_reducible assumption) (by with_reducible assumption) _); (case r_kX => k_dflt assumption); (case r_kT => k_dflt assumption); (case r_kk => rfl)); k_whole; intro qh' qtk' qt' qF' qN')
  k_with "compareOp NotEq" => (k_here; (with_reducible show wpAny _ _ (compareOp CmpOp.NotEq (Value.bool _) (Value.bool _)) _ _ _); (refine' ne_bool_same ?r_k1 ?_; (case r_k1 => first | exact neA (by with_reducible assumption) | exact neB (by with_reducible assumption) | exact neC (by with_reducible assumption) | (refine neB ?_; simp_all; done) | (trace "NEFAIL"; trace_state; fail)); k_whole))
  k_with "compareOp NotEq bool bool" => (k_here; (with_reducible show wpAny _ _ (compareOp CmpOp.NotEq (Value.bool _) (Value.bool _)) _ _ _); (refine' ne_bool_same ?r_k1 ?_; (case r_k1 => first | exact neA (by with_reducible assumption) | exact neB (by with_reducible assumption) | exact neC (by with_reducible assumption) | (refine neB ?_; simp_all; done) | (trace "NEFAIL"; trace_state; fail)); k_whole))
  k_with "subscriptTail" => (k_here; (with_reducible show wpAny _ _ (subscriptTail (Expr.Subscript _ _ _) (Expr.Name (Str.ofString "k") _) (Value.ref (selA _ _ _ _)) (Value.int _ _)) _ _ _); (refine' due5 ?r_k1 ?r_k2 ?r_k3 ?r_k4 ?r_k5 ?r_k8 ?r_k6 ?_; (case r_k4 => assumption); (case r_k5 => assumption); (case r_k1 => k_dflt exact News.isList (by k_asm) (by k_mem)); (case r_k2 => k_dflt exact News.isList (by k_asm) (by k_mem)); (case r_k3 => k_dflt exact News.isList (by k_asm) (by k_mem)); (case r_k8 => rfl); (case r_k6 => (with_unfolding_all rfl))); k_whole)
  k_with "subscriptTail Subscript Name ref int" => (k_here; (with_reducible show wpAny _ _ (subscriptTail (Expr.Subscript _ _ _) (Expr.Name (Str.ofString "k") _) (Value.ref (selA _ _ _ _)) (Value.int _ _)) _ _ _); (refine' due5 ?r_k1 ?r_k2 ?r_k3 ?r_k4 ?r_k5 ?r_k8 ?r_k6 ?_; (case r_k4 => assumption); (case r_k5 => assumption); (case r_k1 => k_dflt exact News.isList (by k_asm) (by k_mem)); (case r_k2 => k_dflt exact News.isList (by k_asm) (by k_mem)); (case r_k3 => k_dflt exact News.isList (by k_asm) (by k_mem)); (case r_k8 => rfl); (case r_k6 => (with_unfolding_all rfl))); k_whole)
  k_with "subscriptTail Subscript Name Name Name ref int" => (k_here; (with_reducible show wpAny _ _ (subscriptTail (Expr.Subscript _ _ _) (Expr.Name (Str.ofString "k") _) (Value.ref (selA _ _ _ _)) (Value.int _ _)) _ _ _); (refine' due5 ?r_k1 ?r_k2 ?r_k3 ?r_k4 ?r_k5 ?r_k8 ?r_k6 ?_; (case r_k4 => assumption); (case r_k5 => assumption); (case r_k1 => k_dflt exact News.isList (by k_asm) (by k_mem)); (case r_k2 => k_dflt exact News.isList (by k_asm) (by k_mem)); (case r_k3 => k_dflt exact News.isList (by k_asm) (by k_mem)); (case r_k8 => rfl); (case r_k6 => (with_unfolding_all rfl))); k_whole)
  w_strict (k_go0; k_steps)
  all_goals try unfold Stop
  refine' comp_cellA (fun _ y => WordV y) (by k_asm) (by k_asm) ?kL ?kS ?kY ?kP ?k0 ?k1 ?k2 ?k3 ?k4 ?k5 ?k6 ?k7 ?_
  case kL => rfl
  case kS => with_unfolding_all rfl
  case kY => with_unfolding_all rfl
  case kP => with_unfolding_all rfl
  case k0 => rfl
  case k1 => with_unfolding_all rfl
  case k2 => intro _; with_unfolding_all rfl
  case k3 => intro _; with_unfolding_all rfl
  case k4 => with_unfolding_all rfl
  case k5 => with_unfolding_all rfl
  case k6 => decide
  case k7 => intro _; with_unfolding_all rfl
  k_steps
  unfold Stop
  rename Fr _ _ _ _ => lF
  rename News _ _ _ _ => lN
  with_unfolding_all refine' ⟨_, _, rfl, News.isList lN (.head _), ?kz, lF, fun p hp => lN p (.tail _ hp), ?kE, ?_⟩
  case kz => (show (3 : Nat) ≤ 1000); omega
  case kE =>
    intro C c i v s₂ E' oc hv hd F' N' hk
    obtain ⟨x, t, rfl⟩ := int_get ints3 hv
    k_steps
    unfold Stop
    refine' comp_myR (fun _ => true) (fun _ y => BitV y) (by k_asm) (by k_asm) ?k1 ?k2 ?k3 ?k4 ?k5 ?k6 ?k7 ?_
    case k1 => rfl
    case k2 => with_unfolding_all rfl
    case k3 => decide
    case k4 => with_unfolding_all rfl
    case k5 => decide
    case k6 => with_unfolding_all rfl
    case k7 => intro _; with_unfolding_all rfl
    k_steps
    unfold Stop
    rename Fr _ _ _ _ => lF'
    rename News _ _ _ _ => lN'
    rename (∀ _ _, _ → _) => lk'
    with_unfolding_all refine' ⟨_, 5, _, _, _, rfl, by assumption, ?kz, lF', lN', ?kT, ?kE, ?_⟩
    case kz => omega
    case kT =>
      intro C' i' t' s₃ m₃ E3 hi hn hm hk3 htk
      k_steps
      all_goals (try exact ⟨_, _, rfl, fun _ _ e => e⟩)
    case kE =>
      intro C' i' t' s₃ m₃ E3 hi _ hn hm hk3 htk
      have F3 := Fr.keeps lF' hk3
      have N3 := News.grown lN' hk3
      dsimp only at F3 N3
      k_steps
      all_goals first
        | exact bit_a _
        | exact bit_b _
        | exact bit_br _
        | exact bit_no _
        | exact bit_st _
        | exact ⟨_, _, rfl, by with_unfolding_all assumption⟩
    intro D ys n' h' tk F5 N5 hne hP hk5
    obtain ⟨hlen, hbits⟩ := paired_all hP
    have hlen5 : ys.length ≤ 5 := by rw [hlen]; decide
    k_steps
    · assumption
    · exact ⟨_, _, rfl, fun b o e => hk5 b o (lk' b o e)⟩
  intro D ys n' h' tk F5 N5 hne hP hk5 htk5
  clear lF lN
  obtain ⟨x0, x1, x2, rfl, ⟨S0, t0, hS0, rfl⟩, ⟨S1, t1, hS1, rfl⟩, ⟨S2, t2, hS2, rfl⟩⟩ := paired3 hP
  have htk6 : 1 ≤ tk := Nat.le_trans (Nat.succ_le_succ (Nat.zero_le _)) htk5
  clear htk5
  have hne := allAp hne
  simp only [AllAp, and_true] at hne
  repeat (obtain ⟨_, hne⟩ := hne)
  k_steps
  unfold Stop
  refine with_toks ?_
  refine' comp_my (fun _ => true) DotV (by k_asm) (by k_asm) ?k1 ?k2 ?k3 ?k4 ?k5 ?k6 ?k7 ?_
  case k1 => rfl
  case k2 => with_unfolding_all rfl
  case k3 => decide
  case k4 => with_unfolding_all rfl
  case k5 => decide
  case k6 => with_unfolding_all rfl
  case k7 => intro _; with_unfolding_all rfl
  k_steps
  unfold Stop
  rename Fr _ _ _ _ => lF
  rename News _ _ _ _ => lN
  with_unfolding_all refine' ⟨_, _, rfl, News.isList lN (.head _), ?kz, lF, lN, ?kT, ?kE, ?_⟩
  case kz => (show (3 : Nat) ≤ 1000); omega
  case kT =>
    intro C' i' v' s₃ m₃ E3 hi hn hm hk3 htk
    k_steps
    all_goals (try exact ⟨_, _, rfl, fun _ _ e => e⟩)
  case kE =>
    intro C' i' v' s₃ m₃ E3 hi _ hn hm hk3 htk
    obtain ⟨S, tS, hS, rfl⟩ := mem_get (pats3 hS0 hS1 hS2) hi
    have htk7 : 1 ≤ s₃.toks := Nat.le_trans htk6 htk
    k_steps
    · exact dot_v hS
    · exact ⟨_, _, rfl, fun _ _ e => e⟩
  intro D3 ys3 n3 h3 tk3 F6 N6 hne6 hP6 hk6 htk6'
  obtain ⟨u0, u1, u2, rfl⟩ := dots3 hP6
  have htk8 : 1 ≤ tk3 := Nat.le_trans htk6 htk6'
  clear htk6' htk6 hP hP6 hk5 hk6
  have hne6 := allAp hne6
  simp only [AllAp, and_true] at hne6
  repeat (obtain ⟨_, hne6⟩ := hne6)
  k_steps
  unfold Stop
  refine' comp_cellA (fun _ y => WordV y) (by k_asm) (by k_asm) ?kL ?kS ?kY ?kP ?k0 ?k1 ?k2 ?k3 ?k4 ?k5 ?k6 ?k7 ?_
  case kL => rfl
  case kS => with_unfolding_all rfl
  case kY => with_unfolding_all rfl
  case kP => with_unfolding_all rfl
  case k0 => rfl
  case k1 => with_unfolding_all rfl
  case k2 => intro _; with_unfolding_all rfl
  case k3 => intro _; with_unfolding_all rfl
  case k4 => with_unfolding_all rfl
  case k5 => with_unfolding_all rfl
  case k6 => decide
  case k7 => intro _; with_unfolding_all rfl
  k_steps
  unfold Stop
  rename Fr _ _ _ _ => lF
  rename News _ _ _ _ => lN
  with_unfolding_all refine' ⟨_, _, rfl, News.isList lN (.head _), ?kz, lF, fun p hp => lN p (.tail _ hp), ?kE, ?_⟩
  case kz => (show (2 : Nat) ≤ 1000); omega
  case kE =>
    intro C c i v s₂ E' oc hv hd F' N' hk
    obtain ⟨x, t, rfl⟩ := int_get ints2 hv
    k_steps
    unfold Stop
    refine' comp_myR (fun _ => true) (fun _ y => BitV y) (by k_asm) (by k_asm) ?k1 ?k2 ?k3 ?k4 ?k5 ?k6 ?k7 ?_
    case k1 => rfl
    case k2 => with_unfolding_all rfl
    case k3 => decide
    case k4 => with_unfolding_all rfl
    case k5 => decide
    case k6 => with_unfolding_all rfl
    case k7 => intro _; with_unfolding_all rfl
    k_steps
    unfold Stop
    rename Fr _ _ _ _ => lF'
    rename News _ _ _ _ => lN'
    rename (∀ _ _, _ → _) => lk'
    with_unfolding_all refine' ⟨_, 5, _, _, _, rfl, by assumption, ?kz, lF', lN', ?kT, ?kE, ?_⟩
    case kz => omega
    case kT =>
      intro C' i' t' s₃ m₃ E3 hi hn hm hk3 htk
      k_steps
      all_goals (try exact ⟨_, _, rfl, fun _ _ e => e⟩)
    case kE =>
      intro C' i' t' s₃ m₃ E3 hi _ hn hm hk3 htk
      have F3 := Fr.keeps lF' hk3
      have N3 := News.grown lN' hk3
      dsimp only at F3 N3
      k_steps
      all_goals first
        | exact bit_a _
        | exact bit_b _
        | exact bit_br _
        | exact bit_no _
        | exact bit_st _
        | exact ⟨_, _, rfl, by with_unfolding_all assumption⟩
    intro D ys n' h' tk F5 N5 hne hP hk5
    obtain ⟨hlen, hbits⟩ := paired_all hP
    have hlen5 : ys.length ≤ 5 := by rw [hlen]; decide
    k_steps
    · assumption
    · exact ⟨_, _, rfl, fun b o e => hk5 b o (lk' b o e)⟩
  intro D4 ys n4 h4 tk4 F5 N5 hne4 hP hk5 htk5
  clear lF lN
  obtain ⟨x3, x4, rfl, ⟨S3, t3, hS3, rfl⟩, ⟨S4, t4, hS4, rfl⟩⟩ := paired2 hP
  have htk6 : 1 ≤ tk4 := Nat.le_trans (Nat.succ_le_succ (Nat.zero_le _)) htk5
  clear htk5
  have hne4 := allAp hne4
  simp only [AllAp, and_true] at hne4
  repeat (obtain ⟨_, hne4⟩ := hne4)
  clear hP hk5
  k_steps
  unfold Stop
  rename Fr _ _ _ _ => lF
  with_unfolding_all refine' For_cell (c := _) lF ?k1 ?k2 ?k3 ?k4 ?k5 ?k6 ?_
  case k1 => rfl
  case k2 => rfl
  case k3 => rfl
  case k4 => rfl
  case k5 => intro _; rfl
  case k6 => passes_own
  k_steps
  unfold Stop
  rename Fr _ _ _ _ => lF2
  rename News _ _ _ _ => lN2
  rename IsRange _ _ _ _ _ _ _ _ => lR
  rename (_ ≤ _) => lTk
  with_unfolding_all refine' loop1_ex (S0 := S0) (S1 := S1) (S2 := S2) (TT := [S0, S1, S2, S3, S4]) (D := D) (D3 := D3) (D4 := D4) lR lF2 lN2 ?htb ?h1 ?li ?lp ?lj ?lt ?ld ?m1 ?m2 ?m3 ?m4 ?m5 ?m6 ?m7 ?m8 ?m9 ?m10 ?e1 ?e2 ?e3 ?hch ?o1 ?o2 ?o3 ?turn ?done
  case li => rfl
  case lp => rfl
  case lj => rfl
  case lt => rfl
  case ld => rfl
  case m7 => k_mem
  case m1 => k_mem
  case m2 => k_mem
  case m3 => k_mem
  case m4 => k_mem
  case m5 => k_mem
  case m6 => k_mem
  case m8 => k_mem
  case m9 => k_mem
  case m10 => k_mem
  case htb => exact .inl rfl
  case h1 => exact Nat.le_trans (Nat.succ_le_succ (Nat.zero_le _)) lTk
  case e1 => with_unfolding_all assumption
  case e2 => with_unfolding_all assumption
  case e3 => with_unfolding_all assumption
  case hch => (try dsimp only [Lts]); omega
  case o1 => exact ⟨by first | exact Apart.en (by with_reducible assumption) | with_reducible assumption | (show @Ne Nat _ _; omega), by first | exact Apart.en (by with_reducible assumption) | with_reducible assumption | (show @Ne Nat _ _; omega), by first | exact Apart.en (by with_reducible assumption) | with_reducible assumption | (show @Ne Nat _ _; omega), by first | exact Apart.en (by with_reducible assumption) | with_reducible assumption | (show @Ne Nat _ _; omega), by first | exact Apart.en (by with_reducible assumption) | with_reducible assumption | (show @Ne Nat _ _; omega)⟩
  case o2 => exact ⟨by first | exact Apart.en (by with_reducible assumption) | with_reducible assumption | (show @Ne Nat _ _; omega), by first | exact Apart.en (by with_reducible assumption) | with_reducible assumption | (show @Ne Nat _ _; omega), by first | exact Apart.en (by with_reducible assumption) | with_reducible assumption | (show @Ne Nat _ _; omega), by first | exact Apart.en (by with_reducible assumption) | with_reducible assumption | (show @Ne Nat _ _; omega), by first | exact Apart.en (by with_reducible assumption) | with_reducible assumption | (show @Ne Nat _ _; omega)⟩
  case o3 => exact ⟨by first | exact Apart.en (by with_reducible assumption) | with_reducible assumption | (show @Ne Nat _ _; omega), by first | exact Apart.en (by with_reducible assumption) | with_reducible assumption | (show @Ne Nat _ _; omega), by first | exact Apart.en (by with_reducible assumption) | with_reducible assumption | (show @Ne Nat _ _; omega), by first | exact Apart.en (by with_reducible assumption) | with_reducible assumption | (show @Ne Nat _ _; omega), by first | exact Apart.en (by with_reducible assumption) | with_reducible assumption | (show @Ne Nat _ _; omega)⟩
  case turn =>
    intro i tv nT tb op oj oc it dp dj a0 a1 a2 o0 o1 o2 I t uu h tk hi3 hlen htb ep ej eoc of0 of1 of2 apI hch2 htkk fin F7 N7
    obtain ⟨oa0i, oa0p, oa0j, oa0t, oa0h⟩ := of0
    obtain ⟨oa1i, oa1p, oa1j, oa1t, oa1h⟩ := of1
    obtain ⟨oa2i, oa2p, oa2j, oa2t, oa2h⟩ := of2
    obtain ⟨apIp, apIt, apIh⟩ := apI
    clear lF lF2 lN2
    obtain ⟨ea, emid, ez, hsp, hell⟩ := ell_law (sel3_pat hS0 hS1 hS2 i)
    trace "TURN"
    k_steps
    unfold Stop
    refine with_toks ?_
    refine' comp_myA (fun _ => true) (AnsV (M (sel3 S0 S1 S2 i))) (by k_asm) (by k_asm) ?k1 ?k2 ?k3 ?k4 ?k5 ?k6 ?k7 ?k8 ?k9 ?k10 ?k11 ?_
    case k1 => rfl
    case k2 => with_unfolding_all rfl
    case k3 => with_unfolding_all rfl
    case k4 => with_unfolding_all rfl
    case k5 => rfl
    case k6 => with_unfolding_all rfl
    case k7 => decide
    case k8 => with_unfolding_all rfl
    case k9 => decide
    case k10 => with_unfolding_all rfl
    case k11 => intro _; with_unfolding_all rfl
    k_steps
    unfold Stop
    rename Fr _ _ _ _ => lF
    rename News _ _ _ _ => lN
    with_unfolding_all refine' ⟨_, _, rfl, News.isList lN (.head _), ?kz, lF, fun p hp => lN p (.tail _ hp), ?kT, ?kE, ?_⟩
    case kz => (show (5 : Nat) ≤ 1000); omega
    case kT =>
      intro C' i' v' s₃ m₃ E3 hi hn hm hk3 htk
      k_steps
      all_goals (try exact ⟨_, _, rfl, fun _ _ e => e⟩)
    case kE =>
      intro C' i' v' s₃ m₃ E3 hi _ hn hm hk3 htk
      obtain ⟨T5, tT, hT5, rfl⟩ := SV.get sv5 hi
      have hp5 := pats5 hS0 hS1 hS2 hS3 hS4 hT5
      have F8 := Fr.keeps lF hk3
      have N8 := News.grown lN hk3
      dsimp only at F8 N8
      k_steps
      · exact ans_v (takes_ans (sel3_pat hS0 hS1 hS2 i))
      · exact ⟨_, _, rfl, by assumption⟩
    intro Dn ys nn h9 tk9 F9 N9 hneD hP9 hk9 htk9
    have hys := answers sv5 (filter_true ▸ hP9)
    subst hys
    have hneD := allAp hneD
    simp only [AllAp, and_true] at hneD
    repeat (obtain ⟨_, hneD⟩ := hneD)
    clear hP9 hk9 lF lN
    k_steps
    unfold Stop
    refine' comp_my (fun _ => true) (AnsV (M (sel3 S0 S1 S2 i))) (by k_asm) (by k_asm) ?k1 ?k2 ?k3 ?k4 ?k5 ?k6 ?k7 ?_
    case k1 => rfl
    case k2 => with_unfolding_all rfl
    case k3 => decide
    case k4 => with_unfolding_all rfl
    case k5 => decide
    case k6 => with_unfolding_all rfl
    case k7 => intro _; with_unfolding_all rfl
    k_steps
    unfold Stop
    rename Fr _ _ _ _ => lF
    rename News _ _ _ _ => lN
    with_unfolding_all refine' ⟨_, _, rfl, News.isList lN (.head _), ?kz, lF, fun p hp => lN p (.tail _ hp), ?kT, ?kE, ?_⟩
    case kz => (show (5 : Nat) ≤ 1000); omega
    case kT =>
      intro C' i' v' s₃ m₃ E3 hi hn hm hk3 htk
      k_steps
      all_goals (try exact ⟨_, _, rfl, fun _ _ e => e⟩)
    case kE =>
      intro C' i' v' s₃ m₃ E3 hi _ hn hm hk3 htk
      obtain ⟨T5, tT, hT5, rfl⟩ := SV.get sv5 hi
      have hp5 := pats5 hS0 hS1 hS2 hS3 hS4 hT5
      have F8 := Fr.keeps lF hk3
      have N8 := News.grown lN hk3
      dsimp only at F8 N8
      k_steps
      · exact ans_v (hell _)
      · exact ⟨_, _, rfl, by assumption⟩
    intro D10 ys n10 h10 tk10 F10 N10 hneE hP10 hk10
    have hys := answers sv5 (filter_true ▸ hP10)
    subst hys
    have hneE := allAp hneE
    simp only [AllAp, and_true] at hneE
    repeat (obtain ⟨_, hneE⟩ := hneE)
    clear hP10 hk10 lF lN
    k_steps
    unfold Stop
    refine' comp_my (fun _ => true) (AnsV (M (sel3 S0 S1 S2 i))) (by k_asm) (by k_asm) ?k1 ?k2 ?k3 ?k4 ?k5 ?k6 ?k7 ?_
    case k1 => rfl
    case k2 => with_unfolding_all rfl
    case k3 => decide
    case k4 => with_unfolding_all rfl
    case k5 => decide
    case k6 => with_unfolding_all rfl
    case k7 => intro _; with_unfolding_all rfl
    k_steps
    unfold Stop
    rename Fr _ _ _ _ => lF
    rename News _ _ _ _ => lN
    with_unfolding_all refine' ⟨_, _, rfl, News.isList lN (by k_mem), ?kz, lF, lN, ?kT, ?kE, ?_⟩
    case kz => (show (3 : Nat) ≤ 1000); omega
    case kT =>
      intro C' i' v' s₃ m₃ E3 hi hn hm hk3 htk
      k_steps
      all_goals (try exact ⟨_, _, rfl, fun _ _ e => e⟩)
    case kE =>
      intro C' i' v' s₃ m₃ E3 hi _ hn hm hk3 htk
      obtain ⟨T5, tT, hT5, rfl⟩ := SV.get sv3 hi
      obtain ⟨U5, hU5, rfl⟩ := dots_of hS0 hS1 hS2 hT5
      have F8 := Fr.keeps lF hk3
      have N8 := News.grown lN hk3
      dsimp only at F8 N8
      k_steps
      · exact ans_v (hell _)
      · exact ⟨_, _, rfl, by assumption⟩
    intro D11 ys n11 h11 tk11 F10 N10 hneE hP10 hk10
    have hys := answers sv3 (filter_true ▸ hP10)
    rw [dots_due (sel3_pat hS0 hS1 hS2 i)] at hys
    subst hys
    have hneE := allAp hneE
    simp only [AllAp, and_true] at hneE
    repeat (obtain ⟨_, hneE⟩ := hneE)
    clear hP10 hk10 lF lN
    k_steps
    rename Fr _ _ _ _ => lF
    rename News _ _ _ _ => lN
    refine' fin _ _ _ Dn ?nn ?nT ?tb ?op ?dp lF ?kmem ?kdata ?ktb ?koff ?kap ?kz
    case kmem =>
      intro p hp
      exact lN p ((List.forall_mem_cons.mpr ⟨by k_mem, List.forall_mem_cons.mpr ⟨by k_mem, List.forall_mem_cons.mpr ⟨by k_mem, List.forall_mem_cons.mpr ⟨by k_mem, List.forall_mem_cons.mpr ⟨by (rw [← List.push_toArray]; k_mem), List.forall_mem_cons.mpr ⟨by k_mem, List.forall_mem_cons.mpr ⟨by k_mem, List.forall_mem_cons.mpr ⟨by k_mem, List.forall_mem_cons.mpr ⟨by k_mem, List.forall_mem_cons.mpr ⟨by k_mem, List.forall_mem_cons.mpr ⟨by k_mem, List.forall_mem_cons.mpr ⟨by k_mem, List.forall_mem_cons.mpr ⟨by k_mem, List.forall_mem_cons.mpr ⟨by k_mem, List.forall_mem_cons.mpr ⟨by k_dflt k_mem, fun _ h => nomatch h⟩⟩⟩⟩⟩⟩⟩⟩⟩⟩⟩⟩⟩⟩⟩) p hp)
    case kdata => first | rfl | assumption
    case ktb => assumption
    case koff => exact ⟨by first | exact Apart.en (by with_reducible assumption) | with_reducible assumption | (show @Ne Nat _ _; omega), by first | exact Apart.en (by with_reducible assumption) | with_reducible assumption | (show @Ne Nat _ _; omega), by first | exact Apart.en (by with_reducible assumption) | with_reducible assumption | (show @Ne Nat _ _; omega), by first | exact Apart.en (by with_reducible assumption) | with_reducible assumption | (show @Ne Nat _ _; omega), by first | exact Apart.en (by with_reducible assumption) | with_reducible assumption | (show @Ne Nat _ _; omega)⟩
    case kap => exact Apart.en (by with_reducible assumption)
    case kz => intro z hz; simp [hz]
  all_goals repeat (rename (_ < _ ∧ _) => zz; clear zz)
  intro uu nT n0 n1 n2 tb op oj oi dp dj di a0 a1 a2 h tk htb ep ej ei of0 of1 of2 hch2 htk F11 N11
  obtain ⟨xTi, x57i, xti, xdi, xpi, xji, xTj, x57j, xtj, xdj, xpj⟩ := hch2
  obtain ⟨oa0i, oa0p, oa0j, oa0t, oa0h⟩ := of0
  obtain ⟨oa1i, oa1p, oa1j, oa1t, oa1h⟩ := of1
  obtain ⟨oa2i, oa2p, oa2j, oa2t, oa2h⟩ := of2
  clear lF lF2 lN2
  k_steps
  unfold Stop
  rename Fr _ _ _ _ => lF
  with_unfolding_all refine' For_cell (c := _) lF ?k1 ?k2 ?k3 ?k4 ?k5 ?k6 ?_
  case k1 => rfl
  case k2 => rfl
  case k3 => rfl
  case k4 => rfl
  case k5 => intro _; rfl
  case k6 => passes_own
  k_steps
  unfold Stop
  rename Fr _ _ _ _ => lF2
  rename News _ _ _ _ => lN2
  rename IsRange _ _ _ _ _ _ _ _ => lR
  with_unfolding_all refine' loopI_ex lR lF2 lN2 ?e1 ?e2 ?q1 ?q2 ?q3 ?turnI ?doneI
  case e1 => exact ei
  case e2 => exact ej
  case q1 => exact xpi
  case q2 => exact xji
  case q3 => exact List.forall_mem_cons.mpr ⟨xTi, List.forall_mem_cons.mpr ⟨x57i, List.forall_mem_cons.mpr ⟨xti, List.forall_mem_cons.mpr ⟨xdi, List.forall_mem_cons.mpr ⟨(by first | exact Apart.ne (by with_reducible assumption) | exact Apart.en (by with_reducible assumption)), List.forall_mem_cons.mpr ⟨(by first | exact Apart.ne (by with_reducible assumption) | exact Apart.en (by with_reducible assumption)), List.forall_mem_cons.mpr ⟨(by first | exact Apart.ne (by with_reducible assumption) | exact Apart.en (by with_reducible assumption)), List.forall_mem_cons.mpr ⟨oa0i, List.forall_mem_cons.mpr ⟨oa1i, List.forall_mem_cons.mpr ⟨oa2i, fun _ h => nomatch h⟩⟩⟩⟩⟩⟩⟩⟩⟩⟩
  case doneI =>
    intro oi oj h tk F12 N12
    k_steps
  intro i oc it oj dj I t h tk hi3 eoc ej2 hjI finI F12 N12
  k_steps
  unfold Stop
  rename Fr _ _ _ _ => lG
  with_unfolding_all refine' For_cell (c := _) lG ?k1 ?k2 ?k3 ?k4 ?k5 ?k6 ?_
  case k1 => rfl
  case k2 => rfl
  case k3 => rfl
  case k4 => rfl
  case k5 => intro _; rfl
  case k6 => passes_own
  k_steps
  unfold Stop
  rename Fr _ _ _ _ => lG2
  rename News _ _ _ _ => lM2
  rename IsRange _ _ _ _ _ _ _ _ => lR2
  with_unfolding_all refine' loopJ_ex' lR2 lG2 lM2 ?e3 ?q4 ?turnJ ?doneJ
  case e3 => exact ej2
  case q4 => exact List.forall_mem_cons.mpr ⟨hjI.en, List.forall_mem_cons.mpr ⟨xji.en, List.forall_mem_cons.mpr ⟨xpj, List.forall_mem_cons.mpr ⟨xTj, List.forall_mem_cons.mpr ⟨x57j, List.forall_mem_cons.mpr ⟨xtj, List.forall_mem_cons.mpr ⟨xdj, List.forall_mem_cons.mpr ⟨(by first | exact Apart.ne (by with_reducible assumption) | exact Apart.en (by with_reducible assumption)), List.forall_mem_cons.mpr ⟨(by first | exact Apart.ne (by with_reducible assumption) | exact Apart.en (by with_reducible assumption)), List.forall_mem_cons.mpr ⟨(by first | exact Apart.ne (by with_reducible assumption) | exact Apart.en (by with_reducible assumption)), List.forall_mem_cons.mpr ⟨oa0j, List.forall_mem_cons.mpr ⟨oa1j, List.forall_mem_cons.mpr ⟨oa2j, fun _ h => nomatch h⟩⟩⟩⟩⟩⟩⟩⟩⟩⟩⟩⟩⟩
  case doneJ =>
    intro oj3 dj3 h3 tk3 ej3 F14 N14
    k_steps
    exact finI _ _ oj3 dj3 (by k_asm) (news_rot (by k_asm)) ej3
  intro j ocj it2 I2 t2 h2 tk2 hj3 eocj finJ F13 N13
  k_steps
  · unfold Stop
    rename (M _ _ = true) => hMij
    refine' comp_myR (fun k => M (sel3 S0 S1 S2 j) ([S0, S1, S2, S3, S4].getD k []) && !M (sel3 S0 S1 S2 i) ([S0, S1, S2, S3, S4].getD k [])) (fun _ _ => True) (by k_asm) (by k_asm) ?k1 ?k2 ?k3 ?k4 ?k5 ?k6 ?k7 ?_
    case k1 => rfl
    case k2 => with_unfolding_all rfl
    case k3 => decide
    case k4 => with_unfolding_all rfl
    case k5 => decide
    case k6 => with_unfolding_all rfl
    case k7 => intro _; with_unfolding_all rfl
    k_steps
    unfold Stop
    rename Fr _ _ _ _ => lF'
    rename News _ _ _ _ => lN'
    with_unfolding_all refine' ⟨_, 5, _, _, _, rfl, by assumption, ?kz, lF', lN', ?kT, ?kE, ?_⟩
    case kz => omega
    case kT =>
      intro C' i' t' s₃ m₃ E3 hi hn hm hk3 htk
      have F3 := Fr.keeps lF' hk3
      have N3 := News.grown lN' hk3
      dsimp only at F3 N3
      k_steps
      all_goals first
        | exact ⟨_, _, rfl, fun _ _ e => e⟩
        | exact tA (by with_reducible assumption) (by with_reducible assumption)
        | exact tB (by with_reducible assumption) (by with_reducible assumption)
        | exact tD (by with_reducible assumption)
        | exact tC (by with_reducible assumption)
    case kE =>
      intro C' i' t' s₃ m₃ E3 hi _ hn hm hk3 htk
      k_steps
      all_goals first | trivial | exact ⟨_, _, rfl, fun _ _ e => e⟩
    intro D12 ys n' h' tk F5 N5 hne12 hP hk5
    have hys := order_none hMij hP
    subst hys
    clear lF' lN' hP
    k_steps
    rename Fr _ _ _ _ => lE
    rename News _ _ _ _ => lM
    exact finJ _ _ lE (fun p hp => lM p (.tail _ (.tail _ hp)))
  · exact finJ _ _ (by k_asm) (by k_asm)
  ⟩
end Mine
end

set_option maxHeartbeats 4000000 in
theorem PySem.Challenge.cw_ij0083_01_holds : PySem.Challenge.rw_ij0083_01.Holds := by
  exact Mine.law_ok
