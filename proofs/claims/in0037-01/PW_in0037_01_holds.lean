import PyProof.Rows.All
import Wide.All
import OpenK.AllK
import Wide.FinOn
import PySem.Challenge.RW_in0037_01
open PySem PySem.W PySem.Spec PySem.Calls PyProof.Rows
set_option Elab.async false
set_option maxRecDepth 100000
set_option maxHeartbeats 8000000
set_option linter.unusedVariables false
namespace Mine
-- pass 1: the written part of the heap (hd.heap_39) and the looks at the law; the top itself is checked below
theorem first_pass {r : OpenRow} (_H : Hook) (said : r.wellSaid = true) (hw : r.toRowW.promised) (hc : r.wellSaid = true → r.toRowW.promised → r.Holds) : r.Holds := hc said hw
section
local macro_rules | `(tactic| o_head $H) => `(tactic| refine first_pass $H (by assumption) ?hw ?hc)
open_top hd for PySem.Challenge.rw_in0037_01
end
def Seen {a : Type u} {b : Type v} (_x : a) (_y : b) : Prop := True
theorem filled : Seen PySem.Challenge.rw_in0037_01 hd.heap_39 := by
  k_fill
  exact trivial
local macro_rules | `(tactic| walk_at $s:str) => `(tactic| k_extra $s)
abbrev PG : Program := PySem.Challenge.rw_in0037_01.row.prog
section
variable {prog : Program} {w : World} {A₀ A : Around} {s : Shared} {base h₀ : Heap} {outer : List Env} {L : Addr} {m : Str → Option Value} {env : Env} {sub : List (Addr × Obj)} {K : Frag} {p : Program} {loose : List Str} {mean : ExcName → Option Value} {mg mb : Str → Option Value}
  {Q E : Value → Shared → Prop} {name qual : Str} {params : Arguments} {body : List Stmt} {scope : Scope} {dV kV doc pm cdv ct oc : Value} {an od : Option Addr} {osl : Array (Option Value)} {f : Addr} {args : List Value} {binds : List (Str × Value)}
/-- what an entered def stands on: all that stood, but what the sub-ledger names -/
def Rest (h : Heap) (sub : List (Addr × Obj)) (g : Heap) : Prop := ∀ b o, h.get? b = some o → b ∉ sub.map (·.1) → g.get? b = some o
/-- a def without cells is entered upon the whole heap; its ledger opens with the objects that are named -/
theorem enterP (B : Below A₀ base outer h₀) (F : Fr h₀ L s.heap m) (X : K.In h₀) (N : News h₀ L s.heap sub) (T : Top p loose mean mg mb h₀) (hA : A.frames = some (env :: outer)) (hf : env.frame = some L) (hke : env.scope.kind = .function)
    (ho : K.lookup f = some ⟨oc, od, .func (fnOf name qual params body scope dV kV doc pm an cdv ct), osl⟩) (hcd : codeIn K cdv qual = true) (hroom : A.depth < recursionLimit)
    (hbind : BindsTo s (fnOf name qual params body scope dV kV doc pm an cdv ct) ⟨args, []⟩ binds) (hloc : ∀ y ∈ binds, scope.names.lookup y.1 = some .local)
    (hcell : ∀ x ∈ scope.names, x.2 ≠ .cell)
    (h : ∀ g L' h₁, Rest s.heap sub g → Fr g L' h₁ (fun y => binds.reverse.lookup y) → News g L' h₁ sub → Below A base (env :: outer) g → K.In g → Top p loose mean mg mb g → (∀ q ∈ sub, q.1 < L') →
      wpAny (model prog w) (A.deeper (envOf qual scope L' f cdv)) (execs body (envOf qual scope L' f cdv))
        (fun fl s' => Q (match fl with | .ret v => v | _ => .none) s')
        (fun e s' => wpAny (model prog w) (A.deeper (envOf qual scope L' f cdv)) (leaving (envOf qual scope L' f cdv) e) (fun _ s'' => E e s'') (fun e' s'' => E e' s'') s')
        { s with heap := h₁, toks := s.toks + binds.length })
    (hco : scope.isCoroutine = false) (hgen : scope.isGenerator = false) (hk : scope.kind = .function) : wpAny (model prog w) A (call (.ref f) args) Q E s := by
  obtain ⟨FG, BG, st, _⟩ := groundX (R := fun _ _ => True) B F N hA hf hke
  have X' := X.keeps F.keep
  refine wpAny_call (codeAny_call_def (fd := fnOf name qual params body scope dV kV doc pm an cdv ct) (body := body) (binds := binds) hroom (X' _ _ ho) rfl ((T.nolimit).keeps F.keep) (codeRec_of X' hcd) rfl hbind hcell hloc (fun h₁ hns hk₁ => ?_) hco hgen hk)
  exact h _ _ h₁ (fun b o e hb => hideAll_get _ e hb) ⟨hns, fun b o e => hk₁ b o (of_hideAll _ e), Nat.le_of_eq (hideAll_size _ _)⟩
    (fun q hq => ⟨hk₁ _ _ (N q hq).1, Nat.ne_of_lt (Heap.lt_size (N q hq).1), hideAll_none _ (List.mem_map_of_mem hq)⟩) BG (X.keeps st) (T.keeps st) (fun q hq => Heap.lt_size (N q hq).1)
/-- the same with cells -/
theorem enterC (B : Below A₀ base outer h₀) (F : Fr h₀ L s.heap m) (X : K.In h₀) (N : News h₀ L s.heap sub) (T : Top p loose mean mg mb h₀) (hA : A.frames = some (env :: outer)) (hf : env.frame = some L) (hke : env.scope.kind = .function)
    (ho : K.lookup f = some ⟨oc, od, .func (fnOf name qual params body scope dV kV doc pm an cdv ct), osl⟩) (hcd : codeIn K cdv qual = true) (hroom : A.depth < recursionLimit)
    (hbind : BindsTo s (fnOf name qual params body scope dV kV doc pm an cdv ct) ⟨args, []⟩ binds) (hkind : (binds.all fun y => scope.names.lookup y.1 == some .local || scope.names.lookup y.1 == some .cell) = true)
    (hnd : ((cellsFrom 0 scope.names []).map (·.1)).Nodup)
    (h : ∀ g L' h₁ tk cells, Rest s.heap sub g → Fr g L' h₁ (bindL (envOfC qual scope L' f cdv).kindOf binds fun _ => none) → News g L' h₁ (cells ++ sub) →
      CellsAre (bindC (envOfC qual scope L' f cdv).kindOf binds fun _ => none) (cellsFrom (L' + 1) scope.names []) cells → Below A base (env :: outer) g → K.In g → Top p loose mean mg mb g → (∀ q ∈ sub, q.1 < L') →
      wpAny (model prog w) (A.deeper (envOfC qual scope L' f cdv)) (execs body (envOfC qual scope L' f cdv))
        (fun fl s' => Q (match fl with | .ret v => v | _ => .none) s')
        (fun e s' => wpAny (model prog w) (A.deeper (envOfC qual scope L' f cdv)) (leaving (envOfC qual scope L' f cdv) e) (fun _ s'' => E e s'') (fun e' s'' => E e' s'') s')
        { s with heap := h₁, toks := tk })
    (hco : scope.isCoroutine = false) (hgen : scope.isGenerator = false) (hk : scope.kind = .function) : wpAny (model prog w) A (call (.ref f) args) Q E s := by
  obtain ⟨FG, BG, st, _⟩ := groundX (R := fun _ _ => True) B F N hA hf hke
  have X' := X.keeps F.keep
  refine wpAny_call (codeAny_call_function hroom (X' _ _ ho) rfl hco hgen rfl (codeRec_of X' hcd) (hbind _ _ _ _ ?_))
  refine wpAny_newFunctionEnv_cells hk (kindsX hkind _) fun env' he s' x => ?_
  subst he
  refine ⟨((T.nolimit).keeps F.keep).keeps x.toInCall.keep, codeAny_func ?_⟩
  obtain ⟨h₁, tk, rfl, _⟩ := x.done
  have hk₁ := x.toInCall.keep
  obtain ⟨cells, NC, Y⟩ := Cl.news (h₀ := s.heap) (Nat.le_refl _) fun n c hm => ⟨x.cell n c (lookup_of_mem_nodup (cellsFrom_names scope.names 0 (s.heap.objs.size + 1) [] [] rfl ▸ hnd) hm), x.above n c hm⟩
  refine h _ s.heap.objs.size h₁ tk cells (fun b o e hb => hideAll_get _ e hb) ⟨x.toInCall.ns, fun b o e => hk₁ b o (of_hideAll _ e), Nat.le_of_eq (hideAll_size _ _)⟩ (fun q hq => ?_) Y BG (X.keeps st) (T.keeps st) (fun q hq => Heap.lt_size (N q hq).1)
  rcases List.mem_append.mp hq with hq | hq
  · refine ⟨(NC q hq).1, (NC q hq).2.1, ?_⟩
    cases e : (hideAll s.heap (sub.map (·.1))).get? q.1 with
    | none => rfl
    | some o => have := of_hideAll _ e; rw [(NC q hq).2.2] at this; cases this
  · exact ⟨hk₁ _ _ (N q hq).1, Nat.ne_of_lt (Heap.lt_size (N q hq).1), hideAll_none _ (List.mem_map_of_mem hq)⟩
/-- all stays, if what the sub-ledger names stands at the end as it stood -/
theorem stays_of {g : Heap} {L' : Addr} {h h' : Heap} {m' : Str → Option Value} {sub : List (Addr × Obj)} (R : Rest h sub g) (F : Fr g L' h' m') (N : News h₀ L h sub) (hs : ∀ q ∈ sub, h'.get? q.1 = some q.2) : h.StaysIn h' := fun b o e => by
  by_cases hb : b ∈ sub.map (·.1)
  · obtain ⟨q, hq, rfl⟩ := List.mem_map.mp hb
    rw [(N q hq).1] at e
    cases e
    exact hs q hq
  · exact F.keep b o (R b o e hb)
theorem fr_stays {h h' : Heap} (k : h.StaysIn h') (F : Fr h₀ L h m) : Fr h₀ L h' m := ⟨let ⟨o, es, ep, e, r⟩ := F.ns; ⟨o, es, ep, k _ _ e, r⟩, fun b o e => k _ _ (F.keep b o e), F.above⟩
theorem news_stays {h h' : Heap} {news : List (Addr × Obj)} (k : h.StaysIn h') (N : News h₀ L h news) : News h₀ L h' news := fun q hq => ⟨k _ _ (N q hq).1, (N q hq).2⟩
end

-- the top, checked whole, one way of the world's two rows at a time
abbrev Way (p q : Program) (loose : List Str) (Xt : Shared → Bool) {α : Type} (Yf : Shared → α) (Ya : World → α) (N : Nat) (r1 r2 : String) (b1 b2 : Bool) : Prop :=
  ∀ w : World, (fencedOpening treeTable p w N).map (fun s₀ => (topFrom treeTable p ((w.withFollow r1 b1).withFollow r2 b2) N s₀).map (fun s => (openSeen q loose (importedModules p.main.body) Xt true s, Yf s))) =
      some (some (openGood q loose, Ya ((w.withFollow r1 b1).withFollow r2 b2)))
theorem split_rows {p q : Program} {loose : List Str} {Xt : Shared → Bool} {α : Type} {Yf : Shared → α} {Ya : World → α} {N : Nat} (r1 r2 : String)
    (h1 : Way p q loose Xt Yf Ya N r1 r2 false false) (h2 : Way p q loose Xt Yf Ya N r1 r2 false true) (h3 : Way p q loose Xt Yf Ya N r1 r2 true false) (h4 : Way p q loose Xt Yf Ya N r1 r2 true true) : LeftO p q loose Xt Yf Ya N := by
  have h : ∀ b1 b2, Way p q loose Xt Yf Ya N r1 r2 b1 b2 := fun b1 b2 => by
    cases b1 <;> cases b2
    · exact h1
    · exact h2
    · exact h3
    · exact h4
  intro w
  have g : (w.withFollow r1 (w.params.followText r1)).withFollow r2 (w.params.followText r2) = w := by
    rw [World.withFollow_self, World.withFollow_self]
  obtain ⟨s₀, a, b⟩ := Option.map_eq_some_iff.mp (h (w.params.followText r1) (w.params.followText r2) w)
  rw [g] at b
  unfold openEnds
  rw [a]
  exact b
noncomputable def viewQ : Program := view PySem.Challenge.pw_in0037_01 [0, 2, 3, 4, 5, 7, 8, 10, 12, 15, 16, 17, 18, 19, 20, 21]
def looseL : List Str := [Str.ofString "_twin_re_1", Str.ofString "_special_chars_map", Str.ofString "_initial_missing", Str.ofString "reduce"]
def addrs : List Addr := [2, 3, 6, 11, 12, 32, 39, 40, 41, 42, 45, 52, 53, 54, 57, 59, 60, 62, 63, 67, 68, 70, 74, 76, 77, 79, 80, 81, 83, 84, 86, 87, 88, 89, 90, 92, 93, 95, 96, 97, 99, 100, 102, 103, 104, 106, 107, 109, 110, 111, 114, 115, 116, 119, 120, 121, 123, 124, 126, 127, 128, 130, 131, 133, 134, 135, 138, 139]
theorem addrs_are : ∀ P, addrs = (hd.heap_39 P).map (·.1) := fun _ => by kernel_rfl
noncomputable abbrev HK : Hook := kmHook hd.heap_39 addrs addrs_are [82]
noncomputable abbrev XT : Shared → Bool := fun s => xlAt viewQ [] s && recOk (RowW.records (OpenRow.toRowW (OpenLaw.row PySem.Challenge.rw_in0037_01))) s
theorem way1 : Way PySem.Challenge.pw_in0037_01 viewQ looseL XT HK.obs HK.val 2300 "comprehension-iter-twice" "special-get-raises" false false := fun _ => by kernel_rfl
theorem way2 : Way PySem.Challenge.pw_in0037_01 viewQ looseL XT HK.obs HK.val 2300 "comprehension-iter-twice" "special-get-raises" false true := fun _ => by kernel_rfl
theorem way3 : Way PySem.Challenge.pw_in0037_01 viewQ looseL XT HK.obs HK.val 2300 "comprehension-iter-twice" "special-get-raises" true false := fun _ => by kernel_rfl
theorem way4 : Way PySem.Challenge.pw_in0037_01 viewQ looseL XT HK.obs HK.val 2300 "comprehension-iter-twice" "special-get-raises" true true := fun _ => by kernel_rfl



theorem fm4 (x : Int) : 0 ≤ x.fmod 4 ∧ x.fmod 4 < 4 := ⟨Int.fmod_nonneg_of_pos _ (by decide), Int.fmod_lt_of_pos _ (by decide)⟩
theorem fm2 (x : Int) : 0 ≤ x.fmod 2 ∧ x.fmod 2 < 2 := ⟨Int.fmod_nonneg_of_pos _ (by decide), Int.fmod_lt_of_pos _ (by decide)⟩
-- the name, by its rests
def nmW (a b c : Nat) : Str := Txt.slice (Txt.item (Str.ofString "a\"*b") a ++ Txt.item (Str.ofString "a\"*b") b) none (some ((c : Int) + 1))
def nameV (n : Int) : Str := nmW (n.fmod 4).toNat ((n.fdiv 4).fmod 4).toNat ((n.fdiv 5).fmod 2).toNat
theorem nameV_is (n : Int) : Txt.slice (Txt.item (Str.ofString "a\"*b") (n.fmod 4) ++ Txt.item (Str.ofString "a\"*b") ((n.fdiv 4).fmod 4)) none (some ((n.fdiv 5).fmod 2 + 1)) = nameV n := by
  unfold nameV nmW
  rw [Int.toNat_of_nonneg (fm4 n).1, Int.toNat_of_nonneg (fm4 _).1, Int.toNat_of_nonneg (fm2 _).1]
theorem len_nmW : ∀ a < 4, ∀ b < 4, ∀ c < 2, (nmW a b c).length ≤ 2 ∧ (Txt.replace (nmW a b c) (Str.ofString "\"") (Str.ofString "\"\"")).length ≤ 4 := by decide +kernel
theorem len_nameV (n : Int) : (nameV n).length ≤ 2 ∧ (Txt.replace (nameV n) (Str.ofString "\"") (Str.ofString "\"\"")).length ≤ 4 :=
  len_nmW _ (by have := fm4 n; omega) _ (by have := fm4 (n.fdiv 4); omega) _ (by have := fm2 (n.fdiv 5); omega)
def t0 : Str := Str.ofString "257 \""
def t1 : Str := Str.ofString "\" is \"it\""
def t2 : Str := Str.ofString "\""
def t3 : Str := Str.ofString "257 at "
def t4 : Str := Str.ofString "250 \""
def replyV (n : Int) : Str :=
  if (n.fdiv 16).fmod 4 < 2 then Str.ofString "257 \"" ++ Txt.replace (nameV n) (Str.ofString "\"") (Str.ofString "\"\"") ++ [Str.ofString "\" is \"it\"", Str.ofString "\""].getD ((n.fdiv 16).fmod 4).toNat Str.empty
  else [Str.ofString "257 at ", Str.ofString "250 \""].getD ((n.fdiv 16).fmod 4 - 2).toNat Str.empty ++ nameV n
theorem len_menu (x y : Str) (hx : x.length ≤ 20) (hy : y.length ≤ 20) : ∀ k : Nat, ([x, y].getD k Str.empty).length ≤ 20
  | 0 => hx
  | 1 => hy
  | _ + 2 => Nat.zero_le _
section
variable {w : World} {p : Program} {loose : List Str} {mean : ExcName → Option Value} {mg mb : Str → Option Value} {dp un : Nat} {gd : Option (List Code)} {cn : Str} {cs : Scope} {a : Addr} {ccd : Value} {cl : List (Str × Addr)} {outer : List Env} {A₀ : Around} {base h₀ : Heap} {L : Addr} {m : Str → Option Value} {news : List (Addr × Obj)} {s : Shared}
    {Q E : Value → Shared → Prop}

theorem name_con0 {n : Int} {t : Tok} (B : Below A₀ base outer h₀) (F : Fr h₀ L s.heap m) (X : (hd.heap_39 w.params).In h₀) (N : News h₀ L s.heap news) (T : Top p loose mean mg mb h₀) (hk : cs.kind = .function)
    (hd' : dp + 2 < recursionLimit) (_hu : un + 16 < cLine)
    (hret : ∀ (t : Tok) (h' : Heap) (tk' : Nat), Fr h₀ L h' m → News h₀ L h' news → Q (.str (nameV n) t) { s with heap := h', toks := tk' }) :
    wpAny (model PG w) (ktrTop dp un gd cn cs L a ccd cl outer) (call (.ref 103) [.int n t]) Q E s := by
  k_with_none
  k_with "execs cons" => (k_here; (with_reducible refine wpAny_execs_cons ?_); (try dsimp only); (try k_fold))
  k_with "eval Name" => ((k_here; (fail_if_success (with_reducible show wpAny _ _ (eval (Expr.Name _ _) (compEnvC _ _ _ _)) _ _ _))); first | k_dflt (refine' nameX_L ?w9F ?w9v ?_ ?w9a ?w9b; (case w9F => k_asm); (case w9a => rfl); (case w9b => rfl); (case w9v => rfl); k_whole) | k_dflt (refine' ld ?w9F ?w9v ?_; (case w9F => k_asm); (case w9v => exact rfl); k_whole))
  rw [← nameV_is] at hret
  refine wpAny_call ?_
  k_dflt ktr_enter
  k_steps
  all_goals (exact hret _ _ _ (by k_asm) (by (first | k_asm | (refine' cb_drop ?cbN ?cbS; (case cbN => assumption); (case cbS => kcj_all)))))
theorem name_con {n : Int} {t : Tok} (B : Below A₀ base outer h₀) (F : Fr h₀ L s.heap m) (X : (hd.heap_39 w.params).In h₀) (N : News h₀ L s.heap news) (T : Top p loose mean mg mb h₀) (hk : cs.kind = .function)
    (hd' : dp + 2 < recursionLimit) (hu : un + 16 < cLine)
    (hret : ∀ (t : Tok) (h' : Heap) (tk' : Nat), s.toks ≤ tk' → Fr h₀ L h' m → News h₀ L h' news → Q (.str (nameV n) t) { s with heap := h', toks := tk' }) :
    wpAny (model PG w) (ktrTop dp un gd cn cs L a ccd cl outer) (call (.ref 103) [.int n t]) Q E s :=
  wpAny_with_toks (Nat.le_refl _) (name_con0 B F X N T hk hd' hu fun t h' tk' F' N' hto => hret t h' tk' hto F' N')

theorem my_replace {A : Around} {E : Value → Shared → Prop} {s : Shared} {x : Str} {t : Tok} {u v : Nat} {Q : Value → Shared → Prop} (hu : 0 < u) (huv : u < v) (hx : x.length ≤ 1048576)
    (hq : ∀ t' k, Q (.str (Txt.replace x (Str.ofString "\"") (Str.ofString "\"\"")) t') { s with toks := k }) : wpAny (model PG w) A (call (.builtin "str.replace") [.str x t, .str (Str.ofString "\"") u, .str (Str.ofString "\"\"") v]) Q E s :=
  SC.replaceW (Nat.ne_of_gt hu) (Nat.ne_of_gt (Nat.lt_trans hu huv)) (Nat.ne_of_lt huv) (by decide +kernel) hx (by decide +kernel) hq
theorem reply_con0 {n : Int} {t : Tok} (B : Below A₀ base outer h₀) (F : Fr h₀ L s.heap m) (X : (hd.heap_39 w.params).In h₀) (N : News h₀ L s.heap news) (T : Top p loose mean mg mb h₀) (hk : cs.kind = .function)
    (hd' : dp + 4 < recursionLimit) (hu : un + 32 < cLine)
    (hret : ∀ (t : Tok) (h' : Heap) (tk' : Nat), Fr h₀ L h' m → News h₀ L h' news → Q (.str (replyV n) t) { s with heap := h', toks := tk' }) :
    wpAny (model PG w) (ktrTop dp un gd cn cs L a ccd cl outer) (call (.ref 110) [.int n t]) Q E s := by
  k_with_none
  k_with "execs cons" => (k_here; (with_reducible refine wpAny_execs_cons ?_); (try dsimp only); (try k_fold))
  k_with "eval Name" => ((k_here; (fail_if_success (with_reducible show wpAny _ _ (eval (Expr.Name _ _) (compEnvC _ _ _ _)) _ _ _))); first | k_dflt (refine' nameX_L ?w9F ?w9v ?_ ?w9a ?w9b; (case w9F => k_asm); (case w9a => rfl); (case w9b => rfl); (case w9v => rfl); k_whole) | k_dflt (refine' ld ?w9F ?w9v ?_; (case w9F => k_asm); (case w9v => exact rfl); k_whole))
  k_with "call ref" => (k_here; (with_reducible show wpAny _ _ (call (Value.ref _) _) _ _ _); k_dflt (refine' name_con ?w9k1 ?w9k2 ?w9k3 ?w9k4 ?w9k5 ?w9kK ?w9kd ?w9ku ?_; (case w9k1 => k_asm); (case w9k2 => k_asm); (case w9k3 => k_asm); (case w9k4 => k_asm); (case w9k5 => k_asm); (case w9kK => first | exact rfl | assumption); (case w9kd => ktr_room); (case w9ku => ktr_units)); intro t9 h9 tk9 hto9 F9 N9; (try dsimp only); (try dsimp only at hto9); (try k_fold))
  k_with "call builtin:str.replace" => (refine my_replace (by omega) (by omega) (Nat.le_trans (len_nameV _).1 (by decide)) ?_; intro _ _)
  k_with "subscriptTail" => (k_here; (with_reducible show wpAny _ _ (subscriptTail _ _ (Value.ref _) (Value.int _ _)) _ _ _); k_dflt (refine' KTb.item_list ?w9ktbl ?w9ktbw ?w9ktb0 ?w9ktb1 ?w9ktbf ?_; (case w9ktbl => exact News.isList (by k_asm) (by k_mem)); (case w9ktbw => repeat constructor); (case w9ktb0 => omega); (case w9ktb1 => ((simp only [List.length_cons, List.length_nil]); omega)); (case w9ktbf => omega)); intro _ ktbLt; clear ktbLt)
  k_with "binaryOp Add str str" => (k_here; (with_reducible show wpAny _ _ (binaryOp Operator.Add (Value.str _ _) (Value.str _ _)) _ _ _); (refine SBL.add (hsz := ?w9hsz) ?_; (case w9hsz => (rw [sizeLine_eq]; (try rw [PySem.Str.length_append]); omega))); intro _ _)
  have hb := fm4 (n.fdiv 16)
  have hl := len_nameV n
  have hm1 := len_menu (Str.ofString "\" is \"it\"") (Str.ofString "\"") (by decide +kernel) (by decide +kernel) ((n.fdiv 16).fmod 4).toNat
  have hm2 := len_menu (Str.ofString "257 at ") (Str.ofString "250 \"") (by decide +kernel) (by decide +kernel) ((n.fdiv 16).fmod 4 - 2).toNat
  have hl0 : (Str.ofString "257 \"").length = 5 := by decide +kernel
  unfold replyV at hret
  refine wpAny_call ?_
  k_dflt ktr_enter
  k_steps
  · rw [if_pos (show (n.fdiv 16).fmod 4 < 2 by assumption)] at hret
    refine hret _ _ _ ?f ?n
    · k_asm
    · (first | k_asm | (refine' cb_drop ?cbN ?cbS; (case cbN => assumption); (case cbS => kcj_all)))
  · rw [if_neg (show ¬ (n.fdiv 16).fmod 4 < 2 by assumption)] at hret
    refine hret _ _ _ ?f2 ?n2
    · k_asm
    · (first | k_asm | (refine' cb_drop ?cbN ?cbS; (case cbN => assumption); (case cbS => kcj_all)))

theorem reply_con {n : Int} {t : Tok} (B : Below A₀ base outer h₀) (F : Fr h₀ L s.heap m) (X : (hd.heap_39 w.params).In h₀) (N : News h₀ L s.heap news) (T : Top p loose mean mg mb h₀) (hk : cs.kind = .function)
    (hd' : dp + 4 < recursionLimit) (hu : un + 32 < cLine)
    (hret : ∀ (t : Tok) (h' : Heap) (tk' : Nat), s.toks ≤ tk' → Fr h₀ L h' m → News h₀ L h' news → Q (.str (replyV n) t) { s with heap := h', toks := tk' }) :
    wpAny (model PG w) (ktrTop dp un gd cn cs L a ccd cl outer) (call (.ref 110) [.int n t]) Q E s :=
  wpAny_with_toks (Nat.le_refl _) (reply_con0 B F X N T hk hd' hu fun t h' tk' F' N' hto => hret t h' tk' hto F' N')
end

def scanV (x : Str) : Nat → Int → Str → Str
  | 0, _, d => d
  | k + 1, i, d => if i < (x.length : Int) then
      (if Txt.item x i = Str.ofString "\"" then (if (x.length : Int) ≤ i + 1 ∨ Txt.item x (i + 1) ≠ Str.ofString "\"" then d else scanV x k (i + 2) (d ++ Txt.item x i)) else scanV x k (i + 1) (d ++ Txt.item x i))
    else d
/-- what parse257 gives back for a text that opens with 257 -/
def pv (x : Str) : Str := if (Txt.slice x (some 3) (some 5) != Str.ofString " \"") = true then Str.ofString "" else scanV x 100 5 (Str.ofString "")
def PInv (x R : Str) (i : Int) (d : Str) : Prop := ∃ k : Nat, (x.length : Int) < i + k ∧ scanV x k i d = R
section
variable {x R d : Str} {i : Int}
theorem PInv.start (h : x.length ≤ 100) : PInv x (scanV x 100 5 (Str.ofString "")) 5 (Str.ofString "") := ⟨100, by omega, rfl⟩
theorem PInv.two (h : PInv x R i d) (h1 : i < (x.length : Int)) (h2 : (Txt.item x i == Str.ofString "\"") = true) (h3 : ¬ (x.length : Int) ≤ i + 1) (h4 : (Txt.item x (i + 1) != Str.ofString "\"") = false) : PInv x R (i + 1 + 1) (d ++ Txt.item x i) := by
  obtain ⟨k, hk, e⟩ := h
  cases k with
  | zero => omega
  | succ k =>
    refine ⟨k, by omega, ?_⟩
    have e4 : Txt.item x (i + 1) = Str.ofString "\"" := by simpa using h4
    rw [scanV, if_pos h1, if_pos (eq_of_beq h2), if_neg (fun q => q.elim h3 fun q => q e4)] at e
    rw [show i + 1 + 1 = i + 2 by omega]
    exact e
theorem PInv.one (h : PInv x R i d) (h1 : i < (x.length : Int)) (h2 : (Txt.item x i == Str.ofString "\"") = false) : PInv x R (i + 1) (d ++ Txt.item x i) := by
  obtain ⟨k, hk, e⟩ := h
  cases k with
  | zero => omega
  | succ k =>
    refine ⟨k, by omega, ?_⟩
    have e2 : ¬ Txt.item x i = Str.ofString "\"" := by simpa using h2
    rw [scanV, if_pos h1, if_neg e2] at e
    exact e
theorem PInv.brk1 (h : PInv x R i d) (h1 : i < (x.length : Int)) (h2 : (Txt.item x i == Str.ofString "\"") = true) (h3 : (x.length : Int) ≤ i + 1) : d = R := by
  obtain ⟨k, hk, e⟩ := h
  cases k with
  | zero => omega
  | succ k =>
    rw [scanV, if_pos h1, if_pos (eq_of_beq h2), if_pos (.inl h3)] at e
    exact e
theorem PInv.brk2 (h : PInv x R i d) (h1 : i < (x.length : Int)) (h2 : (Txt.item x i == Str.ofString "\"") = true) (h4 : (Txt.item x (i + 1) != Str.ofString "\"") = true) : d = R := by
  obtain ⟨k, hk, e⟩ := h
  cases k with
  | zero => omega
  | succ k =>
    have e4 : ¬ Txt.item x (i + 1) = Str.ofString "\"" := by simpa using h4
    rw [scanV, if_pos h1, if_pos (eq_of_beq h2), if_pos (.inr e4)] at e
    exact e
theorem PInv.out (h : PInv x R i d) (h1 : ¬ i < (x.length : Int)) : d = R := by
  obtain ⟨k, hk, e⟩ := h
  cases k with
  | zero => exact e
  | succ k => rw [scanV, if_neg h1] at e; exact e
end
section
variable {w : World} {p : Program} {loose : List Str} {mean : ExcName → Option Value} {mg mb : Str → Option Value} {dp un : Nat} {gd : Option (List Code)} {cn : Str} {cs : Scope} {a : Addr} {ccd : Value} {cl : List (Str × Addr)} {outer : List Env} {A₀ : Around} {base h₀ : Heap} {L : Addr} {m : Str → Option Value} {news : List (Addr × Obj)} {s : Shared}
    {Q E : Value → Shared → Prop}
theorem ret_str {x y : Str} {t : Tok} {h' : Heap} {tk' : Nat} (hret : ∀ (t : Tok) (h' : Heap) (tk' : Nat), Fr h₀ L h' m → News h₀ L h' news → Q (.str x t) { s with heap := h', toks := tk' }) (e : y = x) (F : Fr h₀ L h' m) (N : News h₀ L h' news) : Q (.str y t) { s with heap := h', toks := tk' } := by
  subst e; exact hret t h' tk' F N
theorem p257_con0 {x : Str} {t : Tok} (B : Below A₀ base outer h₀) (F : Fr h₀ L s.heap m) (X : (hd.heap_39 w.params).In h₀) (N : News h₀ L s.heap news) (T : Top p loose mean mg mb h₀) (hk : cs.kind = .function)
    (hd' : dp + 2 < recursionLimit) (_hu : un + 16 < cLine) (h3 : Txt.slice x none (some 3) = Str.ofString "257") (hlen : x.length ≤ 100)
    (hret : ∀ (t : Tok) (h' : Heap) (tk' : Nat), Fr h₀ L h' m → News h₀ L h' news → Q (.str (pv x) t) { s with heap := h', toks := tk' }) :
    wpAny (model PG w) (ktrTop dp un gd cn cs L a ccd cl outer) (call (.ref 63) [.str x t]) Q E s := by
  k_with_none
  k_with "execs cons" => (k_here; (with_reducible refine wpAny_execs_cons ?_); (try dsimp only); (try k_fold))
  k_with "exec While Compare cons nil" => k_extra "MYWHILE"
  k_with "subscriptTail" => (k_here; (with_reducible show wpAny _ _ (subscriptTail _ _ (Value.str _ _) (Value.int _ _)) _ _ _); (refine KXi.item rfl (by omega) (by omega) (by omega) ?_); intro kxiE)
  k_with "binaryOp Add str str" => (k_here; (with_reducible show wpAny _ _ (binaryOp Operator.Add (Value.str _ _) (Value.str _ _)) _ _ _); (refine SBL.add (hsz := ?w9hsz) ?_; (case w9hsz => (rw [sizeLine_eq]; omega))); intro _ _)
  have hs := PInv.start (x := x) hlen
  have h0 : (Str.ofString "").length = 0 := rfl
  have h3' : (Txt.slice x none (some 3) != Str.ofString "257") = true → False := fun q => by rw [h3] at q; simp at q
  k_with "MYWHILE" => (k_while (fun (_ : List Int) (i : Int) (d : Str) => 0 ≤ i ∧ (d.length : Int) ≤ i ∧ PInv x (scanV x 100 5 (Str.ofString "")) i d) (fun (_ : List Int) (i : Int) (_ : Str) => ((x.length : Int) - i).toNat) "i" "dirname")
  k_with "state" => (refine ⟨by omega, by omega, ?_⟩; first | exact hs | exact PInv.two (by assumption) (by assumption) (by assumption) (by assumption) (by assumption) | exact PInv.one (by assumption) (by assumption) (by assumption))
  k_with "measure" => omega
  refine wpAny_call ?_
  k_dflt ktr_enter
  k_steps
  all_goals first
    | exact (h3' (by assumption)).elim
    | ((rename (Txt.slice x (some 3) (some 5) != Str.ofString " \"") = true => hq); refine ret_str hret ?_ (by k_asm) (by k_asm); unfold pv; rw [if_pos hq]; done)
    | ((rename (Txt.slice x (some 3) (some 5) != Str.ofString " \"") = false => hq); refine ret_str hret ?_ (by k_asm) (by k_asm); unfold pv; rw [if_neg (by rw [hq]; decide)]; first | exact PInv.brk1 (by assumption) (by assumption) (by assumption) (by assumption) | exact PInv.brk2 (by assumption) (by assumption) (by assumption) (by assumption) | exact PInv.out (by assumption) (by assumption))
theorem p257_con {x : Str} {t : Tok} (B : Below A₀ base outer h₀) (F : Fr h₀ L s.heap m) (X : (hd.heap_39 w.params).In h₀) (N : News h₀ L s.heap news) (T : Top p loose mean mg mb h₀) (hk : cs.kind = .function)
    (hd' : dp + 2 < recursionLimit) (hu : un + 16 < cLine) (h3 : Txt.slice x none (some 3) = Str.ofString "257") (hlen : x.length ≤ 100)
    (hret : ∀ (t : Tok) (h' : Heap) (tk' : Nat), s.toks ≤ tk' → Fr h₀ L h' m → News h₀ L h' news → Q (.str (pv x) t) { s with heap := h', toks := tk' }) :
    wpAny (model PG w) (ktrTop dp un gd cn cs L a ccd cl outer) (call (.ref 63) [.str x t]) Q E s :=
  wpAny_with_toks (Nat.le_refl _) (p257_con0 B F X N T hk hd' hu h3 hlen fun t h' tk' F' N' hto => hret t h' tk' hto F' N')
end

/-- the words that a name can be -/
def words : List Str := ["", "a", "\"", "*", "b", "aa", "a\"", "a*", "ab", "\"a", "\"\"", "\"*", "\"b", "*a", "*\"", "**", "*b", "ba", "b\"", "b*", "bb"].map Str.ofString
/-- what _law_takes answers, by the pattern's number -/
def tk0 (x : Str) : Bool := Txt.slice x (some 0) (some 1) == Str.ofString "a"
def tk1 (x : Str) : Bool := Txt.slice x (some 0) (some 1) == Str.ofString "\"" || Txt.slice x (some 1) (some 2) == Str.ofString "\""
def tk2 (x : Str) : Bool := x.length == 1
def tk3 (x : Str) : Bool := Txt.slice x (some 0) (some 1) == Str.ofString "*"
theorem words_len : ∀ x ∈ words, x.length ≤ 2 := by decide +kernel
theorem tk0_t : ∀ x ∈ words, (Txt.slice x (some 0) (some (0 + 1)) == Txt.item (Str.ofString "a") (-1)) = true → ((rangeKs 1 ((x.length : Int) + 1 - 1).toNat).any fun k => k == (x.length : Int)) = tk0 x := by decide +kernel
theorem tk0_f : ∀ x ∈ words, (Txt.slice x (some 0) (some (0 + 1)) == Txt.item (Str.ofString "a") (-1)) = false → false = tk0 x := by decide +kernel
section
variable {w : World} {p : Program} {loose : List Str} {mean : ExcName → Option Value} {mg mb : Str → Option Value} {dp un : Nat} {gd : Option (List Code)} {cn : Str} {cs : Scope} {a : Addr} {ccd : Value} {cl : List (Str × Addr)} {outer : List Env} {A₀ : Around} {base h₀ : Heap} {L : Addr} {m : Str → Option Value} {news : List (Addr × Obj)} {s : Shared}
    {Q E : Value → Shared → Prop}
theorem ret_bool {v b : Bool} {h' : Heap} {tk' : Nat} (hret : ∀ (h' : Heap) (tk' : Nat), s.heap.StaysIn h' → Q (.bool v) { s with heap := h', toks := tk' }) (e : b = v) (k : s.heap.StaysIn h') : Q (.bool b) { s with heap := h', toks := tk' } := by
  subst e; exact hret h' tk' k
theorem one_stays {lp : Addr} {o : Obj} {g h h' : Heap} {L' : Addr} {m' : Str → Option Value} {all : List (Addr × Obj)} (R : Rest h [(lp, o)] g) (F : Fr g L' h' m') (N : News h₀ L h [(lp, o)]) (N' : News g L' h' all) (hm : (lp, o) ∈ all) : h.StaysIn h' :=
  stays_of R F N fun q hq => by rw [List.mem_singleton.mp hq]; exact (N' _ hm).1
local macro_rules | `(tactic| lcg_off) => `(tactic| first | (simp only [LCg.Off3, and_true]; assumption) | exact True.intro | (refine And.intro ⟨by k_ne, by k_ne, by k_ne⟩ ?_; lcg_off))
local macro_rules | `(tactic| ktu_off) => `(tactic| first | exact Or.inr (by k_cls) | exact Or.inr (ktu_clsNe (by assumption) (by k_cls)) | exact Or.inl (by k_ne))
theorem takes0 {x : Str} {t t1 t2 : Tok} {lp : Addr} {nn : Nat} (B : Below A₀ base outer h₀) (F : Fr h₀ L s.heap m) (X : (hd.heap_39 w.params).In h₀) (T : Top p loose mean mg mb h₀) (hk : cs.kind = .function) (N : News h₀ L s.heap [(lp, listOf #[.str (Str.ofString "a") t1, .str (Str.ofString "*") t2] nn)])
    (hd' : dp + 2 < recursionLimit) (_hu : un + 400 < cLine) (hx : x ∈ words)
    (hret : ∀ (h' : Heap) (tk' : Nat), s.heap.StaysIn h' → Q (.bool (tk0 x)) { s with heap := h', toks := tk' }) :
    wpAny (model PG w) (ktrTop dp un gd cn cs L a ccd cl outer) (call (.ref 115) [.ref lp, .str x t]) Q E s := by
  k_with_none
  k_with "execs cons" => (k_here; (with_reducible refine wpAny_execs_cons ?_); (try dsimp only); (try k_fold))
  k_with "exec For Name Name cons nil" => (k_here; (rename Fr _ _ _ _ => lF'); (with_unfolding_all refine' For_turns lF' ?_; k_whole))
  k_with "compareOp NotEq ref ref" => (k_here; (with_reducible show wpAny _ _ (compareOp CmpOp.NotEq (Value.ref _) (Value.ref _)) _ _ _); k_dflt (refine ke_ne_ints (by is_list) (by is_list) (by l_ints) (by l_ints) (by ktr_units) ?_); ke_norm)
  k_with "call type:list" => (k_here; (with_reducible show wpAny _ _ (call (Value.type _) [Value.ref _]) _ _ _); (rename IsRange _ _ _ _ _ _ _ _ => rgX); (try simp only [Int.toNat_zero, List.getD_cons_zero, Int.zero_add] at rgX); (rename Fr _ _ _ _ => lF); (rename News _ _ _ _ => lN); (with_unfolding_all refine kll_range (by rfl) lF lN rgX (small_one (by omega) (by omega) (by omega) (by omega)) (rangeSize_nat _ _) (by omega) ?_); intro D' us' c' h' tk' F' N' l1 hI'; (try k_lt l1); (try k_sweep))
  k_with "newList" => (k_here; (with_reducible refine' newList_K ?w9k1 ?w9k2 ?_ ?w9z; (case w9z => exact Nat.le_of_ble_eq_true rfl); (case w9k1 => k_asm); (case w9k2 => k_asm); k_whole); intro l' h' F' N' l1; (try k_lt l1); (try k_sweep))
  k_with "subscriptTail Name UnaryOp str int" => (k_here; (refine KXi.item (n := 1) (by decide +kernel) (by decide) (by decide) (by decide) ?_); intro kxiE)
  k_with "CompEnd" => lcg_end
  have hlen := words_len x hx
  k_dflt (refine' enterC ?k1 ?k2 ?k3 ?k4 ?k5 ?kA ?kF ?kK ?k6 ?k7 ?k8 ?k9 ?kB ?kD ?_ ?c2 ?c3 ?c4; (case kA => exact rfl); (case kF => exact rfl); (case kK => assumption); (case k1 => k_asm); (case k2 => k_asm); (case k3 => k_asm); (case k4 => k_asm); (case k5 => k_asm); (case k6 => k_is); (case k7 => k_is); (case k8 => ktr_room); (case k9 => exact BindsTo.of_eq rfl); (case kB => exact rfl); (case kD => decide +kernel); (case c2 => exact rfl); (case c3 => exact rfl); (case c4 => exact rfl); k_whole; intro g' L' h' tk' cells' R' F' N' Y' B' X' T' l1; (try k_lt l1); k_cells Y'; (try simp only [List.cons_append, List.nil_append] at N'); (try dsimp only); (try k_fold))
  k_steps
  all_goals (refine ret_bool (s := s) hret ?_ ?k; (case k => exact one_stays (by assumption) (by k_asm) N (by k_asm) (by k_mem)); first | exact tk0_t x hx (by assumption) | exact tk0_f x hx (by assumption))
end

theorem tk2_t : ∀ x ∈ words, 0 < (x.length : Int) → ([(0 : Int) + 1].any fun k => k == (x.length : Int)) = tk2 x := by decide +kernel
theorem tk2_f : ∀ x ∈ words, ¬ 0 < (x.length : Int) → false = tk2 x := by decide +kernel
theorem tk3_o : ∀ x ∈ words, ¬ 0 < (x.length : Int) → false = tk3 x := by decide +kernel
theorem tk3_f : ∀ x ∈ words, 0 < (x.length : Int) → (Builtin.Str.occurrences (Txt.slice (Str.ofString "[*]") (some 1) (some (-1))) (Txt.item x 0) 0 (Txt.slice (Str.ofString "[*]") (some 1) (some (-1))).length 1).isEmpty = true → false = tk3 x := by decide +kernel
theorem tk3_t : ∀ x ∈ words, 0 < (x.length : Int) → (Builtin.Str.occurrences (Txt.slice (Str.ofString "[*]") (some 1) (some (-1))) (Txt.item x 0) 0 (Txt.slice (Str.ofString "[*]") (some 1) (some (-1))).length 1).isEmpty = false → ((rangeKs 1 ((x.length : Int) + 1 - 1).toNat).any fun k => k == (x.length : Int)) = tk3 x := by decide +kernel
section
variable {w : World} {p : Program} {loose : List Str} {mean : ExcName → Option Value} {mg mb : Str → Option Value} {dp un : Nat} {gd : Option (List Code)} {cn : Str} {cs : Scope} {a : Addr} {ccd : Value} {cl : List (Str × Addr)} {outer : List Env} {A₀ : Around} {base h₀ : Heap} {L : Addr} {m : Str → Option Value} {news : List (Addr × Obj)} {s : Shared}
    {Q E : Value → Shared → Prop}
local macro_rules | `(tactic| lcg_off) => `(tactic| first | (simp only [LCg.Off3, and_true]; assumption) | exact True.intro | (refine And.intro ⟨by k_ne, by k_ne, by k_ne⟩ ?_; lcg_off))
local macro_rules | `(tactic| ktu_off) => `(tactic| first | exact Or.inr (by k_cls) | exact Or.inr (ktu_clsNe (by assumption) (by k_cls)) | exact Or.inl (by k_ne))
theorem takes2 {x : Str} {t t1 : Tok} {lp : Addr} {nn : Nat} (B : Below A₀ base outer h₀) (F : Fr h₀ L s.heap m) (X : (hd.heap_39 w.params).In h₀) (T : Top p loose mean mg mb h₀) (hk : cs.kind = .function) (N : News h₀ L s.heap [(lp, listOf #[.str (Str.ofString "?") t1] nn)])
    (hd' : dp + 2 < recursionLimit) (_hu : un + 400 < cLine) (hx : x ∈ words)
    (hret : ∀ (h' : Heap) (tk' : Nat), s.heap.StaysIn h' → Q (.bool (tk2 x)) { s with heap := h', toks := tk' }) :
    wpAny (model PG w) (ktrTop dp un gd cn cs L a ccd cl outer) (call (.ref 115) [.ref lp, .str x t]) Q E s := by
  k_with_none
  k_with "execs cons" => (k_here; (with_reducible refine wpAny_execs_cons ?_); (try dsimp only); (try k_fold))
  k_with "exec For Name Name cons nil" => (k_here; (rename Fr _ _ _ _ => lF'); (with_unfolding_all refine' For_turns lF' ?_; k_whole))
  k_with "compareOp NotEq ref ref" => (k_here; (with_reducible show wpAny _ _ (compareOp CmpOp.NotEq (Value.ref _) (Value.ref _)) _ _ _); k_dflt (refine ke_ne_ints (by is_list) (by is_list) (by l_ints) (by l_ints) (by ktr_units) ?_); ke_norm)
  k_with "call type:list" => (k_here; (with_reducible show wpAny _ _ (call (Value.type _) [Value.ref _]) _ _ _); (rename IsRange _ _ _ _ _ _ _ _ => rgX); (try simp only [Int.toNat_zero, List.getD_cons_zero, Int.zero_add] at rgX); (rename Fr _ _ _ _ => lF); (rename News _ _ _ _ => lN); (with_unfolding_all refine kll_range (by rfl) lF lN rgX (small_one (by omega) (by omega) (by omega) (by omega)) (rangeSize_nat _ _) (by omega) ?_); intro D' us' c' h' tk' F' N' l1 hI'; (try k_lt l1); (try k_sweep))
  k_with "newList" => (k_here; (with_reducible refine' newList_K ?w9k1 ?w9k2 ?_ ?w9z; (case w9z => exact Nat.le_of_ble_eq_true rfl); (case w9k1 => k_asm); (case w9k2 => k_asm); k_whole); intro l' h' F' N' l1; (try k_lt l1); (try k_sweep))
  k_with "subscriptTail Name UnaryOp str int" => (k_here; (refine KXi.item (n := 1) (by decide +kernel) (by decide) (by decide) (by decide) ?_); intro kxiE)
  k_with "CompEnd" => lcg_end
  k_with "subscriptTail" => (k_here; (with_reducible show wpAny _ _ (subscriptTail _ _ (Value.str _ _) (Value.int _ _)) _ _ _); (refine KXi.item rfl (by omega) (by omega) (by omega) ?_); intro kxiE)
  have hlen := words_len x hx
  k_dflt (refine' enterC ?k1 ?k2 ?k3 ?k4 ?k5 ?kA ?kF ?kK ?k6 ?k7 ?k8 ?k9 ?kB ?kD ?_ ?c2 ?c3 ?c4; (case kA => exact rfl); (case kF => exact rfl); (case kK => assumption); (case k1 => k_asm); (case k2 => k_asm); (case k3 => k_asm); (case k4 => k_asm); (case k5 => k_asm); (case k6 => k_is); (case k7 => k_is); (case k8 => ktr_room); (case k9 => exact BindsTo.of_eq rfl); (case kB => exact rfl); (case kD => decide +kernel); (case c2 => exact rfl); (case c3 => exact rfl); (case c4 => exact rfl); k_whole; intro g' L' h' tk' cells' R' F' N' Y' B' X' T' l1; (try k_lt l1); k_cells Y'; (try simp only [List.cons_append, List.nil_append] at N'); (try dsimp only); (try k_fold))
  k_steps
  all_goals (refine ret_bool (s := s) hret ?_ ?k; (case k => exact one_stays (by assumption) (by k_asm) N (by k_asm) (by k_mem)); first | exact tk2_t x hx (by assumption) | exact tk2_f x hx (by assumption))
theorem takes3 {x : Str} {t t1 t2 : Tok} {lp : Addr} {nn : Nat} (B : Below A₀ base outer h₀) (F : Fr h₀ L s.heap m) (X : (hd.heap_39 w.params).In h₀) (T : Top p loose mean mg mb h₀) (hk : cs.kind = .function) (N : News h₀ L s.heap [(lp, listOf #[.str (Str.ofString "[*]") t1, .str (Str.ofString "*") t2] nn)])
    (hd' : dp + 2 < recursionLimit) (_hu : un + 400 < cLine) (hx : x ∈ words)
    (hret : ∀ (h' : Heap) (tk' : Nat), s.heap.StaysIn h' → Q (.bool (tk3 x)) { s with heap := h', toks := tk' }) :
    wpAny (model PG w) (ktrTop dp un gd cn cs L a ccd cl outer) (call (.ref 115) [.ref lp, .str x t]) Q E s := by
  k_with_none
  k_with "execs cons" => (k_here; (with_reducible refine wpAny_execs_cons ?_); (try dsimp only); (try k_fold))
  k_with "exec For Name Name cons nil" => (k_here; (rename Fr _ _ _ _ => lF'); (with_unfolding_all refine' For_turns lF' ?_; k_whole))
  k_with "compareOp NotEq ref ref" => (k_here; (with_reducible show wpAny _ _ (compareOp CmpOp.NotEq (Value.ref _) (Value.ref _)) _ _ _); k_dflt (refine ke_ne_ints (by is_list) (by is_list) (by l_ints) (by l_ints) (by ktr_units) ?_); ke_norm)
  k_with "call type:list" => (k_here; (with_reducible show wpAny _ _ (call (Value.type _) [Value.ref _]) _ _ _); (rename IsRange _ _ _ _ _ _ _ _ => rgX); (try simp only [Int.toNat_zero, List.getD_cons_zero, Int.zero_add] at rgX); (rename Fr _ _ _ _ => lF); (rename News _ _ _ _ => lN); (with_unfolding_all refine kll_range (by rfl) lF lN rgX (small_one (by omega) (by omega) (by omega) (by omega)) (rangeSize_nat _ _) (by omega) ?_); intro D' us' c' h' tk' F' N' l1 hI'; (try k_lt l1); (try k_sweep))
  k_with "newList" => (k_here; (with_reducible refine' newList_K ?w9k1 ?w9k2 ?_ ?w9z; (case w9z => exact Nat.le_of_ble_eq_true rfl); (case w9k1 => k_asm); (case w9k2 => k_asm); k_whole); intro l' h' F' N' l1; (try k_lt l1); (try k_sweep))
  k_with "subscriptTail Name UnaryOp str int" => (k_here; (refine KXi.item (n := 1) (by decide +kernel) (by decide) (by decide) (by decide) ?_); intro kxiE)
  k_with "CompEnd" => lcg_end
  k_with "subscriptTail" => (k_here; (with_reducible show wpAny _ _ (subscriptTail _ _ (Value.str _ _) (Value.int _ _)) _ _ _); (refine KXi.item rfl (by omega) (by omega) (by omega) ?_); intro kxiE)
  have hlen := words_len x hx
  k_dflt (refine' enterC ?k1 ?k2 ?k3 ?k4 ?k5 ?kA ?kF ?kK ?k6 ?k7 ?k8 ?k9 ?kB ?kD ?_ ?c2 ?c3 ?c4; (case kA => exact rfl); (case kF => exact rfl); (case kK => assumption); (case k1 => k_asm); (case k2 => k_asm); (case k3 => k_asm); (case k4 => k_asm); (case k5 => k_asm); (case k6 => k_is); (case k7 => k_is); (case k8 => ktr_room); (case k9 => exact BindsTo.of_eq rfl); (case kB => exact rfl); (case kD => decide +kernel); (case c2 => exact rfl); (case c3 => exact rfl); (case c4 => exact rfl); k_whole; intro g' L' h' tk' cells' R' F' N' Y' B' X' T' l1; (try k_lt l1); k_cells Y'; (try simp only [List.cons_append, List.nil_append] at N'); (try dsimp only); (try k_fold))
  k_steps
  all_goals (refine ret_bool (s := s) hret ?_ ?k; (case k => exact one_stays (by assumption) (by k_asm) N (by k_asm) (by k_mem)); first | exact tk3_o x hx (by assumption) | exact tk3_f x hx (by assumption) (by assumption) | exact tk3_t x hx (by assumption) (by assumption))
end

theorem tk1_a : ∀ x ∈ words, (Txt.slice x (some 0) (some (0 + 1)) == Txt.item (Str.ofString "\"") (-1)) = true → true = tk1 x := by decide +kernel
theorem tk1_b : ∀ x ∈ words, (Txt.slice x (some 1) (some (1 + 1)) == Txt.item (Str.ofString "\"") (-1)) = true → true = tk1 x := by decide +kernel
theorem tk1_0 : ∀ x ∈ words, x.length = 0 → false = tk1 x := by decide +kernel
theorem tk1_1 : ∀ x ∈ words, x.length = 1 → (Txt.slice x (some 0) (some (0 + 1)) == Txt.item (Str.ofString "\"") (-1)) = false → false = tk1 x := by decide +kernel
theorem tk1_2 : ∀ x ∈ words, (Txt.slice x (some 0) (some (0 + 1)) == Txt.item (Str.ofString "\"") (-1)) = false → (Txt.slice x (some 1) (some (1 + 1)) == Txt.item (Str.ofString "\"") (-1)) = false → false = tk1 x := by decide +kernel
theorem no_q0 : ∀ x ∈ words, x.length = 0 → (Txt.slice x (some 0) (some (0 + 1)) == Txt.item (Str.ofString "\"") (-1)) = false := by decide +kernel
theorem no_q1 : ∀ x ∈ words, x.length = 1 → (Txt.slice x (some 1) (some (1 + 1)) == Txt.item (Str.ofString "\"") (-1)) = false := by decide +kernel
theorem no_q2 : ∀ x ∈ words, x.length = 2 → (Txt.slice x (some 2) (some (2 + 1)) == Txt.item (Str.ofString "\"") (-1)) = false := by decide +kernel
section
variable {w : World} {p : Program} {loose : List Str} {mean : ExcName → Option Value} {mg mb : Str → Option Value} {dp un : Nat} {gd : Option (List Code)} {cn : Str} {cs : Scope} {a : Addr} {ccd : Value} {cl : List (Str × Addr)} {outer : List Env} {A₀ : Around} {base h₀ : Heap} {L : Addr} {m : Str → Option Value} {news : List (Addr × Obj)} {s : Shared}
    {Q E : Value → Shared → Prop}
theorem my_list {l : Addr} {ab b : Int} {t0 u0 v0 : Tok} {A : Around} (ks : List Int) (hh : A.handled = none) (F : Fr h₀ L s.heap m) (N : News h₀ L s.heap news) (hr : IsRange s.heap l ab b 1 t0 u0 v0) (hsmall : Builtin.Range.small ab b 1 = true) (n : Nat) (hn : Builtin.Range.rangeSize ab b 1 = (n : Int)) (hz : n ≤ 2 ^ 24) (hks : rangeKs ab n = ks)
    (h : ∀ D us c h' tk, Fr h₀ L h' m → News h₀ L h' ((D, listOf (List.toArray us) c) :: news) → (∀ p ∈ news, p.1 < D) → IntsAre us ks → Q (.ref D) { s with heap := h', toks := tk }) :
    wpAny (model PG w) A (call (.type "list") [.ref l]) Q E s := by
  subst hks
  exact kll_range hh F N hr hsmall hn hz h
local macro_rules | `(tactic| lcg_off) => `(tactic| first | (simp only [LCg.Off3, and_true]; assumption) | exact True.intro | (refine And.intro ⟨by k_ne, by k_ne, by k_ne⟩ ?_; lcg_off))
local macro_rules | `(tactic| ktu_off) => `(tactic| first | exact Or.inr (by k_cls) | exact Or.inr (ktu_clsNe (by assumption) (by k_cls)) | exact Or.inl (by k_ne))
theorem takes1_0 {x : Str} {t t1 t2 t3 : Tok} {lp : Addr} {nn : Nat} (B : Below A₀ base outer h₀) (F : Fr h₀ L s.heap m) (X : (hd.heap_39 w.params).In h₀) (T : Top p loose mean mg mb h₀) (hk : cs.kind = .function) (N : News h₀ L s.heap [(lp, listOf #[.str (Str.ofString "*") t1, .str (Str.ofString "\"") t2, .str (Str.ofString "*") t3] nn)])
    (hd' : dp + 2 < recursionLimit) (_hu : un + 400 < cLine) (hx : x ∈ words) (hl : x.length = 0)
    (hret : ∀ (h' : Heap) (tk' : Nat), s.heap.StaysIn h' → Q (.bool (tk1 x)) { s with heap := h', toks := tk' }) :
    wpAny (model PG w) (ktrTop dp un gd cn cs L a ccd cl outer) (call (.ref 115) [.ref lp, .str x t]) Q E s := by
  k_with_none
  k_with "execs cons" => (k_here; (with_reducible refine wpAny_execs_cons ?_); (try dsimp only); (try k_fold))
  k_with "exec For Name Name cons nil" => (k_here; (rename Fr _ _ _ _ => lF'); (with_unfolding_all refine' For_turns lF' ?_; k_whole))
  k_with "compareOp NotEq ref ref" => (k_here; (with_reducible show wpAny _ _ (compareOp CmpOp.NotEq (Value.ref _) (Value.ref _)) _ _ _); k_dflt (refine ke_ne_ints (by is_list) (by is_list) (by l_ints) (by l_ints) (by ktr_units) ?_); ke_norm)
  k_with "call type:list" => (k_here; (with_reducible show wpAny _ _ (call (Value.type _) [Value.ref _]) _ _ _); (rename IsRange _ _ _ _ _ _ _ _ => rgX); (rename Fr _ _ _ _ => lF); (rename News _ _ _ _ => lN); (first | (with_unfolding_all refine my_list [0] (by rfl) lF lN rgX (by decide) 1 (by decide) (by decide) (by decide) ?_) | (with_unfolding_all refine my_list [0, 1] (by rfl) lF lN rgX (by decide) 2 (by decide) (by decide) (by decide) ?_) | (with_unfolding_all refine my_list [0, 1, 2] (by rfl) lF lN rgX (by decide) 3 (by decide) (by decide) (by decide) ?_) | (with_unfolding_all refine my_list [1] (by rfl) lF lN rgX (by decide) 1 (by decide) (by decide) (by decide) ?_) | (with_unfolding_all refine my_list [1, 2] (by rfl) lF lN rgX (by decide) 2 (by decide) (by decide) (by decide) ?_) | (with_unfolding_all refine my_list [2] (by rfl) lF lN rgX (by decide) 1 (by decide) (by decide) (by decide) ?_)); intro D' us' c' h' tk' F' N' l1 hI'; (try k_lt l1); regloopunroll_open; (try k_sweep))
  k_with "call builtin:len" => (k_here; (with_reducible show wpAny _ _ (call (Value.builtin "len") [Value.str _ _]) _ _ _); (refine' len_writK _ ?w9k1 ?w9k2 ?_; (case w9k1 => assumption); (case w9k2 => decide)))
  k_with "newList" => (k_here; (with_reducible refine' newList_K ?w9k1 ?w9k2 ?_ ?w9z; (case w9z => exact Nat.le_of_ble_eq_true rfl); (case w9k1 => k_asm); (case w9k2 => k_asm); k_whole); intro l' h' F' N' l1; (try k_lt l1); (try k_sweep))
  k_with "subscriptTail Name UnaryOp str int" => (k_here; (refine KXi.item (n := 1) (by decide +kernel) (by decide) (by decide) (by decide) ?_); intro kxiE)
  k_with "CompEnd" => lcg_end
  have hlen := words_len x hx
  have hn0 : (Txt.slice x (some 0) (some (0 + 1)) == Txt.item (Str.ofString "\"") (-1)) = false := no_q0 x hx hl
  k_dflt (refine' enterC ?k1 ?k2 ?k3 ?k4 ?k5 ?kA ?kF ?kK ?k6 ?k7 ?k8 ?k9 ?kB ?kD ?_ ?c2 ?c3 ?c4; (case kA => exact rfl); (case kF => exact rfl); (case kK => assumption); (case k1 => k_asm); (case k2 => k_asm); (case k3 => k_asm); (case k4 => k_asm); (case k5 => k_asm); (case k6 => k_is); (case k7 => k_is); (case k8 => ktr_room); (case k9 => exact BindsTo.of_eq rfl); (case kB => exact rfl); (case kD => decide +kernel); (case c2 => exact rfl); (case c3 => exact rfl); (case c4 => exact rfl); k_whole; intro g' L' h' tk' cells' R' F' N' Y' B' X' T' l1; (try k_lt l1); k_cells Y'; (try simp only [List.cons_append, List.nil_append] at N'); (try dsimp only); (try k_fold))
  k_steps
  all_goals (refine ret_bool (s := s) hret ?_ ?k; (case k => exact one_stays (by assumption) (by k_asm) N (by k_asm) (by k_mem)); first | exact tk1_a x hx (by assumption) | exact tk1_b x hx (by assumption) | exact tk1_0 x hx hl | exact tk1_1 x hx hl (by assumption) | exact tk1_2 x hx (by assumption) (by assumption))
theorem takes1_1 {x : Str} {t t1 t2 t3 : Tok} {lp : Addr} {nn : Nat} (B : Below A₀ base outer h₀) (F : Fr h₀ L s.heap m) (X : (hd.heap_39 w.params).In h₀) (T : Top p loose mean mg mb h₀) (hk : cs.kind = .function) (N : News h₀ L s.heap [(lp, listOf #[.str (Str.ofString "*") t1, .str (Str.ofString "\"") t2, .str (Str.ofString "*") t3] nn)])
    (hd' : dp + 2 < recursionLimit) (_hu : un + 400 < cLine) (hx : x ∈ words) (hl : x.length = 1)
    (hret : ∀ (h' : Heap) (tk' : Nat), s.heap.StaysIn h' → Q (.bool (tk1 x)) { s with heap := h', toks := tk' }) :
    wpAny (model PG w) (ktrTop dp un gd cn cs L a ccd cl outer) (call (.ref 115) [.ref lp, .str x t]) Q E s := by
  k_with_none
  k_with "execs cons" => (k_here; (with_reducible refine wpAny_execs_cons ?_); (try dsimp only); (try k_fold))
  k_with "exec For Name Name cons nil" => (k_here; (rename Fr _ _ _ _ => lF'); (with_unfolding_all refine' For_turns lF' ?_; k_whole))
  k_with "compareOp NotEq ref ref" => (k_here; (with_reducible show wpAny _ _ (compareOp CmpOp.NotEq (Value.ref _) (Value.ref _)) _ _ _); k_dflt (refine ke_ne_ints (by is_list) (by is_list) (by l_ints) (by l_ints) (by ktr_units) ?_); ke_norm)
  k_with "call type:list" => (k_here; (with_reducible show wpAny _ _ (call (Value.type _) [Value.ref _]) _ _ _); (rename IsRange _ _ _ _ _ _ _ _ => rgX); (rename Fr _ _ _ _ => lF); (rename News _ _ _ _ => lN); (first | (with_unfolding_all refine my_list [0] (by rfl) lF lN rgX (by decide) 1 (by decide) (by decide) (by decide) ?_) | (with_unfolding_all refine my_list [0, 1] (by rfl) lF lN rgX (by decide) 2 (by decide) (by decide) (by decide) ?_) | (with_unfolding_all refine my_list [0, 1, 2] (by rfl) lF lN rgX (by decide) 3 (by decide) (by decide) (by decide) ?_) | (with_unfolding_all refine my_list [1] (by rfl) lF lN rgX (by decide) 1 (by decide) (by decide) (by decide) ?_) | (with_unfolding_all refine my_list [1, 2] (by rfl) lF lN rgX (by decide) 2 (by decide) (by decide) (by decide) ?_) | (with_unfolding_all refine my_list [2] (by rfl) lF lN rgX (by decide) 1 (by decide) (by decide) (by decide) ?_)); intro D' us' c' h' tk' F' N' l1 hI'; (try k_lt l1); regloopunroll_open; (try k_sweep))
  k_with "call builtin:len" => (k_here; (with_reducible show wpAny _ _ (call (Value.builtin "len") [Value.str _ _]) _ _ _); (refine' len_writK _ ?w9k1 ?w9k2 ?_; (case w9k1 => assumption); (case w9k2 => decide)))
  k_with "newList" => (k_here; (with_reducible refine' newList_K ?w9k1 ?w9k2 ?_ ?w9z; (case w9z => exact Nat.le_of_ble_eq_true rfl); (case w9k1 => k_asm); (case w9k2 => k_asm); k_whole); intro l' h' F' N' l1; (try k_lt l1); (try k_sweep))
  k_with "subscriptTail Name UnaryOp str int" => (k_here; (refine KXi.item (n := 1) (by decide +kernel) (by decide) (by decide) (by decide) ?_); intro kxiE)
  k_with "CompEnd" => lcg_end
  have hlen := words_len x hx
  have hn1 : (Txt.slice x (some 1) (some (1 + 1)) == Txt.item (Str.ofString "\"") (-1)) = false := no_q1 x hx hl
  k_dflt (refine' enterC ?k1 ?k2 ?k3 ?k4 ?k5 ?kA ?kF ?kK ?k6 ?k7 ?k8 ?k9 ?kB ?kD ?_ ?c2 ?c3 ?c4; (case kA => exact rfl); (case kF => exact rfl); (case kK => assumption); (case k1 => k_asm); (case k2 => k_asm); (case k3 => k_asm); (case k4 => k_asm); (case k5 => k_asm); (case k6 => k_is); (case k7 => k_is); (case k8 => ktr_room); (case k9 => exact BindsTo.of_eq rfl); (case kB => exact rfl); (case kD => decide +kernel); (case c2 => exact rfl); (case c3 => exact rfl); (case c4 => exact rfl); k_whole; intro g' L' h' tk' cells' R' F' N' Y' B' X' T' l1; (try k_lt l1); k_cells Y'; (try simp only [List.cons_append, List.nil_append] at N'); (try dsimp only); (try k_fold))
  k_steps
  all_goals (refine ret_bool (s := s) hret ?_ ?k; (case k => exact one_stays (by assumption) (by k_asm) N (by k_asm) (by k_mem)); first | exact tk1_a x hx (by assumption) | exact tk1_b x hx (by assumption) | exact tk1_0 x hx hl | exact tk1_1 x hx hl (by assumption) | exact tk1_2 x hx (by assumption) (by assumption))
theorem takes1_2 {x : Str} {t t1 t2 t3 : Tok} {lp : Addr} {nn : Nat} (B : Below A₀ base outer h₀) (F : Fr h₀ L s.heap m) (X : (hd.heap_39 w.params).In h₀) (T : Top p loose mean mg mb h₀) (hk : cs.kind = .function) (N : News h₀ L s.heap [(lp, listOf #[.str (Str.ofString "*") t1, .str (Str.ofString "\"") t2, .str (Str.ofString "*") t3] nn)])
    (hd' : dp + 2 < recursionLimit) (_hu : un + 400 < cLine) (hx : x ∈ words) (hl : x.length = 2)
    (hret : ∀ (h' : Heap) (tk' : Nat), s.heap.StaysIn h' → Q (.bool (tk1 x)) { s with heap := h', toks := tk' }) :
    wpAny (model PG w) (ktrTop dp un gd cn cs L a ccd cl outer) (call (.ref 115) [.ref lp, .str x t]) Q E s := by
  k_with_none
  k_with "execs cons" => (k_here; (with_reducible refine wpAny_execs_cons ?_); (try dsimp only); (try k_fold))
  k_with "exec For Name Name cons nil" => (k_here; (rename Fr _ _ _ _ => lF'); (with_unfolding_all refine' For_turns lF' ?_; k_whole))
  k_with "compareOp NotEq ref ref" => (k_here; (with_reducible show wpAny _ _ (compareOp CmpOp.NotEq (Value.ref _) (Value.ref _)) _ _ _); k_dflt (refine ke_ne_ints (by is_list) (by is_list) (by l_ints) (by l_ints) (by ktr_units) ?_); ke_norm)
  k_with "call type:list" => (k_here; (with_reducible show wpAny _ _ (call (Value.type _) [Value.ref _]) _ _ _); (rename IsRange _ _ _ _ _ _ _ _ => rgX); (rename Fr _ _ _ _ => lF); (rename News _ _ _ _ => lN); (first | (with_unfolding_all refine my_list [0] (by rfl) lF lN rgX (by decide) 1 (by decide) (by decide) (by decide) ?_) | (with_unfolding_all refine my_list [0, 1] (by rfl) lF lN rgX (by decide) 2 (by decide) (by decide) (by decide) ?_) | (with_unfolding_all refine my_list [0, 1, 2] (by rfl) lF lN rgX (by decide) 3 (by decide) (by decide) (by decide) ?_) | (with_unfolding_all refine my_list [1] (by rfl) lF lN rgX (by decide) 1 (by decide) (by decide) (by decide) ?_) | (with_unfolding_all refine my_list [1, 2] (by rfl) lF lN rgX (by decide) 2 (by decide) (by decide) (by decide) ?_) | (with_unfolding_all refine my_list [2] (by rfl) lF lN rgX (by decide) 1 (by decide) (by decide) (by decide) ?_)); intro D' us' c' h' tk' F' N' l1 hI'; (try k_lt l1); regloopunroll_open; (try k_sweep))
  k_with "call builtin:len" => (k_here; (with_reducible show wpAny _ _ (call (Value.builtin "len") [Value.str _ _]) _ _ _); (refine' len_writK _ ?w9k1 ?w9k2 ?_; (case w9k1 => assumption); (case w9k2 => decide)))
  k_with "newList" => (k_here; (with_reducible refine' newList_K ?w9k1 ?w9k2 ?_ ?w9z; (case w9z => exact Nat.le_of_ble_eq_true rfl); (case w9k1 => k_asm); (case w9k2 => k_asm); k_whole); intro l' h' F' N' l1; (try k_lt l1); (try k_sweep))
  k_with "subscriptTail Name UnaryOp str int" => (k_here; (refine KXi.item (n := 1) (by decide +kernel) (by decide) (by decide) (by decide) ?_); intro kxiE)
  k_with "CompEnd" => lcg_end
  have hlen := words_len x hx
  have hn2 : (Txt.slice x (some 2) (some (2 + 1)) == Txt.item (Str.ofString "\"") (-1)) = false := no_q2 x hx hl
  k_dflt (refine' enterC ?k1 ?k2 ?k3 ?k4 ?k5 ?kA ?kF ?kK ?k6 ?k7 ?k8 ?k9 ?kB ?kD ?_ ?c2 ?c3 ?c4; (case kA => exact rfl); (case kF => exact rfl); (case kK => assumption); (case k1 => k_asm); (case k2 => k_asm); (case k3 => k_asm); (case k4 => k_asm); (case k5 => k_asm); (case k6 => k_is); (case k7 => k_is); (case k8 => ktr_room); (case k9 => exact BindsTo.of_eq rfl); (case kB => exact rfl); (case kD => decide +kernel); (case c2 => exact rfl); (case c3 => exact rfl); (case c4 => exact rfl); k_whole; intro g' L' h' tk' cells' R' F' N' Y' B' X' T' l1; (try k_lt l1); k_cells Y'; (try simp only [List.cons_append, List.nil_append] at N'); (try dsimp only); (try k_fold))
  k_steps
  all_goals (refine ret_bool (s := s) hret ?_ ?k; (case k => exact one_stays (by assumption) (by k_asm) N (by k_asm) (by k_mem)); first | exact tk1_a x hx (by assumption) | exact tk1_b x hx (by assumption) | exact tk1_0 x hx hl | exact tk1_1 x hx hl (by assumption) | exact tk1_2 x hx (by assumption) (by assumption))
theorem takes1 {x : Str} {t t1 t2 t3 : Tok} {lp : Addr} {nn : Nat} (B : Below A₀ base outer h₀) (F : Fr h₀ L s.heap m) (X : (hd.heap_39 w.params).In h₀) (T : Top p loose mean mg mb h₀) (hk : cs.kind = .function) (N : News h₀ L s.heap [(lp, listOf #[.str (Str.ofString "*") t1, .str (Str.ofString "\"") t2, .str (Str.ofString "*") t3] nn)])
    (hd' : dp + 2 < recursionLimit) (hu : un + 400 < cLine) (hx : x ∈ words)
    (hret : ∀ (h' : Heap) (tk' : Nat), s.heap.StaysIn h' → Q (.bool (tk1 x)) { s with heap := h', toks := tk' }) :
    wpAny (model PG w) (ktrTop dp un gd cn cs L a ccd cl outer) (call (.ref 115) [.ref lp, .str x t]) Q E s := by
  have hlen := words_len x hx
  rcases (by omega : x.length = 0 ∨ x.length = 1 ∨ x.length = 2) with hl | hl | hl
  · exact takes1_0 B F X T hk N hd' hu hx hl hret
  · exact takes1_1 B F X T hk N hd' hu hx hl hret
  · exact takes1_2 B F X T hk N hd' hu hx hl hret
end

section
open PySem.W.X PySem.W.XRun
variable {w : World} {s : Shared} {Q E : Value → Shared → Prop} {A : Around}
abbrev bmeth (id : String) (v : Value) : Obj := ⟨.type "builtin_function_or_method", none, .fields #[.builtin id, v], #[]⟩
theorem mem_stays {h h' : Heap} {news : List (Addr × Obj)} (D : Mem h h' [] news) : h.StaysIn h' := fun b o e => D.keep b o e (by simp [away])
local macro_rules | `(tactic| x_close) => `(tactic| k_extra "XEND")
theorem x_ga {l : Addr} {vs : Array Value} {n : Nat} {t : Tok} (hl : s.heap.get? l = some (listOf vs n))
    (hret : ∀ (q : Addr) (h' : Heap) (tk' : Nat), s.heap.StaysIn h' → h'.get? q = some (bmeth "list.append" (.ref l)) → s.heap.get? q = none → Q (.ref q) { s with heap := h', toks := tk' }) :
    wpAny (model PG w) A (call (.builtin "list.__getattribute__") [.ref l, .str (Str.ofString "append") t]) Q E s := by
  have hl2 : s.heap.get? l = some ⟨.type "list", none, .seq vs n, #[]⟩ := hl
  k_with "XEND" => (rename Mem _ _ _ _ => D; exact hret _ _ _ (mem_stays D) (D.nw _ (.head _)).1 (D.nw _ (.head _)).2)
  x_run
theorem bound_append {q D : Addr} {x : Value} {its : Array Value} {n : Nat} (ho : s.heap.get? q = some (bmeth "list.append" (.ref D))) (hD : s.heap.get? D = some (listOf its n)) (hs : its.size ≤ sizeLine)
    (h : ∀ h', Heap.SameBut D s.heap h' → h'.get? D = some (listOf (its.push x) (n + 1)) → Q .none { s with heap := h' }) :
    wpAny (model PG w) A (call (.ref q) [x]) Q E s := by
  refine wpAny_call (codeAny_of_tree ?_)
  show wpAny _ A.in1 (callAny (.ref q) ⟨[x], []⟩) _ _ s
  simp only [callAny]
  refine wpAny_bind (wpAny_load ho ?_)
  show wpAny _ _ (checkBoundCall "list.append" ⟨[.ref D, x], []⟩ >>= fun _ => again (.builtin "list.append" ⟨[.ref D, x], []⟩)) _ _ s
  obtain ⟨hh, g, d, tk, os⟩ := s
  have hT : (⟨hh, g, d, tk, os⟩ : Shared).TypeIs (.ref D) "list" := ⟨_, hD, rfl⟩
  have hs1 : isSubtype (.type "list") (.type "module") = pure false := by rw [isSubtype_type]; kernel_rfl
  repeat (any_goals (first | assumption | wp_step))
  refine ⟨Code.quiet_builtin _ (by decide +kernel), codeAny_builtin entry_list_append ?_⟩
  show wpAny _ _ (updateSeq D (·.push x) >>= fun _ => ret .none) _ _ _
  refine wpAny_bind (wpAny_updateSeq hD rfl (wpAny_pure ?_))
  refine h _ (Heap.SameBut.update ..) ?_
  rw [Heap.get?_update_self _ hD (by rw [mapSeq_push]; rfl), mapSeq_push]
theorem getAttr_list {D : Addr} {x : Str} {vs : Array Value} {n : Nat} (ex : Bool) (hD : s.heap.get? D = some (listOf vs n))
    (h : wpAny (model PG w) A (call (.builtin "list.__getattribute__") [.ref D, .str x s.toks]) (fun v s' => wpAny (model PG w) A (handedOut v) Q E s') (fun _ _ => False) { s with toks := s.toks + 1 }) : wpAny (model PG w) A (getAttr (.ref D) x ex) Q E s := by
  obtain ⟨hh, g, d, tk, os⟩ := s
  have hT : (⟨hh, g, d, tk, os⟩ : Shared).TypeIs (.ref D) "list" := ⟨_, hD, rfl⟩
  have f2 := F.slot_list_getattribute.lookup
  have f3 := F.slot_list_getattribute.bind (.ref D)
  unfold getAttr
  repeat (any_goals (first | assumption | wp_step))
  rw [show (ex && onTheHeap (Value.builtin "list.__getattribute__")) = false from by cases ex <;> rfl]
  simp only [Bool.false_eq_true, if_false]
  unfold boundAndCalled
  rw [f3]
  refine wpAny_bind (wpAny_pure ?_)
  refine wpAny_mono h (fun v s' hv => ?_) (fun _ _ hx => hx.elim)
  exact hv
def AllNe (d : Addr) : List (Addr × Obj) → Prop
  | [] => True
  | p :: r => @Ne Nat p.1 d ∧ AllNe d r
theorem allNe_of {d : Addr} : ∀ {l : List (Addr × Obj)}, (∀ p ∈ l, p.1 ≠ d) → AllNe d l
  | [], _ => trivial
  | p :: _, h => ⟨h p (.head _), allNe_of fun q hq => h q (.tail _ hq)⟩
end
section
variable {w : World} {s : Shared} {Q E : Value → Shared → Prop} {A : Around} {h₀ : Heap} {L : Addr} {m : Str → Option Value} {news news' : List (Addr × Obj)}
theorem attr_append_K {D : Addr} {vs : Array Value} {n : Nat} (F : Fr h₀ L s.heap m) (N : News h₀ L s.heap news) (hm : (D, listOf vs n) ∈ news)
    (h : ∀ q h' tk', Fr h₀ L h' m → News h₀ L h' ((q, bmeth "list.append" (.ref D)) :: news) → (∀ p ∈ news, p.1 ≠ q) → Q (.ref q) { s with heap := h', toks := tk' }) : wpAny (model PG w) A (getAttr (.ref D) (Str.ofString "append") true) Q E s :=
  getAttr_list true (N _ hm).1 (x_ga (N _ hm).1 fun q h' tk' k ho hn => handed_on rfl (h q h' tk' (fr_stays k F) (fun p hp => by
    rcases List.mem_cons.mp hp with rfl | hp
    · refine ⟨ho, fun e => ?_, ?_⟩
      · obtain ⟨o, es, ep, e2, r⟩ := F.ns
        rw [show L = q from e.symm, hn] at e2; cases e2
      · cases e : h₀.get? q with
        | none => rfl
        | some o => have := F.keep _ _ e; rw [hn] at this; cases this
    · exact news_stays k N p hp) fun p hp e => by have := (N p hp).1; rw [e, hn] at this; cases this))
theorem bound_append_K {q D : Addr} {its : Array Value} {n : Nat} {x : Value} (F : Fr h₀ L s.heap m) (N : News h₀ L s.heap news) (hq : (q, bmeth "list.append" (.ref D)) ∈ news) (U : Upd D (listOf its n) (listOf (its.push x) (n + 1)) news news')
    (h : ∀ h', Fr h₀ L h' m → News h₀ L h' news' → Q .none { s with heap := h' }) (hsz : its.size ≤ sizeLine) : wpAny (model PG w) A (call (.ref q) [x]) Q E s := by
  obtain ⟨pre, post, rfl, rfl, a, b⟩ := U.split
  have z := N (D, listOf its n) (List.mem_append.mpr (.inr (.head _)))
  exact bound_append (N _ hq).1 z.1 hsz fun h' hs ho' => h h' (F.change hs z.2.1 z.2.2) (news_set N a b hs ho')
theorem keeps_B {M : Model} {id : String} {q : Addr} {self : Value} (h : Heap) (X : h.get? q = some (bmeth id self)) : ∃ k, (k = Keeper.frame ∨ k = Keeper.machine ∨ k = Keeper.boundFrame) ∧ Looks M h (keeperOf (.ref q)) k :=
  ⟨.machine, .inr (.inl rfl), (Looks.ld (part := none) X).andThen .now⟩
theorem callWith_B {env : Env} {pos : Pos} {first : List Value} {id : String} {q : Addr} {self : Value} {e : Expr} {rest : List Expr} (_N : News h₀ L s.heap news) (_q : (q, bmeth id self) ∈ news)
    (h : wpAny (model PG w) A (spliced (backTo pos (starEach (e :: rest) env))) (fun vs s₁ => s₁.heap.get? q = some (bmeth id self) ∧ wpAny (model PG w) A (call (.ref q) (first ++ vs)) Q E s₁) E s)
    (he : starEach (e :: rest) env = (false, eval e env) :: starEach rest env := by rfl) (hplain : (backTo pos (starEach rest env)).any (·.1) = false := by rfl) :
    wpAny (model PG w) A (callWith pos (.ref q) first (backTo pos (starEach (e :: rest) env)) []) Q E s := by
  rw [he] at h ⊢
  exact callWith_of (by show ((false || (backTo pos (starEach rest env)).any (·.1)) || false) = false; rw [hplain]; rfl) keeps_B (evalArgs_plain h)
end

section
def TokLow (_ : Nat) : Prop := True
theorem gen_toks {M : Model} {A : Around} {α : Type} {t : Sem α} {Q : α → Shared → Prop} {E : Value → Shared → Prop} {h : Heap} {g d os} {a b n : Nat} (_lo : TokLow n) (hn : n ≤ a + b)
    (k : ∀ tk : Nat, n ≤ tk → wpAny M A t Q E ⟨h, g, d, tk, os⟩) : wpAny M A t Q E ⟨h, g, d, a + b, os⟩ := k _ hn
end
section
variable {w : World} {s : Shared} {Q E : Value → Shared → Prop} {A : Around}
def intKeys (es : Array DictEntry) : Bool := es.toList.all fun e => match e.key with | .int k _ => e.hash == hashInt k | _ => false
theorem keysOf_of {es : Array DictEntry} (h : intKeys es = true) : KeysOf (intKind PG w) es := fun e he => by
  have := List.all_eq_true.mp h e (by simpa using he)
  split at this
  · rename_i k t hk
    exact ⟨k, by rw [hk]; exact intKind_is _ _ _ _, by simpa [intKind] using this⟩
  · cases this
theorem map70 (KX : (hd.heap_39 w.params).In s.heap) : ∃ f, s.heap.MapOf (intKind PG w) 70 f ∧ f 97 = none ∧ f 34 = none := by
  have h := KX 70 _ rfl
  exact ⟨_, ⟨_, _, _, h, ⟨rfl, rfl, rfl⟩, rfl, keysOf_of (by decide +kernel), fun _ => rfl⟩, rfl, rfl⟩
theorem tl_keep {c : Nat} {f : Int → Option Value} {Q : Builtin.Str.Mapped → Shared → Prop} (hm : s.heap.MapOf (intKind PG w) 70 f) (hf : f c = none) (hh : A.handled = none)
    (h : ∀ h' tk', s.heap.StaysIn h' → Q .keep { s with heap := h', toks := tk' }) : wpAny (model PG w) A (Builtin.Str.tableLookup (.ref 70) c) Q E s := by
  unfold Builtin.Str.tableLookup
  obtain ⟨hh0, g, d, tk, os⟩ := s
  refine wpAny_bind (wpAny_attempt (wpAny_bind (wpAny_mkInt' ?_)))
  refine wpAny_getItem_missing_of (k := (c : Int)) (intKind_is _ _ _ _) (by decide) hh hm hf fun h' e hE => ?_
  have hs1 : isSubtype (.type "KeyError") (.type "LookupError") = pure true := by rw [isSubtype_type]; kernel_rfl
  refine wpAny_bind (wpAny_isInstance (T := "KeyError") ?_ hs1 ?_)
  · obtain ⟨ob, _, e1, e2, _⟩ := hE.there
    exact ⟨ob, e1, e2⟩
  · exact wpAny_bind (wpAny_rule (wpAny_pure (h _ _ hE.keeps)))
theorem tl_keepT {c : Nat} {f : Int → Option Value} {Q : Builtin.Str.Mapped → Shared → Prop} (hm : s.heap.MapOf (intKind PG w) 70 f) (hf : f c = none) (hh : A.handled = none)
    (h : ∀ h' tk', @LE.le Nat _ s.toks tk' → s.heap.StaysIn h' → Q .keep { s with heap := h', toks := tk' }) : wpAny (model PG w) A (Builtin.Str.tableLookup (.ref 70) c) Q E s :=
  wpAny_with_toks (Nat.le_refl _) (tl_keep hm hf hh fun h' tk' k hto => h h' tk' hto k)
theorem tr_one {x : Str} {t : Tok} (hx : x = Str.ofString "a" ∨ x = Str.ofString "\"") (hh : A.handled = none) (KX : (hd.heap_39 w.params).In s.heap)
    (h : ∀ t h' tk', @LE.le Nat _ s.toks t → s.heap.StaysIn h' → Q (.str x t) { s with heap := h', toks := tk' }) : wpAny (model PG w) A (call (.builtin "str.translate") [.str x t, .ref 70]) Q E s := by
  obtain ⟨f, hm, h97, h34⟩ := map70 KX
  refine wpAny_call_entry PySem.F.slot_str_translate (typeIs_str _ _ _) PySem.F.entry_str_translate ?_ (PySem.F.args_str_translate_2 _ _)
  unfold Builtin.«str.translate»
  obtain ⟨hh0, g, d, tk, os⟩ := s
  rcases hx with rfl | rfl
  · repeat (any_goals (first | assumption | wp_step))
    rw [if_pos (by decide +kernel)]
    dsimp only [List.lookup]
    refine wpAny_bind (tl_keepT hm (show f 97 = none from h97) hh fun h' tk' hto k => ?_)
    dsimp only
    repeat (any_goals (first | assumption | wp_step))
    exact ⟨_, rfl, h _ _ _ (by dsimp only at hto ⊢; omega) k⟩
  · repeat (any_goals (first | assumption | wp_step))
    rw [if_pos (by decide +kernel)]
    dsimp only [List.lookup]
    refine wpAny_bind (tl_keepT hm (show f 34 = none from h34) hh fun h' tk' hto k => ?_)
    dsimp only
    repeat (any_goals (first | assumption | wp_step))
    exact ⟨_, rfl, h _ _ _ (by dsimp only at hto ⊢; omega) k⟩
end
section
variable {w : World} {p : Program} {loose : List Str} {mean : ExcName → Option Value} {mg mb : Str → Option Value} {dp un : Nat} {gd : Option (List Code)} {cn : Str} {cs : Scope} {a : Addr} {ccd : Value} {cl : List (Str × Addr)} {outer : List Env} {A₀ : Around} {base h₀ : Heap} {L : Addr} {m : Str → Option Value} {news : List (Addr × Obj)} {s : Shared}
    {Q E : Value → Shared → Prop}
theorem tr_K {A : Around} {x : Str} {t : Tok} (hx : x = Str.ofString "a" ∨ x = Str.ofString "\"") (hh : A.handled = none) (X : (hd.heap_39 w.params).In h₀) (F : Fr h₀ L s.heap m) (N : News h₀ L s.heap news)
    (h : ∀ t h' tk', @LE.le Nat _ s.toks t → Fr h₀ L h' m → News h₀ L h' news → Q (.str x t) { s with heap := h', toks := tk' }) : wpAny (model PG w) A (call (.builtin "str.translate") [.str x t, .ref 70]) Q E s :=
  tr_one hx hh (X.keeps F.keep) fun t h' tk' hto k => h t h' tk' hto (fr_stays k F) (news_stays k N)
theorem getM_tr {M : Model} {A : Around} {pl : Sem Bool} {x : Str} {t : Tok} {Q : Value × List Value → Shared → Prop} (h : Q (.builtin "str.translate", [.str x t]) s) : wpAny M A (getMethod (.str x t) (Str.ofString "translate") pl) Q E s :=
  GM.of (.str x t) (typeIs_str _ _ _) PySem.F.slot_str_translate PySem.F.type_str_translate GM.noRef h
theorem esc_con0 {x : Str} {t : Tok} (B : Below A₀ base outer h₀) (F : Fr h₀ L s.heap m) (X : (hd.heap_39 w.params).In h₀) (N : News h₀ L s.heap news) (T : Top p loose mean mg mb h₀) (hk : cs.kind = .function) (hx : x = Str.ofString "a" ∨ x = Str.ofString "\"")
    (hd' : dp + 2 < recursionLimit) (_hu : un + 100 < cLine)
    (hret : ∀ (t : Tok) (h' : Heap) (tk' : Nat), @LE.le Nat _ s.toks t → Fr h₀ L h' m → News h₀ L h' news → Q (.str x t) { s with heap := h', toks := tk' }) :
    wpAny (model PG w) (ktrTop dp un gd cn cs L a ccd cl outer) (call (.ref 80) [.str x t]) Q E s := by
  k_with_none
  k_with "execs cons" => (k_here; (with_reducible refine wpAny_execs_cons ?_); (try dsimp only); (try k_fold))
  k_with "getMethod str" => (k_here; with_reducible refine getM_tr ?_)
  k_with "call builtin:str.translate" => (k_here; k_dflt (refine' tr_K ?w9k0 ?w9kh ?w9k1 ?w9k2 ?w9k3 ?_; (case w9k0 => assumption); (case w9kh => exact rfl); (case w9k1 => k_asm); (case w9k2 => k_asm); (case w9k3 => k_asm); k_whole); intro t' h' tk' hto' F' N'; (try dsimp only at hto'); (try k_sweep))
  k_with "execs cons" => (k_here; (with_reducible refine' gen_toks ?w9lo ?w9hn ?_); (case w9lo => assumption); (case w9hn => omega); intro tk htk)
  k_with "execs nil" => (k_here; (with_reducible refine' gen_toks ?w9lo ?w9hn ?_); (case w9lo => assumption); (case w9hn => omega); intro tk htk)
  have lo : TokLow s.toks := trivial
  refine wpAny_call ?_
  k_dflt ktr_enter
  k_steps
  all_goals (exact hret _ _ _ (by omega) (by k_asm) (by (first | k_asm | (refine' cb_drop ?cbN ?cbS; (case cbN => assumption); (case cbS => kcj_all)))))
theorem esc_con {x : Str} {t : Tok} (B : Below A₀ base outer h₀) (F : Fr h₀ L s.heap m) (X : (hd.heap_39 w.params).In h₀) (N : News h₀ L s.heap news) (T : Top p loose mean mg mb h₀) (hk : cs.kind = .function)
    (hd' : dp + 2 < recursionLimit) (hu : un + 100 < cLine) (hx : x = Str.ofString "a" ∨ x = Str.ofString "\"")
    (hret : ∀ (t : Tok) (h' : Heap) (tk' : Nat), s.toks ≤ tk' → @LE.le Nat _ s.toks t → Fr h₀ L h' m → News h₀ L h' news → Q (.str x t) { s with heap := h', toks := tk' }) :
    wpAny (model PG w) (ktrTop dp un gd cn cs L a ccd cl outer) (call (.ref 80) [.str x t]) Q E s :=
  wpAny_with_toks (Nat.le_refl _) (esc_con0 B F X N T hk hx hd' hu fun t h' tk' ht F' N' hto => hret t h' tk' hto ht F' N')
theorem esc_a {t : Tok} (B : Below A₀ base outer h₀) (F : Fr h₀ L s.heap m) (X : (hd.heap_39 w.params).In h₀) (N : News h₀ L s.heap news) (T : Top p loose mean mg mb h₀) (hk : cs.kind = .function)
    (hd' : dp + 2 < recursionLimit) (hu : un + 100 < cLine)
    (hret : ∀ (t : Tok) (h' : Heap) (tk' : Nat), s.toks ≤ tk' → @LE.le Nat _ s.toks t → Fr h₀ L h' m → News h₀ L h' news → Q (.str (Str.ofString "a") t) { s with heap := h', toks := tk' }) :
    wpAny (model PG w) (ktrTop dp un gd cn cs L a ccd cl outer) (call (.ref 80) [.str (Str.ofString "a") t]) Q E s := esc_con B F X N T hk hd' hu (.inl rfl) hret
theorem esc_q {t : Tok} (B : Below A₀ base outer h₀) (F : Fr h₀ L s.heap m) (X : (hd.heap_39 w.params).In h₀) (N : News h₀ L s.heap news) (T : Top p loose mean mg mb h₀) (hk : cs.kind = .function)
    (hd' : dp + 2 < recursionLimit) (hu : un + 100 < cLine)
    (hret : ∀ (t : Tok) (h' : Heap) (tk' : Nat), s.toks ≤ tk' → @LE.le Nat _ s.toks t → Fr h₀ L h' m → News h₀ L h' news → Q (.str (Str.ofString "\"") t) { s with heap := h', toks := tk' }) :
    wpAny (model PG w) (ktrTop dp un gd cn cs L a ccd cl outer) (call (.ref 80) [.str (Str.ofString "\"") t]) Q E s := esc_con B F X N T hk hd' hu (.inr rfl) hret
end

section
open PySem.W.X PySem.W.XRun
variable {w : World} {s : Shared} {Q E : Value → Shared → Prop} {dp un : Nat} {fr : Option (List Env)} {gd : Option (List Code)}
local macro_rules | `(tactic| x_close) => `(tactic| k_extra "XEND")
theorem x_sub {f : Addr} {of : FuncData} {t : Tok} (hd' : dp + 3 < recursionLimit) (hu : un + 200 < cLine) (KX : (hd.heap_39 w.params).In s.heap) (hf : s.heap.get? f = some ⟨.type "function", none, .func of, #[]⟩)
    (hret : ∀ (t : Tok) (h' : Heap) (tk' : Nat), s.heap.StaysIn h' → Q (.str (Str.ofString "*") t) { s with heap := h', toks := tk' }) :
    wpAny (model PG w) { handled := none, depth := dp, frames := fr, guards := gd, units := un } (call (.builtin "re.Pattern.sub") [.ref 68, .ref f, .str (Str.ofString "*") t]) Q E s := by
  k_with_none
  k_with "XEND" => ((rename Mem _ _ _ _ => D); exact hret _ _ _ (mem_stays D))
  x_run
end
section
variable {w : World} {s : Shared} {Q E : Value → Shared → Prop} {h₀ : Heap} {L : Addr} {m : Str → Option Value} {news : List (Addr × Obj)}
theorem plain_pat : PlainAttrs "re.Pattern" :=
  ⟨⟨"object.__getattribute__", by rw [typeLookup_type, builtinLookup_eq_fast]; kernel_rfl, by decide +kernel⟩, by rw [typeLookup_type, builtinLookup_eq_fast]; kernel_rfl⟩
theorem slot_sub : Slot "re.Pattern" "sub" "re.Pattern.sub" :=
  .of (owner := "re.Pattern") (n := "sub") (by rw [typeLookup_type, builtinLookup_eq_fast]; kernel_rfl) (by decide +kernel) (by decide +kernel) (by decide +kernel)
    (by first | exact .inl (by decide +kernel) | exact .inr (by decide +kernel)) (by rw [isSubtype_type]; kernel_rfl)
theorem type_sub : typeOf (.builtin "re.Pattern.sub") = pure (.type "method_descriptor") := by show builtinType _ = _; rw [builtinType_eq_fast]; kernel_rfl
theorem getM_sub {M : Model} {A : Around} {pl : Sem Bool} {Q : Value × List Value → Shared → Prop} (X : (hd.heap_39 w.params).In h₀) (F : Fr h₀ L s.heap m) (h : Q (.builtin "re.Pattern.sub", [.ref 68]) s) : wpAny M A (getMethod (.ref 68) (Str.ofString "sub") pl) Q E s := by
  have h68 := F.keep _ _ (X 68 _ rfl)
  refine getMethod_builtin ⟨_, h68, rfl⟩ plain_pat slot_sub type_sub (fun a e => ?_) h
  cases e
  exact ⟨_, h68, rfl⟩
end

section
variable {w : World} {s : Shared} {Q E : Value → Shared → Prop} {A : Around} {h₀ : Heap} {L : Addr} {m : Str → Option Value} {news news' : List (Addr × Obj)}
theorem attr_append_T {D : Addr} {vs : Array Value} {n : Nat} (F : Fr h₀ L s.heap m) (N : News h₀ L s.heap news) (hm : (D, listOf vs n) ∈ news)
    (h : ∀ q h' tk', @LE.le Nat _ s.toks tk' → Fr h₀ L h' m → News h₀ L h' ((q, bmeth "list.append" (.ref D)) :: news) → (∀ p ∈ news, p.1 ≠ q) → Q (.ref q) { s with heap := h', toks := tk' }) : wpAny (model PG w) A (getAttr (.ref D) (Str.ofString "append") true) Q E s :=
  wpAny_with_toks (Nat.le_refl _) (attr_append_K F N hm fun q h' tk' F' N' ne hto => h q h' tk' hto F' N' ne)
theorem isNot_strs {M : Model} {x y : Str} {t u : Tok} (hxy : (x == y) = false) (h1 : @LT.lt Nat _ 0 u) (h2 : @LT.lt Nat _ u t) (h : Q (.bool true) s) : wpAny M A (compareOp .IsNot (.str x t) (.str y u)) Q E s := by
  have e0 : (t == 0 || u == 0) = false := by
    rw [Bool.or_eq_false_iff]; exact ⟨beq_eq_false_iff_ne.mpr (Nat.ne_of_gt (Nat.lt_trans h1 h2)), beq_eq_false_iff_ne.mpr (Nat.ne_of_gt h1)⟩
  have e := isSame_str_other x y t u e0 (beq_eq_false_iff_ne.mpr (Nat.ne_of_gt h2)) hxy
  show wpAny M A (do return .bool (!(← isSame (.str x t) (.str y u)))) Q E s
  rw [e]
  exact wpAny_bind (wpAny_pure (wpAny_pure h))
end
section
variable {w : World} {p : Program} {loose : List Str} {mean : ExcName → Option Value} {mg mb : Str → Option Value} {dp un : Nat} {gd : Option (List Code)} {cn : Str} {cs : Scope} {a : Addr} {ccd : Value} {cl : List (Str × Addr)} {outer : List Env} {A₀ : Around} {base h₀ : Heap} {L : Addr} {m : Str → Option Value} {news : List (Addr × Obj)} {s : Shared}
    {Q E : Value → Shared → Prop}
theorem use3 {P1 P2 P3 R : Prop} (f : P1 → P2 → P3 → R) (z : P1 ∧ P2 ∧ P3) : R := f z.1 z.2.1 z.2.2
theorem ret_list {l : Addr} {o : Obj} {g h h' : Heap} {L' : Addr} {m' : Str → Option Value} {all : List (Addr × Obj)} (R : Rest h [] g) (F : Fr g L' h' m') (N' : News g L' h' all) (hm : (l, o) ∈ all) : h.StaysIn h' ∧ h'.get? l = some o ∧ h.get? l = none :=
  ⟨fun b o e => F.keep b o (R b o e (by simp)), (N' _ hm).1, by
    cases e : h.get? l with
    | none => rfl
    | some o' => have := R l o' e (by simp); rw [(N' _ hm).2.2] at this; cases this⟩
theorem trans0 {t t1 t2 : Tok} (B : Below A₀ base outer h₀) (F : Fr h₀ L s.heap m) (X : (hd.heap_39 w.params).In h₀) (T : Top p loose mean mg mb h₀) (hk : cs.kind = .function) (N : News h₀ L s.heap [])
    (hd' : dp + 4 < recursionLimit) (_hu : un + 400 < cLine) (h1 : @LT.lt Nat _ 0 t1) (h2 : @LT.lt Nat _ t1 s.toks)
    (hret : ∀ (l : Addr) (t : Tok) (h' : Heap) (tk' : Nat), s.heap.StaysIn h' → h'.get? l = some (listOf #[.str (Str.ofString "a") t, .str (Str.ofString "*") t1] 2) → s.heap.get? l = none → Q (.ref l) { s with heap := h', toks := tk' }) :
    wpAny (model PG w) (ktrTop dp un gd cn cs L a ccd cl outer) (call (.ref 87) [.str (Str.ofString "a*") t, .str (Str.ofString "*") t1, .str (Str.ofString "?") t2]) Q E s := by
  k_with_none
  k_with "execs cons" => (k_here; (with_reducible refine wpAny_execs_cons ?_); (try dsimp only); (try k_fold))
  k_with "eval Name" => ((k_here; (fail_if_success (with_reducible show wpAny _ _ (eval (Expr.Name _ _) (compEnvC _ _ _ _)) _ _ _))); first | k_dflt (refine' nameX_L ?w9F ?w9v ?_ ?w9a ?w9b; (case w9F => k_asm); (case w9a => rfl); (case w9b => rfl); (case w9v => rfl); k_whole) | k_dflt (refine' ld ?w9F ?w9v ?_; (case w9F => k_asm); (case w9v => exact rfl); k_whole))
  k_with "execs cons" => (k_here; dsimp only; try ((with_reducible refine' gen_toks ?w9lo ?w9hn ?_); (case w9lo => assumption); (case w9hn => omega); intro tk htk))
  k_with "execs cons" => (k_here; (with_reducible refine' gen_toks ?w9lo ?w9hn ?_); (case w9lo => assumption); (case w9hn => omega); intro tk htk)
  k_with "execs nil" => (k_here; dsimp only; try ((with_reducible refine' gen_toks ?w9lo ?w9hn ?_); (case w9lo => assumption); (case w9hn => omega); intro tk htk))
  k_with "execs nil" => (k_here; (with_reducible refine' gen_toks ?w9lo ?w9hn ?_); (case w9lo => assumption); (case w9hn => omega); intro tk htk)
  k_with "compareOp IsNot str str" => (k_here; (with_reducible refine' isNot_strs ?w9hx ?w9h1 ?w9h2 ?_); (case w9hx => decide); (case w9h1 => omega); (case w9h2 => omega))
  k_with "compareOp IsNot" => (k_here; (with_reducible refine' isNot_strs ?w9hx ?w9h1 ?w9h2 ?_); (case w9hx => decide); (case w9h1 => omega); (case w9h2 => omega))
  k_with "getAttr ref" => (k_here; (with_reducible show wpAny _ _ (getAttr (Value.ref _) _ _) _ _ _); k_dflt (refine' attr_append_T ?w9k1 ?w9k2 ?w9k3 ?_; (case w9k1 => k_asm); (case w9k2 => k_asm); (case w9k3 => k_mem); k_whole); intro q' h' tk' hto' F' N' l1; (try dsimp only at hto'); (try dsimp only); (replace l1 := allNe_of l1; simp only [AllNe, and_true] at l1); (try k_sweep))
  k_with "callWith ref" => (k_here; k_dflt (refine' callWith_B ?w9k1 ?w9k2 ?_; (case w9k1 => k_asm); (case w9k2 => k_mem); k_whole))
  k_with "And" => ((with_reducible show _ = some _ ∧ _); refine ⟨News.get (by k_asm) (by k_mem), ?_⟩; try dsimp only [List.nil_append, List.cons_append])
  k_with "call ref" => (k_here; (with_reducible show wpAny _ _ (call (Value.ref _) _) _ _ _); k_dflt (refine' esc_a ?w9k1 ?w9k2 ?w9k3 ?w9k4 ?w9k5 ?w9kK ?w9kd ?w9ku ?_; (case w9k1 => k_asm); (case w9k2 => k_asm); (case w9k3 => k_asm); (case w9k4 => k_asm); (case w9k5 => k_asm); (case w9kK => first | exact rfl | assumption); (case w9kd => ktr_room); (case w9ku => ktr_units)); intro t9 h9 tk9 hto9 ht9 F9 N9; (try dsimp only); (try dsimp only at hto9 ht9); (try k_fold))
  k_with "call ref" => (k_here; (with_reducible show wpAny _ _ (call (Value.ref _) _) _ _ _); k_dflt (refine' esc_q ?w9k1 ?w9k2 ?w9k3 ?w9k4 ?w9k5 ?w9kK ?w9kd ?w9ku ?_; (case w9k1 => k_asm); (case w9k2 => k_asm); (case w9k3 => k_asm); (case w9k4 => k_asm); (case w9k5 => k_asm); (case w9kK => first | exact rfl | assumption); (case w9kd => ktr_room); (case w9ku => ktr_units)); intro t9 h9 tk9 hto9 ht9 F9 N9; (try dsimp only); (try dsimp only at hto9 ht9); (try k_fold))
  k_with "call ref" => (k_here; k_dflt (refine' bound_append_K ?w9k1 ?w9k2 ?w9k3 ?w9k4 ?_ ?w9z; (case w9k1 => k_asm); (case w9k2 => k_asm); (case w9k3 => k_mem); (case w9k4 => k_upd); (case w9z => exact Nat.le_of_ble_eq_true rfl); k_whole); intro h' F' N'; (try dsimp only); (try k_sweep))
  k_with "newList" => (k_here; (with_reducible refine' newList_K ?w9k1 ?w9k2 ?_ ?w9z; (case w9z => exact Nat.le_of_ble_eq_true rfl); (case w9k1 => k_asm); (case w9k2 => k_asm); k_whole); intro l' h' F' N' l1; (try k_lt l1); (try dsimp only); (try k_sweep))
  k_with "subscriptTail Name Name str int" => (k_here; (refine KXi.item rfl (by omega) (by omega) (by omega) ?_); intro kxiE)
  have hL : (Str.ofString "a*").length = 2 := rfl
  have lo : TokLow s.toks := trivial
  k_dflt (refine' enterP ?k1 ?k2 ?k3 ?k4 ?k5 ?kA ?kF ?kK ?k6 ?k7 ?k8 ?k9 ?kB ?c5 ?_ ?c2 ?c3 ?c4; (case kA => exact rfl); (case kF => exact rfl); (case kK => assumption); (case k1 => k_asm); (case k2 => k_asm); (case k3 => k_asm); (case k4 => k_asm); (case k5 => k_asm); (case k6 => k_is); (case k7 => k_is); (case k8 => ktr_room); (case k9 => exact BindsTo.of_eq rfl); (case c5 => decide); (case kB => exact locs rfl); (case c2 => exact rfl); (case c3 => exact rfl); (case c4 => exact rfl); k_whole; intro g' L' h' R' F' N' B' X' T' l1; (try k_lt l1); (try dsimp only); (try k_fold))
  k_steps
  all_goals first | exact News.get (by k_asm) (by k_mem) | (refine' use3 (hret _ _ _ _) (ret_list ?R ?F ?N ?m); (case R => assumption); (case F => k_asm); (case N => k_asm); (case m => repeat (first | exact List.Mem.head _ | apply List.Mem.tail)))
theorem trans1 {t t1 t2 : Tok} (B : Below A₀ base outer h₀) (F : Fr h₀ L s.heap m) (X : (hd.heap_39 w.params).In h₀) (T : Top p loose mean mg mb h₀) (hk : cs.kind = .function) (N : News h₀ L s.heap [])
    (hd' : dp + 4 < recursionLimit) (_hu : un + 400 < cLine) (h1 : @LT.lt Nat _ 0 t1) (h2 : @LT.lt Nat _ t1 s.toks)
    (hret : ∀ (l : Addr) (t : Tok) (h' : Heap) (tk' : Nat), s.heap.StaysIn h' → h'.get? l = some (listOf #[.str (Str.ofString "*") t1, .str (Str.ofString "\"") t, .str (Str.ofString "*") t1] 3) → s.heap.get? l = none → Q (.ref l) { s with heap := h', toks := tk' }) :
    wpAny (model PG w) (ktrTop dp un gd cn cs L a ccd cl outer) (call (.ref 87) [.str (Str.ofString "*\"*") t, .str (Str.ofString "*") t1, .str (Str.ofString "?") t2]) Q E s := by
  k_with_none
  k_with "execs cons" => (k_here; (with_reducible refine wpAny_execs_cons ?_); (try dsimp only); (try k_fold))
  k_with "eval Name" => ((k_here; (fail_if_success (with_reducible show wpAny _ _ (eval (Expr.Name _ _) (compEnvC _ _ _ _)) _ _ _))); first | k_dflt (refine' nameX_L ?w9F ?w9v ?_ ?w9a ?w9b; (case w9F => k_asm); (case w9a => rfl); (case w9b => rfl); (case w9v => rfl); k_whole) | k_dflt (refine' ld ?w9F ?w9v ?_; (case w9F => k_asm); (case w9v => exact rfl); k_whole))
  k_with "execs cons" => (k_here; dsimp only; try ((with_reducible refine' gen_toks ?w9lo ?w9hn ?_); (case w9lo => assumption); (case w9hn => omega); intro tk htk))
  k_with "execs cons" => (k_here; (with_reducible refine' gen_toks ?w9lo ?w9hn ?_); (case w9lo => assumption); (case w9hn => omega); intro tk htk)
  k_with "execs nil" => (k_here; dsimp only; try ((with_reducible refine' gen_toks ?w9lo ?w9hn ?_); (case w9lo => assumption); (case w9hn => omega); intro tk htk))
  k_with "execs nil" => (k_here; (with_reducible refine' gen_toks ?w9lo ?w9hn ?_); (case w9lo => assumption); (case w9hn => omega); intro tk htk)
  k_with "compareOp IsNot str str" => (k_here; (with_reducible refine' isNot_strs ?w9hx ?w9h1 ?w9h2 ?_); (case w9hx => decide); (case w9h1 => omega); (case w9h2 => omega))
  k_with "compareOp IsNot" => (k_here; (with_reducible refine' isNot_strs ?w9hx ?w9h1 ?w9h2 ?_); (case w9hx => decide); (case w9h1 => omega); (case w9h2 => omega))
  k_with "getAttr ref" => (k_here; (with_reducible show wpAny _ _ (getAttr (Value.ref _) _ _) _ _ _); k_dflt (refine' attr_append_T ?w9k1 ?w9k2 ?w9k3 ?_; (case w9k1 => k_asm); (case w9k2 => k_asm); (case w9k3 => k_mem); k_whole); intro q' h' tk' hto' F' N' l1; (try dsimp only at hto'); (try dsimp only); (replace l1 := allNe_of l1; simp only [AllNe, and_true] at l1); (try k_sweep))
  k_with "callWith ref" => (k_here; k_dflt (refine' callWith_B ?w9k1 ?w9k2 ?_; (case w9k1 => k_asm); (case w9k2 => k_mem); k_whole))
  k_with "And" => ((with_reducible show _ = some _ ∧ _); refine ⟨News.get (by k_asm) (by k_mem), ?_⟩; try dsimp only [List.nil_append, List.cons_append])
  k_with "call ref" => (k_here; (with_reducible show wpAny _ _ (call (Value.ref _) _) _ _ _); k_dflt (refine' esc_a ?w9k1 ?w9k2 ?w9k3 ?w9k4 ?w9k5 ?w9kK ?w9kd ?w9ku ?_; (case w9k1 => k_asm); (case w9k2 => k_asm); (case w9k3 => k_asm); (case w9k4 => k_asm); (case w9k5 => k_asm); (case w9kK => first | exact rfl | assumption); (case w9kd => ktr_room); (case w9ku => ktr_units)); intro t9 h9 tk9 hto9 ht9 F9 N9; (try dsimp only); (try dsimp only at hto9 ht9); (try k_fold))
  k_with "call ref" => (k_here; (with_reducible show wpAny _ _ (call (Value.ref _) _) _ _ _); k_dflt (refine' esc_q ?w9k1 ?w9k2 ?w9k3 ?w9k4 ?w9k5 ?w9kK ?w9kd ?w9ku ?_; (case w9k1 => k_asm); (case w9k2 => k_asm); (case w9k3 => k_asm); (case w9k4 => k_asm); (case w9k5 => k_asm); (case w9kK => first | exact rfl | assumption); (case w9kd => ktr_room); (case w9ku => ktr_units)); intro t9 h9 tk9 hto9 ht9 F9 N9; (try dsimp only); (try dsimp only at hto9 ht9); (try k_fold))
  k_with "call ref" => (k_here; k_dflt (refine' bound_append_K ?w9k1 ?w9k2 ?w9k3 ?w9k4 ?_ ?w9z; (case w9k1 => k_asm); (case w9k2 => k_asm); (case w9k3 => k_mem); (case w9k4 => k_upd); (case w9z => exact Nat.le_of_ble_eq_true rfl); k_whole); intro h' F' N'; (try dsimp only); (try k_sweep))
  k_with "newList" => (k_here; (with_reducible refine' newList_K ?w9k1 ?w9k2 ?_ ?w9z; (case w9z => exact Nat.le_of_ble_eq_true rfl); (case w9k1 => k_asm); (case w9k2 => k_asm); k_whole); intro l' h' F' N' l1; (try k_lt l1); (try dsimp only); (try k_sweep))
  k_with "subscriptTail Name Name str int" => (k_here; (refine KXi.item rfl (by omega) (by omega) (by omega) ?_); intro kxiE)
  have hL : (Str.ofString "*\"*").length = 3 := rfl
  have lo : TokLow s.toks := trivial
  k_dflt (refine' enterP ?k1 ?k2 ?k3 ?k4 ?k5 ?kA ?kF ?kK ?k6 ?k7 ?k8 ?k9 ?kB ?c5 ?_ ?c2 ?c3 ?c4; (case kA => exact rfl); (case kF => exact rfl); (case kK => assumption); (case k1 => k_asm); (case k2 => k_asm); (case k3 => k_asm); (case k4 => k_asm); (case k5 => k_asm); (case k6 => k_is); (case k7 => k_is); (case k8 => ktr_room); (case k9 => exact BindsTo.of_eq rfl); (case c5 => decide); (case kB => exact locs rfl); (case c2 => exact rfl); (case c3 => exact rfl); (case c4 => exact rfl); k_whole; intro g' L' h' R' F' N' B' X' T' l1; (try k_lt l1); (try dsimp only); (try k_fold))
  k_steps
  all_goals first | exact News.get (by k_asm) (by k_mem) | (refine' use3 (hret _ _ _ _) (ret_list ?R ?F ?N ?m); (case R => assumption); (case F => k_asm); (case N => k_asm); (case m => repeat (first | exact List.Mem.head _ | apply List.Mem.tail)))
theorem trans2 {t t1 t2 : Tok} (B : Below A₀ base outer h₀) (F : Fr h₀ L s.heap m) (X : (hd.heap_39 w.params).In h₀) (T : Top p loose mean mg mb h₀) (hk : cs.kind = .function) (N : News h₀ L s.heap [])
    (hd' : dp + 4 < recursionLimit) (_hu : un + 400 < cLine) (h1 : @LT.lt Nat _ 0 t1) (h2 : @LT.lt Nat _ t1 s.toks)
    (hret : ∀ (l : Addr) (h' : Heap) (tk' : Nat), s.heap.StaysIn h' → h'.get? l = some (listOf #[.str (Str.ofString "?") t2] 1) → s.heap.get? l = none → Q (.ref l) { s with heap := h', toks := tk' }) :
    wpAny (model PG w) (ktrTop dp un gd cn cs L a ccd cl outer) (call (.ref 87) [.str (Str.ofString "?") t, .str (Str.ofString "*") t1, .str (Str.ofString "?") t2]) Q E s := by
  k_with_none
  k_with "execs cons" => (k_here; (with_reducible refine wpAny_execs_cons ?_); (try dsimp only); (try k_fold))
  k_with "eval Name" => ((k_here; (fail_if_success (with_reducible show wpAny _ _ (eval (Expr.Name _ _) (compEnvC _ _ _ _)) _ _ _))); first | k_dflt (refine' nameX_L ?w9F ?w9v ?_ ?w9a ?w9b; (case w9F => k_asm); (case w9a => rfl); (case w9b => rfl); (case w9v => rfl); k_whole) | k_dflt (refine' ld ?w9F ?w9v ?_; (case w9F => k_asm); (case w9v => exact rfl); k_whole))
  k_with "execs cons" => (k_here; dsimp only; try ((with_reducible refine' gen_toks ?w9lo ?w9hn ?_); (case w9lo => assumption); (case w9hn => omega); intro tk htk))
  k_with "execs cons" => (k_here; (with_reducible refine' gen_toks ?w9lo ?w9hn ?_); (case w9lo => assumption); (case w9hn => omega); intro tk htk)
  k_with "execs nil" => (k_here; dsimp only; try ((with_reducible refine' gen_toks ?w9lo ?w9hn ?_); (case w9lo => assumption); (case w9hn => omega); intro tk htk))
  k_with "execs nil" => (k_here; (with_reducible refine' gen_toks ?w9lo ?w9hn ?_); (case w9lo => assumption); (case w9hn => omega); intro tk htk)
  k_with "compareOp IsNot str str" => (k_here; (with_reducible refine' isNot_strs ?w9hx ?w9h1 ?w9h2 ?_); (case w9hx => decide); (case w9h1 => omega); (case w9h2 => omega))
  k_with "compareOp IsNot" => (k_here; (with_reducible refine' isNot_strs ?w9hx ?w9h1 ?w9h2 ?_); (case w9hx => decide); (case w9h1 => omega); (case w9h2 => omega))
  k_with "getAttr ref" => (k_here; (with_reducible show wpAny _ _ (getAttr (Value.ref _) _ _) _ _ _); k_dflt (refine' attr_append_T ?w9k1 ?w9k2 ?w9k3 ?_; (case w9k1 => k_asm); (case w9k2 => k_asm); (case w9k3 => k_mem); k_whole); intro q' h' tk' hto' F' N' l1; (try dsimp only at hto'); (try dsimp only); (replace l1 := allNe_of l1; simp only [AllNe, and_true] at l1); (try k_sweep))
  k_with "callWith ref" => (k_here; k_dflt (refine' callWith_B ?w9k1 ?w9k2 ?_; (case w9k1 => k_asm); (case w9k2 => k_mem); k_whole))
  k_with "And" => ((with_reducible show _ = some _ ∧ _); refine ⟨News.get (by k_asm) (by k_mem), ?_⟩; try dsimp only [List.nil_append, List.cons_append])
  k_with "call ref" => (k_here; (with_reducible show wpAny _ _ (call (Value.ref _) _) _ _ _); k_dflt (refine' esc_a ?w9k1 ?w9k2 ?w9k3 ?w9k4 ?w9k5 ?w9kK ?w9kd ?w9ku ?_; (case w9k1 => k_asm); (case w9k2 => k_asm); (case w9k3 => k_asm); (case w9k4 => k_asm); (case w9k5 => k_asm); (case w9kK => first | exact rfl | assumption); (case w9kd => ktr_room); (case w9ku => ktr_units)); intro t9 h9 tk9 hto9 ht9 F9 N9; (try dsimp only); (try dsimp only at hto9 ht9); (try k_fold))
  k_with "call ref" => (k_here; (with_reducible show wpAny _ _ (call (Value.ref _) _) _ _ _); k_dflt (refine' esc_q ?w9k1 ?w9k2 ?w9k3 ?w9k4 ?w9k5 ?w9kK ?w9kd ?w9ku ?_; (case w9k1 => k_asm); (case w9k2 => k_asm); (case w9k3 => k_asm); (case w9k4 => k_asm); (case w9k5 => k_asm); (case w9kK => first | exact rfl | assumption); (case w9kd => ktr_room); (case w9ku => ktr_units)); intro t9 h9 tk9 hto9 ht9 F9 N9; (try dsimp only); (try dsimp only at hto9 ht9); (try k_fold))
  k_with "call ref" => (k_here; k_dflt (refine' bound_append_K ?w9k1 ?w9k2 ?w9k3 ?w9k4 ?_ ?w9z; (case w9k1 => k_asm); (case w9k2 => k_asm); (case w9k3 => k_mem); (case w9k4 => k_upd); (case w9z => exact Nat.le_of_ble_eq_true rfl); k_whole); intro h' F' N'; (try dsimp only); (try k_sweep))
  k_with "newList" => (k_here; (with_reducible refine' newList_K ?w9k1 ?w9k2 ?_ ?w9z; (case w9z => exact Nat.le_of_ble_eq_true rfl); (case w9k1 => k_asm); (case w9k2 => k_asm); k_whole); intro l' h' F' N' l1; (try k_lt l1); (try dsimp only); (try k_sweep))
  k_with "subscriptTail Name Name str int" => (k_here; (refine KXi.item rfl (by omega) (by omega) (by omega) ?_); intro kxiE)
  have hL : (Str.ofString "?").length = 1 := rfl
  have lo : TokLow s.toks := trivial
  k_dflt (refine' enterP ?k1 ?k2 ?k3 ?k4 ?k5 ?kA ?kF ?kK ?k6 ?k7 ?k8 ?k9 ?kB ?c5 ?_ ?c2 ?c3 ?c4; (case kA => exact rfl); (case kF => exact rfl); (case kK => assumption); (case k1 => k_asm); (case k2 => k_asm); (case k3 => k_asm); (case k4 => k_asm); (case k5 => k_asm); (case k6 => k_is); (case k7 => k_is); (case k8 => ktr_room); (case k9 => exact BindsTo.of_eq rfl); (case c5 => decide); (case kB => exact locs rfl); (case c2 => exact rfl); (case c3 => exact rfl); (case c4 => exact rfl); k_whole; intro g' L' h' R' F' N' B' X' T' l1; (try k_lt l1); (try dsimp only); (try k_fold))
  k_steps
  all_goals first | exact News.get (by k_asm) (by k_mem) | (refine' use3 (hret _ _ _) (ret_list ?R ?F ?N ?m); (case R => assumption); (case F => k_asm); (case N => k_asm); (case m => repeat (first | exact List.Mem.head _ | apply List.Mem.tail)))
end

section
open PySem.W.X PySem.W.XRun
variable {w : World} {s : Shared} {Q E : Value → Shared → Prop} {A : Around}
local macro_rules | `(tactic| x_close) => `(tactic| k_extra "XEND")
theorem x_repl {t u v : Tok} (hret : ∀ (t : Tok) (h' : Heap) (tk' : Nat), s.heap.StaysIn h' → Q (.str (Str.ofString "*") t) { s with heap := h', toks := tk' }) :
    wpAny (model PG w) A (call (.builtin "str.replace") [.str (Str.ofString "*") t, .str (Str.ofString "\\") u, .str (Str.ofString "\\\\") v]) Q E s := by
  k_with_none
  k_with "XEND" => first | ((rename Mem _ _ _ _ => D); exact hret _ _ _ (mem_stays D)) | exact hret _ _ _ (fun _ _ e => e)
  x_run
end
section
variable {w : World} {s : Shared} {Q E : Value → Shared → Prop} {h₀ : Heap} {L : Addr} {m : Str → Option Value} {news : List (Addr × Obj)} {dp un : Nat} {fr : Option (List Env)} {gd : Option (List Code)}
theorem sub_K {A : Around} {f : Addr} {of : FuncData} {t : Tok} (hA : A = { handled := none, depth := dp, frames := fr, guards := gd, units := un }) (X : (hd.heap_39 w.params).In h₀) (F : Fr h₀ L s.heap m) (N : News h₀ L s.heap news) (hm : (f, ⟨.type "function", none, .func of, #[]⟩) ∈ news)
    (hd' : dp + 3 < recursionLimit) (hu : un + 200 < cLine)
    (hret : ∀ (t : Tok) (h' : Heap) (tk' : Nat), @LE.le Nat _ s.toks tk' → Fr h₀ L h' m → News h₀ L h' news → Q (.str (Str.ofString "*") t) { s with heap := h', toks := tk' }) :
    wpAny (model PG w) A (call (.builtin "re.Pattern.sub") [.ref 68, .ref f, .str (Str.ofString "*") t]) Q E s := by
  subst hA
  exact wpAny_with_toks (Nat.le_refl _) (x_sub hd' hu (X.keeps F.keep) (N _ hm).1 fun t h' tk' k hto => hret t h' tk' hto (fr_stays k F) (news_stays k N))
theorem repl_K {A : Around} {t u v : Tok} (F : Fr h₀ L s.heap m) (N : News h₀ L s.heap news)
    (hret : ∀ (t : Tok) (h' : Heap) (tk' : Nat), @LE.le Nat _ s.toks tk' → Fr h₀ L h' m → News h₀ L h' news → Q (.str (Str.ofString "*") t) { s with heap := h', toks := tk' }) :
    wpAny (model PG w) A (call (.builtin "str.replace") [.str (Str.ofString "*") t, .str (Str.ofString "\\") u, .str (Str.ofString "\\\\") v]) Q E s :=
  wpAny_with_toks (Nat.le_refl _) (x_repl fun t h' tk' k hto => hret t h' tk' hto (fr_stays k F) (news_stays k N))
end
section
variable {w : World} {p : Program} {loose : List Str} {mean : ExcName → Option Value} {mg mb : Str → Option Value} {dp un : Nat} {gd : Option (List Code)} {cn : Str} {cs : Scope} {a : Addr} {ccd : Value} {cl : List (Str × Addr)} {outer : List Env} {A₀ : Around} {base h₀ : Heap} {L : Addr} {m : Str → Option Value} {news : List (Addr × Obj)} {s : Shared}
    {Q E : Value → Shared → Prop}
def Tab (o : Obj) : Prop := o = tabObj #[] ∨ ∃ c : Addr, o = tabObj #[.int 80 0, .int 39 0, .ref c]
def But82 (h h' : Heap) (o' : Obj) : Prop := (∀ b o, b ≠ 82 → h.get? b = some o → h'.get? b = some o) ∧ h'.get? 82 = some o'
theorem use5 {P1 P2 P3 P4 R : Prop} (f : P1 → P2 → P3 → P4 → R) (p1 : P1) (z : P2 ∧ P3 ∧ P4) : R := f p1 z.1 z.2.1 z.2.2
theorem ret_listT {l : Addr} {o o1 o2 : Obj} {g h h' : Heap} {L' : Addr} {m' : Str → Option Value} {all : List (Addr × Obj)} (R : Rest h [(82, o1)] g) (F : Fr g L' h' m') (N' : News g L' h' all) (hm : (l, o) ∈ all) (h82 : (82, o2) ∈ all) (hl : 82 < l) : But82 h h' o2 ∧ h'.get? l = some o ∧ h.get? l = none :=
  ⟨⟨fun b o hb e => F.keep b o (R b o e (by simpa using hb)), (N' _ h82).1⟩, (N' _ hm).1, by
    cases e : h.get? l with
    | none => rfl
    | some o' => have := R l o' e (by simpa using Nat.ne_of_gt hl); rw [(N' _ hm).2.2] at this; cases this⟩
theorem trans3a {t t1 t2 : Tok} (B : Below A₀ base outer h₀) (F : Fr h₀ L s.heap m) (X : (hd.heap_39 w.params).In h₀) (T : Top p loose mean mg mb h₀) (hk : cs.kind = .function) (N : News h₀ L s.heap [(82, tabObj #[])])
    (hd' : dp + 4 < recursionLimit) (_hu : un + 400 < cLine) (h1 : @LT.lt Nat _ 0 t1) (h2 : @LT.lt Nat _ t1 s.toks)
    (hret : ∀ (l : Addr) (t : Tok) (h' : Heap) (tk' : Nat) (o' : Obj), Tab o' → But82 s.heap h' o' → h'.get? l = some (listOf #[.str (Str.ofString "[*]") t, .str (Str.ofString "*") t1] 2) → s.heap.get? l = none → Q (.ref l) { s with heap := h', toks := tk' }) :
    wpAny (model PG w) (ktrTop dp un gd cn cs L a ccd cl outer) (call (.ref 87) [.str (Str.ofString "[*]*") t, .str (Str.ofString "*") t1, .str (Str.ofString "?") t2]) Q E s := by
  k_with_none
  k_with "execs cons" => (k_here; (with_reducible refine wpAny_execs_cons ?_); (try dsimp only); (try k_fold))
  k_with "eval Name" => ((k_here; (fail_if_success (with_reducible show wpAny _ _ (eval (Expr.Name _ _) (compEnvC _ _ _ _)) _ _ _))); first | k_dflt (refine' nameX_L ?w9F ?w9v ?_ ?w9a ?w9b; (case w9F => k_asm); (case w9a => rfl); (case w9b => rfl); (case w9v => rfl); k_whole) | k_dflt (refine' ld ?w9F ?w9v ?_; (case w9F => k_asm); (case w9v => exact rfl); k_whole))
  k_with "exec If" => (k_here; refine wpAny_If ?_)
  k_with "execs cons" => (k_here; dsimp only; try ((with_reducible refine' gen_toks ?w9lo ?w9hn ?_); (case w9lo => assumption); (case w9hn => omega); intro tk htk))
  k_with "execs cons" => (k_here; (with_reducible refine' gen_toks ?w9lo ?w9hn ?_); (case w9lo => assumption); (case w9hn => omega); intro tk htk)
  k_with "execs nil" => (k_here; dsimp only; try ((with_reducible refine' gen_toks ?w9lo ?w9hn ?_); (case w9lo => assumption); (case w9hn => omega); intro tk htk))
  k_with "execs nil" => (k_here; (with_reducible refine' gen_toks ?w9lo ?w9hn ?_); (case w9lo => assumption); (case w9hn => omega); intro tk htk)
  k_with "compareOp IsNot str str" => (k_here; (with_reducible refine' isNot_strs ?w9hx ?w9h1 ?w9h2 ?_); (case w9hx => decide +kernel); (case w9h1 => omega); (case w9h2 => omega))
  k_with "compareOp IsNot" => (k_here; (with_reducible refine' isNot_strs ?w9hx ?w9h1 ?w9h2 ?_); (case w9hx => decide +kernel); (case w9h1 => omega); (case w9h2 => omega))
  k_with "getAttr ref" => (k_here; (with_reducible show wpAny _ _ (getAttr (Value.ref _) _ _) _ _ _); k_dflt (refine' attr_append_T ?w9k1 ?w9k2 ?w9k3 ?_; (case w9k1 => k_asm); (case w9k2 => k_asm); (case w9k3 => k_mem); k_whole); intro q' h' tk' hto' F' N' l1; (try dsimp only at hto'); (try dsimp only); (replace l1 := allNe_of l1; simp only [AllNe, and_true] at l1); (try k_sweep))
  k_with "callWith ref" => (k_here; k_dflt (refine' callWith_B ?w9k1 ?w9k2 ?_; (case w9k1 => k_asm); (case w9k2 => k_mem); k_whole))
  k_with "And" => ((with_reducible show _ = some _ ∧ _); refine ⟨News.get (by k_asm) (by k_mem), ?_⟩; try dsimp only [List.nil_append, List.cons_append])
  k_with "call ref" => (k_here; (with_reducible show wpAny _ _ (call (Value.ref _) _) _ _ _); k_dflt (refine' esc_a ?w9k1 ?w9k2 ?w9k3 ?w9k4 ?w9k5 ?w9kK ?w9kd ?w9ku ?_; (case w9k1 => k_asm); (case w9k2 => k_asm); (case w9k3 => k_asm); (case w9k4 => k_asm); (case w9k5 => k_asm); (case w9kK => first | exact rfl | assumption); (case w9kd => ktr_room); (case w9ku => ktr_units)); intro t9 h9 tk9 hto9 ht9 F9 N9; (try dsimp only); (try dsimp only at hto9 ht9); (try k_fold))
  k_with "call ref" => (k_here; (with_reducible show wpAny _ _ (call (Value.ref _) _) _ _ _); k_dflt (refine' esc_q ?w9k1 ?w9k2 ?w9k3 ?w9k4 ?w9k5 ?w9kK ?w9kd ?w9ku ?_; (case w9k1 => k_asm); (case w9k2 => k_asm); (case w9k3 => k_asm); (case w9k4 => k_asm); (case w9k5 => k_asm); (case w9kK => first | exact rfl | assumption); (case w9kd => ktr_room); (case w9ku => ktr_units)); intro t9 h9 tk9 hto9 ht9 F9 N9; (try dsimp only); (try dsimp only at hto9 ht9); (try k_fold))
  k_with "call ref" => (k_here; k_dflt (refine' bound_append_K ?w9k1 ?w9k2 ?w9k3 ?w9k4 ?_ ?w9z; (case w9k1 => k_asm); (case w9k2 => k_asm); (case w9k3 => k_mem); (case w9k4 => k_upd); (case w9z => exact Nat.le_of_ble_eq_true rfl); k_whole); intro h' F' N'; (try dsimp only); (try k_sweep))
  k_with "newList" => (k_here; (with_reducible refine' newList_K ?w9k1 ?w9k2 ?_ ?w9z; (case w9z => exact Nat.le_of_ble_eq_true rfl); (case w9k1 => k_asm); (case w9k2 => k_asm); k_whole); intro l' h' F' N' l1; (try k_lt l1); (try dsimp only); (try k_sweep))
  k_with "subscriptTail Name Name str int" => (k_here; (refine KXi.item rfl (by omega) (by omega) (by omega) ?_); intro kxiE)
  k_with "call builtin:str.replace" => (k_here; k_dflt (refine' repl_K ?w9k2 ?w9k3 ?_; (case w9k2 => k_asm); (case w9k3 => k_asm); k_whole); intro t' h' tk' hto' F' N'; (try dsimp only at hto'); (try dsimp only); (try k_sweep))
  k_with "subscriptTail Name Slice str ref" => ((with_reducible show wpAny _ _ (subscriptTail _ (Expr.Slice (some _) (some _) none _) _ _) _ _ _); (with_reducible rename Fr _ _ _ _ => F'); (with_reducible rename News _ _ _ _ => N'); (refine wpAny_with_toks (Nat.le_refl _) ?_); (refine slice_strN_ss (hsz := ?w9hsz) (s := ⟨_, _, _, _, _⟩) F' N' ?_); (case w9hsz => size_fits); intro _ _ _ _ _ hto'; (try dsimp only at hto'); (try dsimp only))
  k_with "eval Lambda" => (k_here; kn_here; k_dflt (refine' kla_eval ?w9d0 ?_; (case w9d0 => exact rfl)); (refine wpAny_with_toks (Nat.le_refl _) ?_); (first | (k_dflt (refine' kla_nest ?w9F ?w9N ?w9T ?w9C ?w9cd ?w9U ?w9t ?w9n ?w9cl ?_; (case w9F => k_asm); (case w9N => k_asm); (case w9T => k_asm); (case w9cd => exact rfl); (case w9C => kn_code); (case w9U => k_updF); (case w9t => kn_triples); (case w9n => kn_among); (case w9cl => exact rfl); k_whole); intro f' c' oc' vs' t' ct' h' tk' F' N' d1' d2' l1 l2 hto'; (try dsimp only at N'); (try k_lt l1); (try k_lt2 l2); (try dsimp only at hto'); (try dsimp only)) | (k_dflt (refine' kla_hit ?w9F ?w9N ?w9T ?w9C ?w9cd ?w9mem ?w9t ?w9n ?w9cl ?_; (case w9F => k_asm); (case w9N => k_asm); (case w9T => k_asm); (case w9cd => exact rfl); (case w9C => kn_code); (case w9mem => k_mem); (case w9t => kn_triples); (case w9n => kn_hit); (case w9cl => exact rfl); k_whole); intro f' ct' h' tk' F' N' l1 hto'; (try dsimp only at N'); (try k_lt l1); (try dsimp only at hto'); (try dsimp only))))
  k_with "subscriptTail Name Constant str int" => (k_here; (refine KXi.item (n := 1) (by decide +kernel) (by decide) (by decide) (by decide) ?_); intro kxiE)
  k_with "truthy str" => (k_here; (with_reducible show wpAny _ _ (PySem.truthy (Value.str _ _)) _ _ _); (refine wpAny_with_toks (Nat.le_refl _) ?_); (refine' KXt.truthy_pos ?w9kxta ?w9kxtb ?w9kxtc ?_; (case w9kxta => kxt_pos); (case w9kxtb => kt_len); (case w9kxtc => exact Nat.le_of_ble_eq_true rfl)); intro _ hto'; (try dsimp only at hto'); (try dsimp only))
  k_with "formatField str" => (k_here; (refine wpAny_with_toks (Nat.le_refl _) ?_); (refine formatField_str ?_); intro _ _ hto'; (try dsimp only at hto'); (try dsimp only))
  k_with "getMethod ref" => (k_here; (with_reducible refine' getM_sub ?w9k1 ?w9k2 ?_); (case w9k1 => k_asm); (case w9k2 => k_asm))
  k_with "call builtin:re.Pattern.sub" => (k_here; k_dflt (refine' sub_K ?w9kA ?w9k1 ?w9k2 ?w9k3 ?w9k4 ?w9kd ?w9ku ?_; (case w9kA => exact rfl); (case w9k1 => k_asm); (case w9k2 => k_asm); (case w9k3 => k_asm); (case w9k4 => k_mem); (case w9kd => ktr_room); (case w9ku => ktr_units); k_whole); intro t' h' tk' hto' F' N'; (try dsimp only at hto'); (try dsimp only); (try k_sweep))
  have hL : (Str.ofString "[*]*").length = 4 := rfl
  have lo : TokLow s.toks := trivial
  k_dflt (refine' enterP ?k1 ?k2 ?k3 ?k4 ?k5 ?kA ?kF ?kK ?k6 ?k7 ?k8 ?k9 ?kB ?c5 ?_ ?c2 ?c3 ?c4; (case kA => exact rfl); (case kF => exact rfl); (case kK => assumption); (case k1 => k_asm); (case k2 => k_asm); (case k3 => k_asm); (case k4 => k_asm); (case k5 => k_asm); (case k6 => k_is); (case k7 => k_is); (case k8 => ktr_room); (case k9 => exact BindsTo.of_eq rfl); (case c5 => decide); (case kB => exact locs rfl); (case c2 => exact rfl); (case c3 => exact rfl); (case c4 => exact rfl); k_whole; intro g' L' h' R' F' N' B' X' T' l1; (try k_lt l1); (try dsimp only); (try k_fold))
  have hC := codeHd_of_K (c := 86) (P := 82) X' (by kernel_rfl)
  k_steps
  all_goals first
    | exact News.get (by k_asm) (by k_mem)
    | (exfalso; revert ‹(Builtin.Str.occurrences _ _ _ _ _).isEmpty = false›; decide +kernel)
    | (refine' use5 (hret _ _ _ _ _) ?tab (ret_listT ?zR ?zF ?zN ?zm ?z82 ?zl); (case zR => assumption); (case zF => k_asm); (case zN => k_asm); (case zm => repeat (first | exact List.Mem.head _ | apply List.Mem.tail)); (case z82 => k_mem); (case tab => first | exact .inl rfl | exact .inr ⟨_, rfl⟩); (case zl => omega))
theorem trans3b {t t1 t2 : Tok} {c : Addr} (B : Below A₀ base outer h₀) (F : Fr h₀ L s.heap m) (X : (hd.heap_39 w.params).In h₀) (T : Top p loose mean mg mb h₀) (hk : cs.kind = .function) (N : News h₀ L s.heap [(82, tabObj #[.int 80 0, .int 39 0, .ref c])])
    (hd' : dp + 4 < recursionLimit) (_hu : un + 400 < cLine) (h1 : @LT.lt Nat _ 0 t1) (h2 : @LT.lt Nat _ t1 s.toks)
    (hret : ∀ (l : Addr) (t : Tok) (h' : Heap) (tk' : Nat) (o' : Obj), Tab o' → But82 s.heap h' o' → h'.get? l = some (listOf #[.str (Str.ofString "[*]") t, .str (Str.ofString "*") t1] 2) → s.heap.get? l = none → Q (.ref l) { s with heap := h', toks := tk' }) :
    wpAny (model PG w) (ktrTop dp un gd cn cs L a ccd cl outer) (call (.ref 87) [.str (Str.ofString "[*]*") t, .str (Str.ofString "*") t1, .str (Str.ofString "?") t2]) Q E s := by
  k_with_none
  k_with "execs cons" => (k_here; (with_reducible refine wpAny_execs_cons ?_); (try dsimp only); (try k_fold))
  k_with "eval Name" => ((k_here; (fail_if_success (with_reducible show wpAny _ _ (eval (Expr.Name _ _) (compEnvC _ _ _ _)) _ _ _))); first | k_dflt (refine' nameX_L ?w9F ?w9v ?_ ?w9a ?w9b; (case w9F => k_asm); (case w9a => rfl); (case w9b => rfl); (case w9v => rfl); k_whole) | k_dflt (refine' ld ?w9F ?w9v ?_; (case w9F => k_asm); (case w9v => exact rfl); k_whole))
  k_with "exec If" => (k_here; refine wpAny_If ?_)
  k_with "execs cons" => (k_here; dsimp only; try ((with_reducible refine' gen_toks ?w9lo ?w9hn ?_); (case w9lo => assumption); (case w9hn => omega); intro tk htk))
  k_with "execs cons" => (k_here; (with_reducible refine' gen_toks ?w9lo ?w9hn ?_); (case w9lo => assumption); (case w9hn => omega); intro tk htk)
  k_with "execs nil" => (k_here; dsimp only; try ((with_reducible refine' gen_toks ?w9lo ?w9hn ?_); (case w9lo => assumption); (case w9hn => omega); intro tk htk))
  k_with "execs nil" => (k_here; (with_reducible refine' gen_toks ?w9lo ?w9hn ?_); (case w9lo => assumption); (case w9hn => omega); intro tk htk)
  k_with "compareOp IsNot str str" => (k_here; (with_reducible refine' isNot_strs ?w9hx ?w9h1 ?w9h2 ?_); (case w9hx => decide +kernel); (case w9h1 => omega); (case w9h2 => omega))
  k_with "compareOp IsNot" => (k_here; (with_reducible refine' isNot_strs ?w9hx ?w9h1 ?w9h2 ?_); (case w9hx => decide +kernel); (case w9h1 => omega); (case w9h2 => omega))
  k_with "getAttr ref" => (k_here; (with_reducible show wpAny _ _ (getAttr (Value.ref _) _ _) _ _ _); k_dflt (refine' attr_append_T ?w9k1 ?w9k2 ?w9k3 ?_; (case w9k1 => k_asm); (case w9k2 => k_asm); (case w9k3 => k_mem); k_whole); intro q' h' tk' hto' F' N' l1; (try dsimp only at hto'); (try dsimp only); (replace l1 := allNe_of l1; simp only [AllNe, and_true] at l1); (try k_sweep))
  k_with "callWith ref" => (k_here; k_dflt (refine' callWith_B ?w9k1 ?w9k2 ?_; (case w9k1 => k_asm); (case w9k2 => k_mem); k_whole))
  k_with "And" => ((with_reducible show _ = some _ ∧ _); refine ⟨News.get (by k_asm) (by k_mem), ?_⟩; try dsimp only [List.nil_append, List.cons_append])
  k_with "call ref" => (k_here; (with_reducible show wpAny _ _ (call (Value.ref _) _) _ _ _); k_dflt (refine' esc_a ?w9k1 ?w9k2 ?w9k3 ?w9k4 ?w9k5 ?w9kK ?w9kd ?w9ku ?_; (case w9k1 => k_asm); (case w9k2 => k_asm); (case w9k3 => k_asm); (case w9k4 => k_asm); (case w9k5 => k_asm); (case w9kK => first | exact rfl | assumption); (case w9kd => ktr_room); (case w9ku => ktr_units)); intro t9 h9 tk9 hto9 ht9 F9 N9; (try dsimp only); (try dsimp only at hto9 ht9); (try k_fold))
  k_with "call ref" => (k_here; (with_reducible show wpAny _ _ (call (Value.ref _) _) _ _ _); k_dflt (refine' esc_q ?w9k1 ?w9k2 ?w9k3 ?w9k4 ?w9k5 ?w9kK ?w9kd ?w9ku ?_; (case w9k1 => k_asm); (case w9k2 => k_asm); (case w9k3 => k_asm); (case w9k4 => k_asm); (case w9k5 => k_asm); (case w9kK => first | exact rfl | assumption); (case w9kd => ktr_room); (case w9ku => ktr_units)); intro t9 h9 tk9 hto9 ht9 F9 N9; (try dsimp only); (try dsimp only at hto9 ht9); (try k_fold))
  k_with "call ref" => (k_here; k_dflt (refine' bound_append_K ?w9k1 ?w9k2 ?w9k3 ?w9k4 ?_ ?w9z; (case w9k1 => k_asm); (case w9k2 => k_asm); (case w9k3 => k_mem); (case w9k4 => k_upd); (case w9z => exact Nat.le_of_ble_eq_true rfl); k_whole); intro h' F' N'; (try dsimp only); (try k_sweep))
  k_with "newList" => (k_here; (with_reducible refine' newList_K ?w9k1 ?w9k2 ?_ ?w9z; (case w9z => exact Nat.le_of_ble_eq_true rfl); (case w9k1 => k_asm); (case w9k2 => k_asm); k_whole); intro l' h' F' N' l1; (try k_lt l1); (try dsimp only); (try k_sweep))
  k_with "subscriptTail Name Name str int" => (k_here; (refine KXi.item rfl (by omega) (by omega) (by omega) ?_); intro kxiE)
  k_with "call builtin:str.replace" => (k_here; k_dflt (refine' repl_K ?w9k2 ?w9k3 ?_; (case w9k2 => k_asm); (case w9k3 => k_asm); k_whole); intro t' h' tk' hto' F' N'; (try dsimp only at hto'); (try dsimp only); (try k_sweep))
  k_with "subscriptTail Name Slice str ref" => ((with_reducible show wpAny _ _ (subscriptTail _ (Expr.Slice (some _) (some _) none _) _ _) _ _ _); (with_reducible rename Fr _ _ _ _ => F'); (with_reducible rename News _ _ _ _ => N'); (refine wpAny_with_toks (Nat.le_refl _) ?_); (refine slice_strN_ss (hsz := ?w9hsz) (s := ⟨_, _, _, _, _⟩) F' N' ?_); (case w9hsz => size_fits); intro _ _ _ _ _ hto'; (try dsimp only at hto'); (try dsimp only))
  k_with "eval Lambda" => (k_here; kn_here; k_dflt (refine' kla_eval ?w9d0 ?_; (case w9d0 => exact rfl)); (refine wpAny_with_toks (Nat.le_refl _) ?_); (first | (k_dflt (refine' kla_nest ?w9F ?w9N ?w9T ?w9C ?w9cd ?w9U ?w9t ?w9n ?w9cl ?_; (case w9F => k_asm); (case w9N => k_asm); (case w9T => k_asm); (case w9cd => exact rfl); (case w9C => kn_code); (case w9U => k_updF); (case w9t => kn_triples); (case w9n => kn_among); (case w9cl => exact rfl); k_whole); intro f' c' oc' vs' t' ct' h' tk' F' N' d1' d2' l1 l2 hto'; (try dsimp only at N'); (try k_lt l1); (try k_lt2 l2); (try dsimp only at hto'); (try dsimp only)) | (k_dflt (refine' kla_hit ?w9F ?w9N ?w9T ?w9C ?w9cd ?w9mem ?w9t ?w9n ?w9cl ?_; (case w9F => k_asm); (case w9N => k_asm); (case w9T => k_asm); (case w9cd => exact rfl); (case w9C => kn_code); (case w9mem => k_mem); (case w9t => kn_triples); (case w9n => kn_hit); (case w9cl => exact rfl); k_whole); intro f' ct' h' tk' F' N' l1 hto'; (try dsimp only at N'); (try k_lt l1); (try dsimp only at hto'); (try dsimp only))))
  k_with "subscriptTail Name Constant str int" => (k_here; (refine KXi.item (n := 1) (by decide +kernel) (by decide) (by decide) (by decide) ?_); intro kxiE)
  k_with "truthy str" => (k_here; (with_reducible show wpAny _ _ (PySem.truthy (Value.str _ _)) _ _ _); (refine wpAny_with_toks (Nat.le_refl _) ?_); (refine' KXt.truthy_pos ?w9kxta ?w9kxtb ?w9kxtc ?_; (case w9kxta => kxt_pos); (case w9kxtb => kt_len); (case w9kxtc => exact Nat.le_of_ble_eq_true rfl)); intro _ hto'; (try dsimp only at hto'); (try dsimp only))
  k_with "formatField str" => (k_here; (refine wpAny_with_toks (Nat.le_refl _) ?_); (refine formatField_str ?_); intro _ _ hto'; (try dsimp only at hto'); (try dsimp only))
  k_with "getMethod ref" => (k_here; (with_reducible refine' getM_sub ?w9k1 ?w9k2 ?_); (case w9k1 => k_asm); (case w9k2 => k_asm))
  k_with "call builtin:re.Pattern.sub" => (k_here; k_dflt (refine' sub_K ?w9kA ?w9k1 ?w9k2 ?w9k3 ?w9k4 ?w9kd ?w9ku ?_; (case w9kA => exact rfl); (case w9k1 => k_asm); (case w9k2 => k_asm); (case w9k3 => k_asm); (case w9k4 => k_mem); (case w9kd => ktr_room); (case w9ku => ktr_units); k_whole); intro t' h' tk' hto' F' N'; (try dsimp only at hto'); (try dsimp only); (try k_sweep))
  have hL : (Str.ofString "[*]*").length = 4 := rfl
  have lo : TokLow s.toks := trivial
  k_dflt (refine' enterP ?k1 ?k2 ?k3 ?k4 ?k5 ?kA ?kF ?kK ?k6 ?k7 ?k8 ?k9 ?kB ?c5 ?_ ?c2 ?c3 ?c4; (case kA => exact rfl); (case kF => exact rfl); (case kK => assumption); (case k1 => k_asm); (case k2 => k_asm); (case k3 => k_asm); (case k4 => k_asm); (case k5 => k_asm); (case k6 => k_is); (case k7 => k_is); (case k8 => ktr_room); (case k9 => exact BindsTo.of_eq rfl); (case c5 => decide); (case kB => exact locs rfl); (case c2 => exact rfl); (case c3 => exact rfl); (case c4 => exact rfl); k_whole; intro g' L' h' R' F' N' B' X' T' l1; (try k_lt l1); (try dsimp only); (try k_fold))
  have hC := codeHd_of_K (c := 86) (P := 82) X' (by kernel_rfl)
  k_steps
  all_goals first
    | exact News.get (by k_asm) (by k_mem)
    | (exfalso; revert ‹(Builtin.Str.occurrences _ _ _ _ _).isEmpty = false›; decide +kernel)
    | (refine' use5 (hret _ _ _ _ _) ?tab (ret_listT ?zR ?zF ?zN ?zm ?z82 ?zl); (case zR => assumption); (case zF => k_asm); (case zN => k_asm); (case zm => repeat (first | exact List.Mem.head _ | apply List.Mem.tail)); (case z82 => k_mem); (case tab => first | exact .inl rfl | exact .inr ⟨_, rfl⟩); (case zl => omega))
end

section
variable {w : World} {p : Program} {loose : List Str} {mean : ExcName → Option Value} {mg mb : Str → Option Value} {dp un : Nat} {gd : Option (List Code)} {cn : Str} {cs : Scope} {a : Addr} {ccd : Value} {cl : List (Str × Addr)} {outer : List Env} {A₀ : Around} {base h₀ : Heap} {L : Addr} {m : Str → Option Value} {news : List (Addr × Obj)} {s : Shared}
    {Q E : Value → Shared → Prop}
theorem stepR0 {it fl q : Addr} {oi o : Obj} {vs : Array Value} {nn : Nat} {x pat : Str} {xt pt : Tok} (B : Below A₀ base outer h₀) (F : Fr h₀ L s.heap m) (X : (hd.heap_39 w.params).In h₀) (T : Top p loose mean mg mb h₀) (hk : cs.kind = .function)
    (XB : (hd.heap_39 w.params).In base) (TB : Top p loose mean mg mb base) (D : KtsDicts (outer.filterMap (·.frame)) h₀)
    (N : News h₀ L s.heap [(it, oi), (fl, listOf vs nn), (82, o)]) (hq : IsTup h₀ q #[.str x xt, .str pat pt])
    (hd' : dp + 5 < recursionLimit) (_hu : un + 500 < cLine) (h3 : Txt.slice x none (some 3) ≠ Str.ofString "257") (hlen : x.length ≤ 100)
    (hret : ∀ (h₁ : Heap) (h' : Heap) (tk' : Nat), KtsTurn (outer.filterMap (·.frame)) h₀ h₁ → Fr h₁ L h' m → News h₁ L h' [(it, oi), (fl, listOf vs nn), (82, o)] → Below A₀ base outer h₁ → (hd.heap_39 w.params).In h₁ → Top p loose mean mg mb h₁ → KtsDicts (outer.filterMap (·.frame)) h₁ → Q (.ref fl) { s with heap := h', toks := tk' }) :
    wpAny (model PG w) (ktrTop dp un gd cn cs L a ccd [] outer) (call (.ref 127) [.ref fl, .ref q]) Q E s := by
  k_with_none
  k_with "execs cons" => (k_here; (with_reducible refine wpAny_execs_cons ?_); (try dsimp only); (try k_fold))
  k_with "call ref" => (k_here; (with_reducible show wpAny _ _ (call (Value.ref _) _) _ _ _); refine wpAny_call ?_; k_dflt (refine' code_def ?w9k1 ?w9k2 ?w9k3 ?w9k4 ?w9k5 ?w9kA ?w9kF ?w9kK ?w9k6 ?w9k7 ?w9k8 ?w9k9 ?w9kB ?_ ?w9c2 ?w9c3 ?w9c4 ?w9c5; (case w9kA => exact rfl); (case w9kF => exact rfl); (case w9kK => first | exact rfl | assumption); (case w9k1 => k_asm); (case w9k2 => k_asm); (case w9k3 => k_asm); (case w9k4 => k_asm); (case w9k5 => k_asm); (case w9k6 => k_is); (case w9k7 => k_is); (case w9k8 => ktr_room); (case w9k9 => exact BindsTo.of_eq rfl); (case w9c5 => decide); (case w9kB => exact locs rfl); (case w9c2 => exact rfl); (case w9c3 => exact rfl); (case w9c4 => exact rfl); k_whole; intro g' L' h' FG' F' N' B' X' T'; (try dsimp only); (try k_fold)))
  k_with "exec If" => (k_here; refine wpAny_If ?_)
  k_with "execs cons" => exact ((‹(Txt.slice _ none (some 3) != Str.ofString "257") = false → False› ‹(Txt.slice _ none (some 3) != Str.ofString "257") = false›).elim)
  have h3' : (Txt.slice x none (some 3) != Str.ofString "257") = false → False := fun e => h3 (by simpa using e)
  k_dflt (refine wpAny_call ?_; refine' code_defS (g₀ := h₀) ?k1 ?k2 ?k3 ?k4 ?k5 ?XB ?TB ?D ?T0 ?kA ?k6 ?k7 ?k8 ?k9 ?kB ?_ ?cK ?c2 ?c3 ?c4 ?c5; (case kA => exact rfl); (case k2 => k_asm); (case k1 => k_asm); (case XB => assumption); (case TB => assumption); (case D => assumption); (case T0 => exact KtsTurn.refl); (case k3 => k_asm); (case k4 => k_asm); (case k5 => k_asm); (case k6 => k_is); (case k7 => k_is); (case k8 => ktr_room); (case k9 => exact BindsTo.of_eq rfl); (case kB => exact locs rfl); (case cK => assumption); (case c2 => exact rfl); (case c3 => exact rfl); (case c4 => exact rfl); (case c5 => decide); k_whole; intro g' L' h' FG' F' N' B' X' T' D'; (try dsimp only); (try k_fold))
  have hq' := hq.keeps FG'.keep
  k_steps
  all_goals exact hret _ _ _ (by assumption) (by assumption) (by assumption) (by assumption) (by assumption) (by assumption) (by assumption)
end

def patV : Nat → Str | 0 => Str.ofString "a*" | 1 => Str.ofString "*\"*" | 2 => Str.ofString "?" | _ => Str.ofString "[*]*"
def tkV : Nat → Str → Bool | 0 => tk0 | 1 => tk1 | 2 => tk2 | _ => tk3
def Parts : Nat → Array Value → Prop
  | 0, vs => ∃ t u, vs = #[.str (Str.ofString "a") t, .str (Str.ofString "*") u]
  | 1, vs => ∃ t u v, vs = #[.str (Str.ofString "*") t, .str (Str.ofString "\"") u, .str (Str.ofString "*") v]
  | 2, vs => ∃ t, vs = #[.str (Str.ofString "?") t]
  | _, vs => ∃ t u, vs = #[.str (Str.ofString "[*]") t, .str (Str.ofString "*") u]
theorem fr_but {h h' h₀ : Heap} {L : Addr} {m : Str → Option Value} {o o' : Obj} (k : But82 h h' o') (F : Fr h₀ L h m) (n : (82 : Addr) ≠ L ∧ h₀.get? 82 = none) : Fr h₀ L h' m :=
  ⟨let ⟨o, es, ep, e, r⟩ := F.ns; ⟨o, es, ep, k.1 _ _ (fun q => n.1 q.symm) e, r⟩, fun b o e => k.1 _ _ (fun q => by rw [q, n.2] at e; cases e) (F.keep b o e), F.above⟩
theorem fresh_new {h h₀ : Heap} {L l : Addr} {m : Str → Option Value} (F : Fr h₀ L h m) (hn : h.get? l = none) : l ≠ L ∧ h₀.get? l = none := by
  constructor
  · intro e
    obtain ⟨o, es, ep, e2, r⟩ := F.ns
    rw [← e, hn] at e2
    cases e2
  · cases e : h₀.get? l with
    | none => rfl
    | some o =>
      have := F.keep _ _ e
      rw [hn] at this
      cases this
section
variable {w : World} {p : Program} {loose : List Str} {mean : ExcName → Option Value} {mg mb : Str → Option Value} {dp un : Nat} {gd : Option (List Code)} {cn : Str} {cs : Scope} {a : Addr} {ccd : Value} {cl : List (Str × Addr)} {outer : List Env} {A₀ : Around} {base h₀ : Heap} {L : Addr} {m : Str → Option Value} {news : List (Addr × Obj)} {s : Shared}
    {Q E : Value → Shared → Prop}
theorem trans_K {i : Nat} {t t1 t2 : Tok} {a1 a2 : Addr} {o1 o2 o : Obj} (B : Below A₀ base outer h₀) (F : Fr h₀ L s.heap m) (X : (hd.heap_39 w.params).In h₀) (T : Top p loose mean mg mb h₀) (hk : cs.kind = .function) (N : News h₀ L s.heap [(a1, o1), (a2, o2), (82, o)])
    (hd' : dp + 4 < recursionLimit) (hu : un + 400 < cLine) (h1 : @LT.lt Nat _ 0 t1) (h2 : @LT.lt Nat _ t1 s.toks) (ho : Tab o) (hne : a1 ≠ 82 ∧ a2 ≠ 82)
    (hret : ∀ (l : Addr) (vs : Array Value) (nn : Nat) (o' : Obj) (h' : Heap) (tk' : Nat), Tab o' → Parts i vs → l ≠ 82 → Fr h₀ L h' m → News h₀ L h' [(l, listOf vs nn), (a1, o1), (a2, o2), (82, o')] → Q (.ref l) { s with heap := h', toks := tk' }) :
    wpAny (model PG w) (ktrTop dp un gd cn cs L a ccd cl outer) (call (.ref 87) [.str (patV i) t, .str (Str.ofString "*") t1, .str (Str.ofString "?") t2]) Q E s := by
  have n82 := (N (82, o) (.tail _ (.tail _ (.head _))))
  have N0 : News h₀ L s.heap [] := fun q hq => nomatch hq
  have ne82 : ∀ {l : Addr}, s.heap.get? l = none → l ≠ 82 := fun e q => by rw [q, n82.1] at e; cases e
  have fin : ∀ (l : Addr) (vs : Array Value) (nn : Nat) (h' : Heap) (tk' : Nat), Parts i vs → s.heap.StaysIn h' → h'.get? l = some (listOf vs nn) → s.heap.get? l = none → Q (.ref l) { s with heap := h', toks := tk' } := fun l vs nn h' tk' p z1 z2 z3 =>
    hret l vs nn o h' tk' ho p (ne82 z3) (fr_stays z1 F) (fun q hq => by
      rcases List.mem_cons.mp hq with rfl | hq
      · exact ⟨z2, fresh_new F z3⟩
      · exact news_stays z1 N q hq)
  rcases i with _ | _ | _ | i
  · exact trans0 B F X T hk N0 hd' hu h1 h2 fun l t h' tk' z1 z2 z3 => fin l _ _ h' tk' ⟨_, _, rfl⟩ z1 z2 z3
  · exact trans1 B F X T hk N0 hd' hu h1 h2 fun l t h' tk' z1 z2 z3 => fin l _ _ h' tk' ⟨_, _, _, rfl⟩ z1 z2 z3
  · exact trans2 B F X T hk N0 hd' hu h1 h2 fun l h' tk' z1 z2 z3 => fin l _ _ h' tk' ⟨_, rfl⟩ z1 z2 z3
  · have fin3 : ∀ (l : Addr) (vs : Array Value) (nn : Nat) (o' : Obj) (h' : Heap) (tk' : Nat), Tab o' → Parts (i + 3) vs → But82 s.heap h' o' → h'.get? l = some (listOf vs nn) → s.heap.get? l = none → Q (.ref l) { s with heap := h', toks := tk' } := fun l vs nn o' h' tk' ho' p z1 z2 z3 =>
      hret l vs nn o' h' tk' ho' p (ne82 z3) (fr_but (o := o) z1 F n82.2) (fun q hq => by
        rcases List.mem_cons.mp hq with rfl | hq
        · exact ⟨z2, fresh_new F z3⟩
        · rcases List.mem_cons.mp hq with rfl | hq
          · have := N (a1, o1) (.head _)
            exact ⟨z1.1 _ _ hne.1 this.1, this.2⟩
          · rcases List.mem_cons.mp hq with rfl | hq
            · have := N (a2, o2) (.tail _ (.head _))
              exact ⟨z1.1 _ _ hne.2 this.1, this.2⟩
            · rw [List.mem_singleton] at hq
              subst hq
              exact ⟨z1.2, n82.2⟩)
    rcases ho with rfl | ⟨c, rfl⟩
    · exact trans3a B F X T hk (fun q hq => by rw [List.mem_singleton] at hq; subst hq; exact n82) hd' hu h1 h2 fun l t h' tk' o' ho' z1 z2 z3 => fin3 l _ _ o' h' tk' ho' ⟨_, _, rfl⟩ z1 z2 z3
    · exact trans3b B F X T hk (fun q hq => by rw [List.mem_singleton] at hq; subst hq; exact n82) hd' hu h1 h2 fun l t h' tk' o' ho' z1 z2 z3 => fin3 l _ _ o' h' tk' ho' ⟨_, _, rfl⟩ z1 z2 z3
theorem takes_K {i : Nat} {x : Str} {t : Tok} {lp : Addr} {vs : Array Value} {nn : Nat} (B : Below A₀ base outer h₀) (F : Fr h₀ L s.heap m) (X : (hd.heap_39 w.params).In h₀) (N : News h₀ L s.heap news) (T : Top p loose mean mg mb h₀) (hk : cs.kind = .function) (hm : (lp, listOf vs nn) ∈ news) (hp : Parts i vs)
    (hd' : dp + 2 < recursionLimit) (hu : un + 400 < cLine) (hx : x ∈ words)
    (hret : ∀ (h' : Heap) (tk' : Nat), Fr h₀ L h' m → News h₀ L h' news → Q (.bool (tkV i x)) { s with heap := h', toks := tk' }) :
    wpAny (model PG w) (ktrTop dp un gd cn cs L a ccd cl outer) (call (.ref 115) [.ref lp, .str x t]) Q E s := by
  have N1 : News h₀ L s.heap [(lp, listOf vs nn)] := fun q hq => by rw [List.mem_singleton] at hq; subst hq; exact N _ hm
  have fin : ∀ (h' : Heap) (tk' : Nat), s.heap.StaysIn h' → Q (.bool (tkV i x)) { s with heap := h', toks := tk' } := fun h' tk' k => hret h' tk' (fr_stays k F) (news_stays k N)
  rcases i with _ | _ | _ | i
  · obtain ⟨t, u, rfl⟩ := hp
    exact takes0 B F X T hk N1 hd' hu hx fin
  · obtain ⟨t, u, v, rfl⟩ := hp
    exact takes1 B F X T hk N1 hd' hu hx fin
  · obtain ⟨t, rfl⟩ := hp
    exact takes2 B F X T hk N1 hd' hu hx fin
  · obtain ⟨t, u, rfl⟩ := hp
    exact takes3 B F X T hk N1 hd' hu hx fin
end

def stepL (b : Bool) (nm : Str) (ns : List Str) : List Str := if b then ns ++ [nm] else ns.dropLast
theorem strs_add {vs : Array Value} {ns : List Str} {nm : Str} {t : Tok} {b : Bool} (h : StrsAre vs.toList ns) (hb : b = true) : StrsAre ((vs.toList ++ [Value.str nm t]).toArray).toList (stepL b nm ns) := by
  subst hb
  exact h.append' (.cons _ _ .nil)
theorem strs_drop {vs : Array Value} {ns : List Str} {nm : Str} {b : Bool} (h : StrsAre vs.toList ns) (hb : b = false) : StrsAre (slicePick vs none (some (-1)) none).toList (stepL b nm ns) := by
  subst hb
  rw [kmk_pick_nat _ (kms_bounds none (some (-1)) vs.size)]
  show StrsAre ((vs.toList.drop 0).take (vs.size - 1 - 0)) (ns.dropLast)
  rw [List.drop_zero, Nat.sub_zero, List.dropLast_eq_take, ← Array.length_toList, h.length]
  exact h.take' _
theorem size_in {vs : Array Value} {ns : List Str} (h : StrsAre vs.toList ns) (hn : ns.length ≤ 1000) : vs.size ≤ sizeLine := by
  rw [← Array.length_toList, h.length, sizeLine_eq]; omega
theorem size_two {vs : Array Value} {ns : List Str} {v : Value} (h : StrsAre vs.toList ns) (hn : ns.length ≤ 1000) : vs.toList.length + (#[v] : Array Value).toList.length ≤ sizeLine := by
  rw [h.length, sizeLine_eq]
  show ns.length + 1 ≤ _
  omega
section
variable {w : World} {p : Program} {loose : List Str} {mean : ExcName → Option Value} {mg mb : Str → Option Value} {dp un : Nat} {gd : Option (List Code)} {cn : Str} {cs : Scope} {a : Addr} {ccd : Value} {cl : List (Str × Addr)} {outer : List Env} {A₀ : Around} {base h₀ : Heap} {L : Addr} {m : Str → Option Value} {news : List (Addr × Obj)} {s : Shared}
    {Q E : Value → Shared → Prop}
theorem step_ok {it fl q : Addr} {oi o : Obj} {vs : Array Value} {nn i : Nat} {x : Str} {xt pt : Tok} {ns : List Str} (B : Below A₀ base outer h₀) (F : Fr h₀ L s.heap m) (X : (hd.heap_39 w.params).In h₀) (T : Top p loose mean mg mb h₀) (hk : cs.kind = .function)
    (N : News h₀ L s.heap [(it, oi), (fl, listOf vs nn), (82, o)]) (hq : IsTup h₀ q #[.str x xt, .str (patV i) pt])
    (hd' : dp + 6 < recursionLimit) (_hu : un + 600 < cLine) (h3 : Txt.slice x none (some 3) = Str.ofString "257") (hlen : x.length ≤ 100) (hw : pv x ∈ words) (ho : Tab o) (hne : it ≠ 82 ∧ fl ≠ 82) (hs : StrsAre vs.toList ns) (hn : ns.length ≤ 1000) (hto : @LT.lt Nat _ 0 s.toks)
    (hret : ∀ (l : Addr) (vs' : Array Value) (nn' : Nat) (o' : Obj) (h' : Heap) (tk' : Nat), Tab o' → StrsAre vs'.toList (stepL (tkV i (pv x)) (pv x) ns) → l ≠ 82 → Fr h₀ L h' m → News h₀ L h' [(it, oi), (l, listOf vs' nn'), (82, o')] → Q (.ref l) { s with heap := h', toks := tk' }) :
    wpAny (model PG w) (ktrTop dp un gd cn cs L a ccd cl outer) (call (.ref 127) [.ref fl, .ref q]) Q E s := by
  k_with_none
  k_with "execs cons" => (k_here; (with_reducible refine wpAny_execs_cons ?_); (try dsimp only); (try k_fold))
  k_with "execs cons" => (k_here; dsimp only; try ((with_reducible refine' gen_toks ?w9lo ?w9hn ?_); (case w9lo => assumption); (case w9hn => omega); intro tk htk))
  k_with "execs cons" => (k_here; (with_reducible refine' gen_toks ?w9lo ?w9hn ?_); (case w9lo => assumption); (case w9hn => omega); intro tk htk)
  k_with "execs nil" => (k_here; dsimp only; try ((with_reducible refine' gen_toks ?w9lo ?w9hn ?_); (case w9lo => assumption); (case w9hn => omega); intro tk htk))
  k_with "execs nil" => (k_here; (with_reducible refine' gen_toks ?w9lo ?w9hn ?_); (case w9lo => assumption); (case w9hn => omega); intro tk htk)
  k_with "exec If" => (k_here; refine wpAny_If ?_)
  k_with "call ref" => (k_here; (with_reducible show wpAny _ _ (call (Value.ref 63) _) _ _ _); k_dflt (refine' p257_con ?w9k1 ?w9k2 ?w9k3 ?w9k4 ?w9k5 ?w9kK ?w9kd ?w9ku ?w9z3 ?w9zl ?_; (case w9k1 => k_asm); (case w9k2 => k_asm); (case w9k3 => k_asm); (case w9k4 => k_asm); (case w9k5 => k_asm); (case w9kK => first | exact rfl | assumption); (case w9kd => ktr_room); (case w9ku => ktr_units); (case w9z3 => assumption); (case w9zl => assumption)); intro t9 h9 tk9 hto9 F9 N9; (try dsimp only); (try dsimp only at hto9); (try k_fold))
  k_with "call ref" => (k_here; (with_reducible show wpAny _ _ (call (Value.ref 87) _) _ _ _); k_dflt (refine' trans_K ?w9k1 ?w9k2 ?w9k3 ?w9k5 ?w9kK ?w9k4 ?w9kd ?w9ku ?w9z1 ?w9z2 ?w9zo ?w9zn ?_; (case w9k1 => k_asm); (case w9k2 => k_asm); (case w9k3 => k_asm); (case w9k4 => k_asm); (case w9k5 => k_asm); (case w9kK => first | exact rfl | assumption); (case w9kd => ktr_room); (case w9ku => ktr_units); (case w9z1 => ((try dsimp only); omega)); (case w9z2 => ((try dsimp only); omega)); (case w9zo => assumption); (case w9zn => assumption)); intro l9 vs9 nn9 o9 h9 tk9 ho9 hp9 hl9 F9 N9; (try dsimp only); (try k_fold))
  k_with "call ref" => (k_here; (with_reducible show wpAny _ _ (call (Value.ref 115) _) _ _ _); k_dflt (refine' takes_K ?w9k1 ?w9k2 ?w9k3 ?w9k4 ?w9k5 ?w9kK ?w9zm ?w9zp ?w9kd ?w9ku ?w9zw ?_; (case w9k1 => k_asm); (case w9k2 => k_asm); (case w9k3 => k_asm); (case w9k4 => k_asm); (case w9k5 => k_asm); (case w9kK => first | exact rfl | assumption); (case w9zm => k_mem); (case w9zp => assumption); (case w9kd => ktr_room); (case w9ku => ktr_units); (case w9zw => assumption)); intro h9 tk9 F9 N9; (try dsimp only); (try k_fold))
  k_with "binaryOp Add ref ref" => (k_here; k_dflt (refine' kmk_add_lit ?w9F ?w9N ?w9a ?w9b rfl ?_ ?w9z; (case w9F => k_asm); (case w9N => k_asm); (case w9a => kmk_list); (case w9b => kmk_list); (case w9z => exact size_two (by assumption) (by assumption))); intro D' h' F' N' l1; (try k_lt l1); (try k_sweep))
  k_with "subscriptTail Name Slice ref ref" => (k_here; k_dflt (refine' kmk_slice ?w9F ?w9N ?w9l ?w9p ?w9q ?_ ?w9s ?w9t ?w9z; (case w9F => k_asm); (case w9N => k_asm); (case w9l => kmk_list); (case w9p => kmk_part); (case w9q => kmk_part); (case w9s => with_unfolding_all rfl); (case w9t => kmk_pure); (case w9z => exact size_in (by assumption) (by assumption))); intro D' h' F' N' l1; (try k_lt l1); (try k_sweep))
  have lo : TokLow s.toks := trivial
  refine wpAny_call ?_
  k_dflt (refine' code_def ?k1 ?k2 ?k3 ?k4 ?k5 ?kA ?kF ?kK ?k6 ?k7 ?k8 ?k9 ?kB ?_ ?c2 ?c3 ?c4 ?c5; (case kA => exact rfl); (case kF => exact rfl); (case kK => first | exact rfl | assumption); (case k1 => k_asm); (case k2 => k_asm); (case k3 => k_asm); (case k4 => k_asm); (case k5 => k_asm); (case k6 => k_is); (case k7 => k_is); (case k8 => ktr_room); (case k9 => exact BindsTo.of_eq rfl); (case c5 => decide); (case kB => exact locs rfl); (case c2 => exact rfl); (case c3 => exact rfl); (case c4 => exact rfl); k_whole; intro g' L' h' FG' F' N' B' X' T'; (try dsimp only); (try k_fold))
  have hq' := hq.keeps FG'.keep
  k_steps
  all_goals first
    | exact hret _ _ _ _ _ _ (by assumption) (strs_add hs (by assumption)) (Nat.ne_of_gt (by omega)) (by k_asm) (by (first | k_asm | (refine' cb_drop ?cbN ?cbS; (case cbN => assumption); (case cbS => kcj_all))))
    | exact hret _ _ _ _ _ _ (by assumption) (strs_drop hs (by assumption)) (Nat.ne_of_gt (by omega)) (by k_asm) (by (first | k_asm | (refine' cb_drop ?cbN ?cbS; (case cbN => assumption); (case cbS => kcj_all))))
end

structure GoodX (x : Str) : Prop where
  len : x.length ≤ 100
  mem : Txt.slice x none (some 3) = Str.ofString "257" → pv x ∈ words
def stepX (x : Str) (i : Nat) (ns : List Str) : List Str := if Txt.slice x none (some 3) = Str.ofString "257" then stepL (tkV i (pv x)) (pv x) ns else ns
theorem stepL_len (b : Bool) (nm : Str) (ns : List Str) : (stepL b nm ns).length ≤ ns.length + 1 := by
  cases b
  · show ns.dropLast.length ≤ _
    rw [List.length_dropLast]; omega
  · show (ns ++ [nm]).length ≤ _
    rw [List.length_append]; exact Nat.le_refl _
theorem stepX_len (x : Str) (i : Nat) (ns : List Str) : (stepX x i ns).length ≤ ns.length + 1 := by
  unfold stepX
  split
  · exact stepL_len _ _ _
  · omega
section
variable {w : World} {p : Program} {loose : List Str} {mean : ExcName → Option Value} {mg mb : Str → Option Value} {dp un : Nat} {gd : Option (List Code)} {cn : Str} {cs : Scope} {a : Addr} {ccd : Value} {cl : List (Str × Addr)} {outer : List Env} {A₀ : Around} {base h₀ : Heap} {L : Addr} {m : Str → Option Value} {news : List (Addr × Obj)} {s : Shared}
    {Q E : Value → Shared → Prop}
theorem step_con0 {it fl q : Addr} {oi o : Obj} {vs : Array Value} {nn i : Nat} {x : Str} {xt pt : Tok} {ns : List Str} (B : Below A₀ base outer h₀) (F : Fr h₀ L s.heap m) (X : (hd.heap_39 w.params).In h₀) (T : Top p loose mean mg mb h₀) (hk : cs.kind = .function)
    (XB : (hd.heap_39 w.params).In base) (TB : Top p loose mean mg mb base) (D : KtsDicts (outer.filterMap (·.frame)) h₀)
    (N : News h₀ L s.heap [(it, oi), (fl, listOf vs nn), (82, o)]) (hq : IsTup h₀ q #[.str x xt, .str (patV i) pt])
    (hd' : dp + 6 < recursionLimit) (hu : un + 600 < cLine) (hx : GoodX x) (ho : Tab o) (hne : it ≠ 82 ∧ fl ≠ 82) (hs : StrsAre vs.toList ns) (hn : ns.length ≤ 1000) (hto : @LT.lt Nat _ 0 s.toks)
    (hret : ∀ (h₁ : Heap) (l : Addr) (vs' : Array Value) (nn' : Nat) (o' : Obj) (h' : Heap) (tk' : Nat), Tab o' → StrsAre vs'.toList (stepX x i ns) → l ≠ 82 → KtsTurn (outer.filterMap (·.frame)) h₀ h₁ → Fr h₁ L h' m → News h₁ L h' [(it, oi), (l, listOf vs' nn'), (82, o')] →
      Below A₀ base outer h₁ → (hd.heap_39 w.params).In h₁ → Top p loose mean mg mb h₁ → KtsDicts (outer.filterMap (·.frame)) h₁ → Q (.ref l) { s with heap := h', toks := tk' }) :
    wpAny (model PG w) (ktrTop dp un gd cn cs L a ccd [] outer) (call (.ref 127) [.ref fl, .ref q]) Q E s := by
  by_cases h3 : Txt.slice x none (some 3) = Str.ofString "257"
  · have e : stepX x i ns = stepL (tkV i (pv x)) (pv x) ns := if_pos h3
    rw [e] at hret
    exact step_ok B F X T hk N hq hd' hu h3 hx.len (hx.mem h3) ho hne hs hn hto fun l vs' nn' o' h' tk' ho' hs' hl F' N' => hret h₀ l vs' nn' o' h' tk' ho' hs' hl KtsTurn.refl F' N' B X T D
  · have e : stepX x i ns = ns := if_neg h3
    rw [e] at hret
    exact stepR0 B F X T hk XB TB D N hq (by omega) (by omega) h3 hx.len fun h₁ h' tk' kT F' N' B' X' T' D' => hret h₁ fl vs nn o h' tk' ho hs hne.2 kT F' N' B' X' T' D'
theorem step_con {it fl q : Addr} {oi o : Obj} {vs : Array Value} {nn i : Nat} {x : Str} {xt pt : Tok} {ns : List Str} (B : Below A₀ base outer h₀) (F : Fr h₀ L s.heap m) (X : (hd.heap_39 w.params).In h₀) (T : Top p loose mean mg mb h₀) (hk : cs.kind = .function)
    (XB : (hd.heap_39 w.params).In base) (TB : Top p loose mean mg mb base) (D : KtsDicts (outer.filterMap (·.frame)) h₀)
    (N : News h₀ L s.heap [(it, oi), (fl, listOf vs nn), (82, o)]) (hq : IsTup h₀ q #[.str x xt, .str (patV i) pt])
    (hd' : dp + 6 < recursionLimit) (hu : un + 600 < cLine) (hx : GoodX x) (ho : Tab o) (hne : it ≠ 82 ∧ fl ≠ 82) (hs : StrsAre vs.toList ns) (hn : ns.length ≤ 1000) (hto : @LT.lt Nat _ 0 s.toks)
    (hret : ∀ (h₁ : Heap) (l : Addr) (vs' : Array Value) (nn' : Nat) (o' : Obj) (h' : Heap) (tk' : Nat), @LE.le Nat _ s.toks tk' → Tab o' → StrsAre vs'.toList (stepX x i ns) → l ≠ 82 → KtsTurn (outer.filterMap (·.frame)) h₀ h₁ → Fr h₁ L h' m → News h₁ L h' [(it, oi), (l, listOf vs' nn'), (82, o')] →
      Below A₀ base outer h₁ → (hd.heap_39 w.params).In h₁ → Top p loose mean mg mb h₁ → KtsDicts (outer.filterMap (·.frame)) h₁ → Q (.ref l) { s with heap := h', toks := tk' }) :
    wpAny (model PG w) (ktrTop dp un gd cn cs L a ccd [] outer) (call (.ref 127) [.ref fl, .ref q]) Q E s :=
  wpAny_with_toks (Nat.le_refl _) (step_con0 B F X T hk XB TB D N hq hd' hu hx ho hne hs hn hto fun h₁ l vs' nn' o' h' tk' a b c d e f g h i j hto => hret h₁ l vs' nn' o' h' tk' hto a b c d e f g h i j)
end
section
variable {prog : Program} {w : World} {A : Around} {E : Value → Shared → Prop} {s : Shared} {env : Env} {target : Expr} {body : List Stmt}
theorem red_for {y : Str} {py pos : Pos} {I tl : Addr} {vsq : Array Value} {Q : Flow → Shared → Prop} (J : Nat → Shared → Prop) (hh : A.handled = none)
    (h : wpAny (model prog w) A (eval (.Name y py) env) (fun xv s₁ => xv = .ref I ∧ J 0 s₁) E s)
    (hit : ∀ i s', J i s' → s'.heap.IsListIter I tl i ∧ s'.heap.IsList tl vsq ∧ i ≤ vsq.size)
    (turn : ∀ i s' h' v, J i s' → vsq[i]? = some v → Heap.SameBut I s'.heap h' → h'.IsListIter I tl (i + 1) → wpAny (model prog w) A (assign target env v) (fun _ s₂ => wpAny (model prog w) A (execs body env) (fun f s₃ => match f with
      | .next | .cont => J (i + 1) s₃ | .brk => Q .next s₃ | .ret v => Q (.ret v) s₃) E s₂) E { s' with heap := h' })
    (done : ∀ s' h', J vsq.size s' → Heap.ExtBut I s'.heap h' → Q .next { s' with heap := h' })
    (hgo : ∀ i v, letOwnedTupleGo target i v = pure () := by intros; rfl)
    (hs : ∀ x, foldedSetIterable (.Name y py) env x = pure x := by intro _; rfl)
    (hE : PassesOwn (model prog w) A env E := by passes_own) :
    wpAny (model prog w) A (exec (.For target (.Name y py) body [] pos) env) Q E s := by
  refine wpAny_For (wpAny_mono h (fun xv s₁ h₁ => ?_) fun _ _ e => e) hs
  obtain ⟨rfl, hJ⟩ := h₁
  refine wpAny_pyIter_listiter (hit 0 _ hJ).1 ?_
  refine codeAny_forLoop_any (fun k s' => ∃ i, J i s' ∧ k = vsq.size + 1 - i) ?_ (vsq.size + 1) ⟨0, hJ, rfl⟩
  rintro k s' ⟨i, hJ', rfl⟩
  obtain ⟨h1, h2, h3⟩ := hit i s' hJ'
  cases hx : vsq[i]? with
  | some v =>
    refine wpAny_pyNext_list_item h1 h2 hx fun h' hi' hb => ?_
    refine wpAny_of_eq (hgo _ _) ?_
    refine wpAny_mono (wpAny_passesOwn hE (wpAny_mono (turn i s' h' v hJ' hx hb hi') (fun _ s₂ h₂ => wpAny_passesOwn hE h₂) fun _ _ e => e)) (fun _ s₂ h₂ => wpAny_mono h₂ (fun f s₃ h₃ => ?_) fun _ _ e => e) fun _ _ e => e
    have hlt : i < vsq.size := by
      rcases Nat.lt_or_ge i vsq.size with z | z
      · exact z
      · rw [Array.getElem?_eq_none z] at hx; cases hx
    cases f with
    | ret v => exact h₃
    | brk => exact h₃
    | cont => exact ⟨vsq.size + 1 - (i + 1), by omega, i + 1, h₃, rfl⟩
    | next => exact ⟨vsq.size + 1 - (i + 1), by omega, i + 1, h₃, rfl⟩
  | none =>
    have hge : vsq.size ≤ i := by
      rcases Nat.lt_or_ge i vsq.size with z | z
      · rw [Array.getElem?_eq_getElem z] at hx; cases hx
      · exact z
    have : i = vsq.size := by omega
    subst this
    exact wpAny_pyNext_list_end hh h1 h2 hx fun h' hb => wpAny_execs_nil (done s' h' hJ' hb)
end

section
variable {prog : Program} {w : World} {A₀ A : Around} {s : Shared} {base h₀ : Heap} {L a : Addr} {m : Str → Option Value} {cn : Str} {cs : Scope} {ccd : Value} {sub : List (Addr × Obj)} {K : Frag} {p : Program} {loose : List Str} {mean : ExcName → Option Value} {mg mb : Str → Option Value}
    {Q E : Value → Shared → Prop} {name qual : Str} {params : Arguments} {body : List Stmt} {scope : Scope} {dV kV doc pm cdv ct oc : Value} {an od : Option Addr} {osl : Array (Option Value)} {f : Addr} {args : List Value} {binds : List (Str × Value)}
def Back (h₀ : Heap) (L : Addr) (m : Str → Option Value) (h : Heap) (sub : List (Addr × Obj)) (fs : List Addr) (g : Heap) (L' : Addr) : Prop :=
  ∀ g1 h1 m1 all, KtsTurn fs g g1 → Fr g1 L' h1 m1 → News g1 L' h1 all → Fr h₀ L h1 m ∧ News h₀ L h1 all ∧ (∀ b o, h.get? b = some o → b ∉ sub.map (·.1) → b ≠ L → h1.get? b = some o)
theorem enterT (B : Below A₀ base [] h₀) (F : Fr h₀ L s.heap m) (X₀ : K.In h₀) (N : News h₀ L s.heap sub) (T : Top p loose mean mg mb h₀) (hA : A.frames = some [envOf cn cs L a ccd])
    (ho : K.lookup f = some ⟨oc, od, .func (fnOf name qual params body scope dV kV doc pm an cdv ct), osl⟩) (hcd : codeIn K cdv qual = true) (hroom : A.depth < recursionLimit)
    (hbind : BindsTo s (fnOf name qual params body scope dV kV doc pm an cdv ct) ⟨args, []⟩ binds) (hloc : ∀ y ∈ binds, scope.names.lookup y.1 = some .local)
    (h : ∀ g L' h₁, Rest s.heap sub g → Back h₀ L m s.heap sub ([envOf cn cs L a ccd].filterMap (·.frame)) g L' → Fr g L' h₁ (fun y => binds.reverse.lookup y) → News g L' h₁ sub → Below A base [envOf cn cs L a ccd] g → K.In g → Top p loose mean mg mb g →
      KtsDicts ([envOf cn cs L a ccd].filterMap (·.frame)) g → (∀ q ∈ sub, q.1 < L') →
      wpAny (model prog w) (A.deeper (envOf qual scope L' f cdv)) (execs body (envOf qual scope L' f cdv))
        (fun fl s' => Q (match fl with | .ret v => v | _ => .none) s')
        (fun e s' => wpAny (model prog w) (A.deeper (envOf qual scope L' f cdv)) (leaving (envOf qual scope L' f cdv) e) (fun _ s'' => E e s'') (fun e' s'' => E e' s'') s')
        { s with heap := h₁, toks := s.toks + binds.length })
    (hck : cs.kind = .function) (hco : scope.isCoroutine = false) (hgen : scope.isGenerator = false) (hk : scope.kind = .function)
    (hcell : ∀ x ∈ scope.names, x.2 ≠ .cell) : wpAny (model prog w) A (call (.ref f) args) Q E s := by
  have X := X₀.keeps F.keep
  refine wpAny_call (codeAny_call_def (fd := fnOf name qual params body scope dV kV doc pm an cdv ct) (body := body) (binds := binds) hroom (X _ _ ho) rfl (T.nolimit.keeps F.keep) (codeRec_of X hcd) rfl hbind hcell hloc (fun h₁ hns hk₁ => ?_) hco hgen hk)
  obtain ⟨oL, es, ep, hLg, hLd, hN, hNs, st, B₂⟩ := kts_enter B F N hA hck
  refine h _ s.heap.objs.size h₁ (fun b o e hb => hideAll_get _ e hb) ?_ ⟨hns, fun b o e => hk₁ b o (of_hideAll _ e), Nat.le_of_eq (hideAll_size _ _)⟩
    (fun q hq => ⟨hk₁ _ _ (N q hq).1, Nat.ne_of_lt (Heap.lt_size (N q hq).1), hideAll_none _ (List.mem_map_of_mem hq)⟩) B₂ (X₀.keeps st) (T.keeps st) (fun b hb => by
      rcases kts_mem hb with rfl | z
      · exact ⟨oL, es, ep, hLg, hLd⟩
      · simp at z) (fun q hq => Heap.lt_size (N q hq).1)
  intro g1 h1 m1 all T' F' N'
  have nL₀ : h₀.get? L = none := kts_self F
  obtain ⟨sl, hs⟩ := T'.up hLg
  have oth : ∀ b o, (hideAll s.heap (sub.map (·.1))).get? b = some o → b ≠ L → g1.get? b = some o := fun b o e hb => T'.other b o e (fun q => by
    rcases kts_mem q with z | z
    · exact hb z
    · simp at z)
  refine ⟨⟨hNs sl _ (F'.keep _ _ hs), fun b o e => F'.keep b o (oth b o (st b o e) (fun q => by rw [q, nL₀] at e; cases e)), F.above⟩, fun q hq => ⟨(N' q hq).1, fun e => ?_, ?_⟩, fun b o e hb hL => F'.keep b o (oth b o (hideAll_get _ e hb) hL)⟩
  · have := (N' q hq).2.2
    rw [e, hs] at this; cases this
  · cases e : h₀.get? q.1 with
    | none => rfl
    | some o =>
      have := oth _ _ (st _ _ e) (fun z => by rw [z, nL₀] at e; cases e)
      rw [(N' q hq).2.2] at this; cases this
theorem turn_list {fs : List Addr} {g g1 : Heap} {tl : Addr} {its : Array Value} (D : KtsDicts fs g) (T : KtsTurn fs g g1) (h : g.IsList tl its) : g1.IsList tl its := by
  obtain ⟨o, ho, hc, n, hd⟩ := h
  refine ⟨o, T.other _ _ ho (fun q => ?_), hc, n, hd⟩
  obtain ⟨o', es, ep, e1, e2⟩ := D _ q
  rw [ho] at e1; cases e1
  rw [hd] at e2; cases e2
theorem turn_tup {fs : List Addr} {g g1 : Heap} {tl : Addr} {its : Array Value} (D : KtsDicts fs g) (T : KtsTurn fs g g1) (h : IsTup g tl its) : IsTup g1 tl its := by
  obtain ⟨o, ho, hc, n, hd⟩ := h
  refine ⟨o, T.other _ _ ho (fun q => ?_), hc, n, hd⟩
  obtain ⟨o', es, ep, e1, e2⟩ := D _ q
  rw [ho] at e1; cases e1
  rw [hd] at e2; cases e2
end
def TalkIn (g : Heap) (vsq : Array Value) (ks : List (Str × Nat)) : Prop :=
  vsq.size = ks.length ∧ ∀ (k : Nat) (v : Value), vsq[k]? = some v → ∃ (q : Addr) (x : Str) (i : Nat) (xt pt : Tok), ks[k]? = some (x, i) ∧ v = Value.ref q ∧ IsTup g q #[.str x xt, .str (patV i) pt] ∧ GoodX x
def stepsX (ks : List (Str × Nat)) (ns : List Str) : List Str := ks.foldl (fun ns k => stepX k.1 k.2 ns) ns
def ItOf (oi : Obj) (tl : Addr) (i : Nat) : Prop := oi.cls = .type "list_iterator" ∧ oi.data = .fields #[.ref tl, .int i 0]
theorem stepsX_take {ks : List (Str × Nat)} {ns : List Str} {k : Nat} {x : Str} {i : Nat} (h : ks[k]? = some (x, i)) : stepsX (ks.take (k + 1)) ns = stepX x i (stepsX (ks.take k) ns) := by
  unfold stepsX
  rw [List.take_add_one, h, List.foldl_append]
  rfl
theorem stepsX_len : ∀ (ks : List (Str × Nat)) (ns : List Str), (stepsX ks ns).length ≤ ns.length + ks.length
  | [], ns => Nat.le_refl _
  | k :: ks, ns => by
    show (stepsX ks (stepX k.1 k.2 ns)).length ≤ _
    have h1 := stepsX_len ks (stepX k.1 k.2 ns)
    have h2 := stepX_len k.1 k.2 ns
    rw [List.length_cons]; omega
theorem it_entry : entryFor table "iter" = some Builtin.«iter» := entryFor_of_fast (by kernel_rfl)
theorem it_args (a : Value) : argsOk "iter" ⟨[a], []⟩ := by unfold argsOk; kernel_rfl
theorem isList_keep {g h : Heap} {tl : Addr} {its : Array Value} (k : ∀ b o, g.get? b = some o → h.get? b = some o) (x : g.IsList tl its) : h.IsList tl its := by
  obtain ⟨o, e, r⟩ := x
  exact ⟨o, k _ _ e, r⟩
def itObj (tl : Addr) : Obj := { cls := .type "list_iterator", data := .fields #[.ref tl, .int 0 0] }
section
variable {w : World} {s : Shared} {Q : Value → Shared → Prop} {E : Value → Shared → Prop} {A : Around} {h₀ : Heap} {L : Addr} {m : Str → Option Value} {news : List (Addr × Obj)}
theorem iter_list_K {tl : Addr} {its : Array Value} (F : Fr h₀ L s.heap m) (N : News h₀ L s.heap news) (hl : h₀.IsList tl its)
    (h : ∀ (I : Addr) (h' : Heap), Fr h₀ L h' m → News h₀ L h' ((I, itObj tl) :: news) → (∀ p ∈ news, p.1 < I) → Q (.ref I) { s with heap := h' }) :
    wpAny (model PG w) A (call (.builtin "iter") [.ref tl]) Q E s := by
  refine call_function_entry (by decide +kernel) (by decide +kernel) it_entry (it_args _) ?_
  unfold Builtin.«iter»
  refine wpAny_bind (m := someArgs "iter" 1 2 _) (wpAny_of_eq (a := [Value.ref tl]) (by first | rfl | kernel_rfl!) ?_)
  show wpAny _ _ (pyIter (.ref tl) >>= _) _ _ _
  refine wpAny_bind (wpAny_pyIter_list (isList_keep F.keep hl) ?_)
  exact wpAny_pure ⟨_, rfl, h _ _ (F.push _) (News.push F N _ rfl) (fun q hq => Heap.lt_size (N q hq).1)⟩
end
section
variable {w : World} {p : Program} {loose : List Str} {mean : ExcName → Option Value} {mg mb : Str → Option Value} {dp un : Nat} {gd : Option (List Code)} {cn : Str} {cs : Scope} {a : Addr} {ccd : Value} {cl : List (Str × Addr)} {outer : List Env} {A₀ : Around} {base h₀ : Heap} {L : Addr} {m : Str → Option Value} {news : List (Addr × Obj)} {s : Shared}
    {Q E : Value → Shared → Prop}
variable {outr : List Env} {A : Around} {g : Heap} {L' I tl : Addr} {vsq : Array Value} {ks : List (Str × Nat)} {ns : List Str} {m₀ : Str → Option Value}
structure RInv (w : World) (p : Program) (loose : List Str) (mean : ExcName → Option Value) (mg mb : Str → Option Value) (A : Around) (base : Heap) (outr : List Env) (g : Heap) (L' I tl : Addr) (vsq : Array Value) (ks : List (Str × Nat)) (ns : List Str) (m₀ : Str → Option Value)
    (i : Nat) (g1 h1 : Heap) (tk1 : Nat) (l : Addr) (vs : Array Value) (nn : Nat) (oi o : Obj) (u : Option Value) : Prop where
  le : i ≤ vsq.size
  tk : @LT.lt Nat _ 0 tk1
  turn : KtsTurn (outr.filterMap (·.frame)) g g1
  fr : Fr g1 L' h1 (fun y => if y = Str.ofString "value" then some (.ref l) else if y = Str.ofString "element" then u else m₀ y)
  nw : News g1 L' h1 [(I, oi), (l, listOf vs nn), (82, o)]
  it : ItOf oi tl i
  B : Below A base outr g1
  X : (hd.heap_39 w.params).In g1
  T : Top p loose mean mg mb g1
  D : KtsDicts (outr.filterMap (·.frame)) g1
  tab : Tab o
  ne : I ≠ 82 ∧ l ≠ 82
  sa : StrsAre vs.toList (stepsX (ks.take i) ns)
def RNext (w : World) (p : Program) (loose : List Str) (mean : ExcName → Option Value) (mg mb : Str → Option Value) (A : Around) (base : Heap) (outr : List Env) (g : Heap) (L' I tl : Addr) (vsq : Array Value) (ks : List (Str × Nat)) (ns : List Str) (m₀ : Str → Option Value) (i : Nat) (s s₃ : Shared) : Prop :=
  ∃ (g1 h1 : Heap) (tk1 : Nat) (l : Addr) (vs : Array Value) (nn : Nat) (oi o : Obj) (u : Option Value), s₃ = { s with heap := h1, toks := tk1 } ∧ RInv w p loose mean mg mb A base outr g L' I tl vsq ks ns m₀ i g1 h1 tk1 l vs nn oi o u
theorem r_next {i tk1 nn idx : Nat} {g1 g2 h2 : Heap} {l l1 : Addr} {vs : Array Value} {oi o : Obj} {u : Option Value} {x : Str} {mm : Str → Option Value} (hlt : i < vsq.size) (htk : @LT.lt Nat _ 0 tk1) (k1 : KtsTurn (outr.filterMap (·.frame)) g g1) (k2 : KtsTurn (outr.filterMap (·.frame)) g1 g2)
    (F : Fr g2 L' h2 mm) (e : ∀ y, mm y = if y = Str.ofString "value" then some (.ref l) else if y = Str.ofString "element" then u else m₀ y) (N : News g2 L' h2 [(I, oi), (l, listOf vs nn), (82, o)]) (it : ItOf oi tl (i + 1)) (B : Below A base outr g2) (X : (hd.heap_39 w.params).In g2) (T : Top p loose mean mg mb g2)
    (D : KtsDicts (outr.filterMap (·.frame)) g2) (ho : Tab o) (hne : I ≠ 82 ∧ l1 ≠ 82) (hl : l ≠ 82) (hk : ks[i]? = some (x, idx)) (hs : StrsAre vs.toList (stepX x idx (stepsX (ks.take i) ns))) :
    RNext w p loose mean mg mb A base outr g L' I tl vsq ks ns m₀ (i + 1) s { s with heap := h2, toks := tk1 } :=
  ⟨g2, h2, tk1, l, vs, nn, oi, o, u, rfl, ⟨hlt, htk, k1.trans k2, (funext e : mm = _) ▸ F, N, it, B, X, T, D, ho, ⟨hne.1, hl⟩, (stepsX_take hk).symm ▸ hs⟩⟩
theorem red_for2 {env : Env} {target : Expr} {body : List Stmt} {y : Str} {py pos : Pos} {m' : Str → Option Value} {fl : Addr} {vs : Array Value} {nn : Nat} {oi o : Obj} {Ag : Around} {Q : Flow → Shared → Prop} (hh : A.handled = none) (hLe : env.locals = L')
    (hI : wpAny (model PG w) A (eval (.Name y py) env) (fun xv s₁ => xv = .ref I ∧ s₁ = s) E s)
    (F : Fr g L' s.heap m') (N : News g L' s.heap [(I, oi), (fl, listOf vs nn), (82, o)]) (hit : ItOf oi tl 0) (B : Below Ag base outr g) (X : (hd.heap_39 w.params).In g) (T : Top p loose mean mg mb g) (D : KtsDicts (outr.filterMap (·.frame)) g)
    (ho : Tab o) (hne : I ≠ 82 ∧ fl ≠ 82) (hs : StrsAre vs.toList ns) (hmv : m' (Str.ofString "value") = some (.ref fl)) (hL : g.IsList tl vsq) (hT : TalkIn g vsq ks) (htk : @LT.lt Nat _ 0 s.toks)
    (turn : ∀ (i : Nat) (g1 h1 : Heap) (tk1 : Nat) (l : Addr) (vs : Array Value) (nn : Nat) (oi o : Obj) (u : Option Value) (q : Addr) (x : Str) (idx : Nat) (xt pt : Tok), i < vsq.size → ks[i]? = some (x, idx) → IsTup g1 q #[.str x xt, .str (patV idx) pt] → GoodX x →
      @LT.lt Nat _ 0 tk1 → KtsTurn (outr.filterMap (·.frame)) g g1 → Fr g1 L' h1 (fun y => if y = Str.ofString "value" then some (.ref l) else if y = Str.ofString "element" then u else m' y) → News g1 L' h1 [(I, oi), (l, listOf vs nn), (82, o)] → ItOf oi tl (i + 1) →
      Below Ag base outr g1 → (hd.heap_39 w.params).In g1 → Top p loose mean mg mb g1 → KtsDicts (outr.filterMap (·.frame)) g1 → Tab o → I ≠ 82 ∧ l ≠ 82 → StrsAre vs.toList (stepsX (ks.take i) ns) →
      wpAny (model PG w) A (assign target env (.ref q)) (fun _ s₂ => wpAny (model PG w) A (execs body env) (fun f s₃ => match f with
        | .next | .cont => RNext w p loose mean mg mb Ag base outr g L' I tl vsq ks ns m' (i + 1) s s₃
        | .brk => Q .next s₃ | .ret v => Q (.ret v) s₃) E s₂) E { s with heap := h1, toks := tk1 })
    (done : ∀ (g1 h1 : Heap) (tk1 : Nat) (l : Addr) (vs : Array Value) (nn : Nat) (oi o : Obj) (u : Option Value), @LT.lt Nat _ 0 tk1 → KtsTurn (outr.filterMap (·.frame)) g g1 → Fr g1 L' h1 (fun y => if y = Str.ofString "value" then some (.ref l) else if y = Str.ofString "element" then u else m' y) → News g1 L' h1 [(l, listOf vs nn), (82, o)] →
      Below Ag base outr g1 → (hd.heap_39 w.params).In g1 → Top p loose mean mg mb g1 → KtsDicts (outr.filterMap (·.frame)) g1 → Tab o → l ≠ 82 → StrsAre vs.toList (stepsX ks ns) → Q .next { s with heap := h1, toks := tk1 })
    (hgo : ∀ i v, letOwnedTupleGo target i v = pure () := by intros; rfl)
    (hsf : ∀ x, foldedSetIterable (.Name y py) env x = pure x := by intro _; rfl)
    (hE : PassesOwn (model PG w) A env E := by passes_own) :
    wpAny (model PG w) A (exec (.For target (.Name y py) body [] pos) env) Q E s := by
  have e0 : (fun y => if y = Str.ofString "value" then some (Value.ref fl) else if y = Str.ofString "element" then m' (Str.ofString "element") else m' y) = m' := by
    funext y
    split
    · rename_i e; rw [e, hmv]
    · split
      · rename_i e; rw [e]
      · rfl
  refine red_for (I := I) (tl := tl) (vsq := vsq) (fun i s' => ∃ (g1 h1 : Heap) (tk1 : Nat) (l : Addr) (vs : Array Value) (nn : Nat) (oi o : Obj) (u : Option Value), s' = { s with heap := h1, toks := tk1 } ∧ RInv w p loose mean mg mb Ag base outr g L' I tl vsq ks ns m' i g1 h1 tk1 l vs nn oi o u) hh
    (wpAny_mono hI (fun xv s₁ h1 => ⟨h1.1, by
      obtain ⟨_, rfl⟩ := h1
      exact ⟨g, s₁.heap, s₁.toks, fl, vs, nn, oi, o, m' (Str.ofString "element"), rfl, ⟨Nat.zero_le _, htk, KtsTurn.refl, (by rw [e0]; exact F), N, hit, B, X, T, D, ho, hne, hs⟩⟩⟩) fun _ _ e => e) ?_ ?_ ?_ hgo hsf hE
  · rintro i s' ⟨g1, h1, tk1, l, vs, nn, oi, o, u, rfl, R⟩
    exact ⟨⟨oi, (R.nw _ (.head _)).1, R.it.1, R.it.2⟩, isList_keep R.fr.keep (turn_list D R.turn hL), R.le⟩
  · rintro i s' h' v ⟨g1, h1, tk1, l, vs, nn, oi, o, u, rfl, R⟩ hx hb ⟨oi', e1, e2, e3⟩
    obtain ⟨q, x, idx, xt, pt, k1, rfl, k2, k3⟩ := hT.2 i v hx
    have hlt : i < vsq.size := by
      rcases Nat.lt_or_ge i vsq.size with z | z
      · exact z
      · rw [Array.getElem?_eq_none z] at hx; cases hx
    have nI := R.nw _ (.head _)
    refine turn i g1 h' tk1 l vs nn oi' o u q x idx xt pt hlt k1 (turn_tup D R.turn k2) k3 R.tk R.turn (R.fr.change hb nI.2.1 nI.2.2) (fun a ha => ?_) ⟨e2, e3⟩ R.B R.X R.T R.D R.tab R.ne R.sa
    rcases List.mem_cons.mp ha with rfl | ha
    · exact ⟨e1, nI.2⟩
    · have := R.nw a (.tail _ ha)
      by_cases e : a.1 = I
      · exfalso
        have q1 := nI.1
        rcases List.mem_cons.mp ha with rfl | ha
        · rw [show l = I from e] at this
          have z := this.1
          rw [q1] at z
          have z2 : oi = listOf vs nn := Option.some.inj z
          have := R.it.1
          rw [z2] at this
          exact absurd this (show ¬ Value.type "list" = Value.type "list_iterator" by decide)
        · rw [List.mem_singleton.mp ha] at e
          exact R.ne.1 e.symm
      · exact ⟨(hb.2 _ e).trans this.1, this.2⟩
  · rintro s' h' ⟨g1, h1, tk1, l, vs, nn, oi, o, u, rfl, R⟩ hb
    have nI := R.nw _ (.head _)
    have hsz : ks.take vsq.size = ks := by rw [hT.1]; exact List.take_length
    refine done g1 h' tk1 l vs nn oi o u R.tk R.turn ?_ ?_ R.B R.X R.T R.D R.tab R.ne.2 (hsz ▸ R.sa)
    · exact ⟨R.fr.ns.extBut hb nI.2.1.symm, fun b o e => hb b o (fun q => by rw [q, nI.2.2] at e; cases e) (R.fr.keep b o e), R.fr.above⟩
    · intro a ha
      have := R.nw a (.tail _ ha)
      refine ⟨hb _ _ (fun e => ?_) this.1, this.2⟩
      have q1 := nI.1
      rcases List.mem_cons.mp ha with rfl | ha
      · rw [show l = I from e] at this
        have z := this.1
        rw [q1] at z
        have z2 : oi = listOf vs nn := Option.some.inj z
        have := R.it.1
        rw [z2] at this
        exact absurd this (show ¬ Value.type "list" = Value.type "list_iterator" by decide)
      · rw [List.mem_singleton.mp ha] at e
        exact R.ne.1 e.symm
end

theorem red_len {ks : List (Str × Nat)} {ns : List Str} {i : Nat} (h : ns.length + ks.length ≤ 1000) : (stepsX (ks.take i) ns).length ≤ 1000 := by
  have h1 := stepsX_len (ks.take i) ns
  have h2 : (ks.take i).length ≤ ks.length := by rw [List.length_take]; omega
  omega
section
variable {w : World} {p : Program} {loose : List Str} {mean : ExcName → Option Value} {mg mb : Str → Option Value} {dp un : Nat} {gd : Option (List Code)} {cn : Str} {cs : Scope} {a : Addr} {ccd : Value} {cl : List (Str × Addr)} {outer : List Env} {A₀ : Around} {base h₀ : Heap} {L : Addr} {m : Str → Option Value} {news : List (Addr × Obj)} {s : Shared}
    {Q E : Value → Shared → Prop}
theorem red_con0 {fl tl : Addr} {o : Obj} {vs vsq : Array Value} {nn : Nat} {ns : List Str} {ks : List (Str × Nat)} (B : Below A₀ base [] h₀) (F : Fr h₀ L s.heap m) (X : (hd.heap_39 w.params).In h₀) (T : Top p loose mean mg mb h₀) (hk : cs.kind = .function)
    (XB : (hd.heap_39 w.params).In base) (TB : Top p loose mean mg mb base) (N : News h₀ L s.heap [(fl, listOf vs nn), (82, o)])
    (hL : s.heap.IsList tl vsq) (hT : TalkIn s.heap vsq ks) (hd' : dp + 8 < recursionLimit) (_hu : un + 800 < cLine) (ho : Tab o) (hne : fl ≠ 82) (hs : StrsAre vs.toList ns) (hn : ns.length + ks.length ≤ 1000) (hto : @LT.lt Nat _ 0 s.toks)
    (htl : tl ≠ fl ∧ tl ≠ 82)
    (hret : ∀ (l : Addr) (vs' : Array Value) (nn' : Nat) (o' : Obj) (h' : Heap) (tk' : Nat), Tab o' → StrsAre vs'.toList (stepsX ks ns) → l ≠ 82 → Fr h₀ L h' m → News h₀ L h' [(l, listOf vs' nn'), (82, o')] → (∀ b o, s.heap.get? b = some o → b ≠ fl → b ≠ 82 → b ≠ L → h'.get? b = some o) → Q (.ref l) { s with heap := h', toks := tk' }) :
    wpAny (model PG w) (ktrTop dp un gd cn cs L a ccd [] []) (call (.ref 96) [.ref 127, .ref tl, .ref fl]) Q E s := by
  k_with_none
  k_with "execs cons" => (k_here; (with_reducible refine wpAny_execs_cons ?_); (try dsimp only); (try k_fold))
  k_with "execs cons" => (k_here; dsimp only; try ((with_reducible refine' gen_toks ?w9lo ?w9hn ?_); (case w9lo => assumption); (case w9hn => omega); intro tk htk))
  k_with "execs cons" => (k_here; (with_reducible refine' gen_toks ?w9lo ?w9hn ?_); (case w9lo => assumption); (case w9hn => omega); intro tk htk)
  k_with "execs nil" => (k_here; dsimp only; try ((with_reducible refine' gen_toks ?w9lo ?w9hn ?_); (case w9lo => assumption); (case w9hn => omega); intro tk htk))
  k_with "execs nil" => (k_here; (with_reducible refine' gen_toks ?w9lo ?w9hn ?_); (case w9lo => assumption); (case w9hn => omega); intro tk htk)
  k_with "exec If" => (k_here; refine wpAny_If ?_)
  k_with "call builtin:iter" => (k_here; k_dflt (refine' iter_list_K ?w9F ?w9N ?w9l ?_; (case w9F => k_asm); (case w9N => k_asm); (case w9l => assumption); k_whole); intro I' h' F' N' l1; (try k_lt l1); (try dsimp only); (try k_sweep))
  k_with "call ref" => (k_here; (with_reducible show wpAny _ _ (call (Value.ref 127) _) _ _ _); k_dflt (refine' step_con ?w9k1 ?w9k2 ?w9k3 ?w9k5 ?w9kK ?w9kXB ?w9kTB ?w9kD ?w9k4 ?w9zq ?w9kd ?w9ku ?w9zx ?w9zo ?w9zn ?w9zs ?w9zl ?w9zt ?_; (case w9k1 => k_asm); (case w9k2 => k_asm); (case w9k3 => k_asm); (case w9k4 => k_asm); (case w9k5 => k_asm); (case w9kK => first | exact rfl | assumption); (case w9kXB => assumption); (case w9kTB => assumption); (case w9kD => assumption); (case w9zq => assumption); (case w9kd => ktr_room); (case w9ku => ktr_units); (case w9zx => assumption); (case w9zo => assumption); (case w9zn => assumption); (case w9zs => assumption); (case w9zl => exact red_len (by assumption)); (case w9zt => (try dsimp only); omega)); intro g9 l9 vs9 nn9 o9 h9 tk9 hto9 ho9 hs9 hl9 kT F9 N9 B9 X9 T9 D9; (try dsimp only at hto9); (try dsimp only); (try k_fold))
  k_with "exec For Name Name cons nil" => (k_here; k_dflt (refine' red_for2 ?w9hh ?w9hL ?w9hI ?w9F ?w9N ?w9it ?w9B ?w9X ?w9T ?w9D ?w9o ?w9ne ?w9s ?w9mv ?w9l ?w9t ?w9tk ?w9turn ?w9done; (case w9hh => exact rfl); (case w9hL => exact rfl); (case w9F => k_asm); (case w9N => k_asm); (case w9it => exact ⟨rfl, rfl⟩); (case w9B => k_asm); (case w9X => k_asm); (case w9T => k_asm); (case w9D => assumption); (case w9o => assumption); (case w9ne => exact ⟨Nat.ne_of_gt (by omega), by assumption⟩); (case w9s => assumption); (case w9mv => exact rfl); (case w9l => assumption); (case w9t => assumption); (case w9tk => (try dsimp only); omega)); (case' w9turn => (intro i g1 h1 tk1 l vs1 nn1 oi1 o1 u q x idx xt pt hlt hk9 hq9 hx9 htk9 kT F9 N9 hit9 B9 X9 T9 D9 ho9 hne9 hs9)); (case' w9done => (intro g1 h1 tk1 l vs1 nn1 oi1 o1 u htk9 kT F9 N9 B9 X9 T9 D9 ho9 hne9 hs9)))
  have lo : TokLow 1 := trivial
  have kX0 := X.keeps F.keep
  k_dflt (refine' enterT ?k1 ?k2 ?k3 ?k4 ?k5 ?kA ?k6 ?k7 ?k8 ?k9 ?kB ?_ ?cK ?c2 ?c3 ?c4 ?c5; (case kA => exact rfl); (case k2 => k_asm); (case k1 => k_asm); (case k3 => k_asm); (case k4 => k_asm); (case k5 => k_asm); (case k6 => k_is); (case k7 => k_is); (case k8 => ktr_room); (case k9 => first | exact BindsTo.of_eq rfl | exact binds_K (by k_in) rfl (by k_is) rfl rfl rfl); (case kB => exact locs rfl); (case cK => assumption); (case c2 => exact rfl); (case c3 => exact rfl); (case c4 => exact rfl); (case c5 => decide); k_whole; intro g' L' h' R' V' F' N' B' X' T' D' l1; (try k_lt l1); (try dsimp only); (try k_fold))
  have hL' : g'.IsList tl vsq := by
    obtain ⟨ob, e, r⟩ := hL
    exact ⟨ob, R' _ _ e (by simpa using htl), r⟩
  have hT' : TalkIn g' vsq ks := by
    refine ⟨hT.1, fun k v e => ?_⟩
    obtain ⟨q, x, i, xt, pt, k1, k2, ⟨ob, e1, e2, n, e3⟩, k4⟩ := hT.2 k v e
    refine ⟨q, x, i, xt, pt, k1, k2, ⟨ob, R' _ _ e1 (fun z => ?_), e2, n, e3⟩, k4⟩
    have z : q = fl ∨ q = 82 := by simpa using z
    rcases z with rfl | rfl
    · rw [(N _ (.head _)).1] at e1
      cases e1
      exact absurd e2 (show ¬ Value.type "list" = Value.type "tuple" by decide)
    · rw [(N _ (.tail _ (.head _))).1] at e1
      cases e1
      rcases ho with rfl | ⟨c, rfl⟩
      · exact absurd e2 (show ¬ Value.none = Value.type "tuple" by decide)
      · exact absurd e2 (show ¬ Value.none = Value.type "tuple" by decide)
  k_steps
  all_goals first
    | exact r_next (by assumption) (by omega) (by assumption) (by assumption) (by k_asm) (fun y => by
        by_cases e1 : y = Str.ofString "value"
        · subst e1; rfl
        · by_cases e2 : y = Str.ofString "element"
          · subst e2; rfl
          · simp only [if_neg e1, if_neg e2]) (by k_asm) (by assumption) (by assumption) (by assumption) (by assumption) (by assumption) (by assumption) (by assumption) (by assumption) (by assumption) (by assumption)
    | (obtain ⟨Fb, Nb, st⟩ := V' _ _ _ _ (by assumption) (by k_asm) (by k_asm)
       exact hret _ _ _ _ _ _ (by assumption) (by assumption) (by assumption) Fb Nb (fun b o e n1 n2 n3 => st b o e (by simp [n1, n2]) n3))
theorem red_con {fl tl : Addr} {o : Obj} {vs vsq : Array Value} {nn : Nat} {ns : List Str} {ks : List (Str × Nat)} (B : Below A₀ base [] h₀) (F : Fr h₀ L s.heap m) (X : (hd.heap_39 w.params).In h₀) (T : Top p loose mean mg mb h₀) (hk : cs.kind = .function)
    (XB : (hd.heap_39 w.params).In base) (TB : Top p loose mean mg mb base) (N : News h₀ L s.heap [(fl, listOf vs nn), (82, o)])
    (hL : s.heap.IsList tl vsq) (hT : TalkIn s.heap vsq ks) (hd' : dp + 8 < recursionLimit) (hu : un + 800 < cLine) (ho : Tab o) (hne : fl ≠ 82) (hs : StrsAre vs.toList ns) (hn : ns.length + ks.length ≤ 1000) (hto : @LT.lt Nat _ 0 s.toks)
    (htl : tl ≠ fl ∧ tl ≠ 82)
    (hret : ∀ (l : Addr) (vs' : Array Value) (nn' : Nat) (o' : Obj) (h' : Heap) (tk' : Nat), @LE.le Nat _ s.toks tk' → Tab o' → StrsAre vs'.toList (stepsX ks ns) → l ≠ 82 → Fr h₀ L h' m → News h₀ L h' [(l, listOf vs' nn'), (82, o')] → (∀ b o, s.heap.get? b = some o → b ≠ fl → b ≠ 82 → b ≠ L → h'.get? b = some o) → Q (.ref l) { s with heap := h', toks := tk' }) :
    wpAny (model PG w) (ktrTop dp un gd cn cs L a ccd [] []) (call (.ref 96) [.ref 127, .ref tl, .ref fl]) Q E s :=
  wpAny_with_toks (Nat.le_refl _) (red_con0 B F X T hk XB TB N hL hT hd' hu ho hne hs hn hto htl fun l vs' nn' o' h' tk' a b c d e f hto => hret l vs' nn' o' h' tk' hto a b c d e f)
end

def ftE (x : Str) : Bool := x == Str.ofString ""
def ftAny (_ : Str) : Bool := true
def ftA (x : Str) : Bool := Txt.slice x (some 0) (some 1) == Str.ofString "a"
def ftQ (x : Str) : Bool := Txt.slice x (some 0) (some 1) == Str.ofString "\""
def ftS (x : Str) : Bool := Txt.slice x (some 0) (some 1) == Str.ofString "*"
def ftAQ (x : Str) : Bool := Txt.slice x (some 0) (some 1) == Str.ofString "\"" || Txt.slice x (some 1) (some 2) == Str.ofString "\""
def ft4 (x : Str) : Bool := x.length == 1
def anyOf (c : Str → Bool) (x : Str) : Bool := !decide (List.foldl (fun l' k' => if (Txt.slice x (some k') none).length ≤ x.length ∧ c (Txt.slice x (some k') none) = true then l' ++ [k'] else if (Txt.slice x (some k') none).length ≤ x.length ∧ c (Txt.slice x (some k') none) = false then l' else l') [] (rangeKs 0 ((x.length : Int) + 1 - 0).toNat) = [])
theorem any_E : ∀ x ∈ words, anyOf ftE x = ftAny x := by decide +kernel
theorem any_Q : ∀ x ∈ words, anyOf ftQ x = ftAQ x := by decide +kernel
theorem h1_Q : ∀ x ∈ words, 1 ≤ (Txt.item x 0).length ∧ (Txt.item x 0).length ≤ 1 → (Builtin.Str.occurrences (Str.ofString "\"") (Txt.item x 0) 0 (Str.ofString "\"").length 1).isEmpty = true → (!(Builtin.Str.occurrences (Str.ofString "\"") (Txt.item x 0) 0 (Str.ofString "\"").length 1).isEmpty) = ftQ x := by decide +kernel
theorem h2_Q : ∀ x ∈ words, 1 ≤ (Txt.item x 0).length ∧ (Txt.item x 0).length ≤ 1 → (Builtin.Str.occurrences (Str.ofString "\"") (Txt.item x 0) 0 (Str.ofString "\"").length 1).isEmpty = false → ftAny (Txt.slice x (some 1) none) = ftQ x := by decide +kernel
theorem h3_Q : ∀ x ∈ words, (x != Str.ofString "") = false → (x != Str.ofString "") = ftQ x := by decide +kernel
theorem h1_A : ∀ x ∈ words, 1 ≤ (Txt.item x 0).length ∧ (Txt.item x 0).length ≤ 1 → (Builtin.Str.occurrences (Str.ofString "a") (Txt.item x 0) 0 (Str.ofString "a").length 1).isEmpty = true → (!(Builtin.Str.occurrences (Str.ofString "a") (Txt.item x 0) 0 (Str.ofString "a").length 1).isEmpty) = ftA x := by decide +kernel
theorem h2_A : ∀ x ∈ words, 1 ≤ (Txt.item x 0).length ∧ (Txt.item x 0).length ≤ 1 → (Builtin.Str.occurrences (Str.ofString "a") (Txt.item x 0) 0 (Str.ofString "a").length 1).isEmpty = false → ftAny (Txt.slice x (some 1) none) = ftA x := by decide +kernel
theorem h3_A : ∀ x ∈ words, (x != Str.ofString "") = false → (x != Str.ofString "") = ftA x := by decide +kernel
theorem h1_S : ∀ x ∈ words, 1 ≤ (Txt.item x 0).length ∧ (Txt.item x 0).length ≤ 1 → (Builtin.Str.occurrences (Str.ofString "*") (Txt.item x 0) 0 (Str.ofString "*").length 1).isEmpty = true → (!(Builtin.Str.occurrences (Str.ofString "*") (Txt.item x 0) 0 (Str.ofString "*").length 1).isEmpty) = ftS x := by decide +kernel
theorem h2_S : ∀ x ∈ words, 1 ≤ (Txt.item x 0).length ∧ (Txt.item x 0).length ≤ 1 → (Builtin.Str.occurrences (Str.ofString "*") (Txt.item x 0) 0 (Str.ofString "*").length 1).isEmpty = false → ftAny (Txt.slice x (some 1) none) = ftS x := by decide +kernel
theorem h3_S : ∀ x ∈ words, (x != Str.ofString "") = false → (x != Str.ofString "") = ftS x := by decide +kernel
theorem h1_4 : ∀ x ∈ words, 1 ≤ (Txt.item x 0).length ∧ (Txt.item x 0).length ≤ 1 → (Builtin.Str.occurrences (Str.ofString "a\"*b") (Txt.item x 0) 0 (Str.ofString "a\"*b").length 1).isEmpty = true → (!(Builtin.Str.occurrences (Str.ofString "a\"*b") (Txt.item x 0) 0 (Str.ofString "a\"*b").length 1).isEmpty) = ft4 x := by decide +kernel
theorem h2_4 : ∀ x ∈ words, 1 ≤ (Txt.item x 0).length ∧ (Txt.item x 0).length ≤ 1 → (Builtin.Str.occurrences (Str.ofString "a\"*b") (Txt.item x 0) 0 (Str.ofString "a\"*b").length 1).isEmpty = false → ftE (Txt.slice x (some 1) none) = ft4 x := by decide +kernel
theorem h3_4 : ∀ x ∈ words, (x != Str.ofString "") = false → (x != Str.ofString "") = ft4 x := by decide +kernel
theorem words_tail {x : Str} {k : Int} (hx : x ∈ words) (h0 : 0 ≤ k) (h1 : k ≤ 2) : Txt.slice x (some k) none ∈ words := by
  have a0 : ∀ x ∈ words, Txt.slice x (some 0) none ∈ words := by decide +kernel
  have a1 : ∀ x ∈ words, Txt.slice x (some 1) none ∈ words := by decide +kernel
  have a2 : ∀ x ∈ words, Txt.slice x (some 2) none ∈ words := by decide +kernel
  rcases (by omega : k = 0 ∨ k = 1 ∨ k = 2) with rfl | rfl | rfl
  · exact a0 x hx
  · exact a1 x hx
  · exact a2 x hx
section
variable {w : World} {p : Program} {loose : List Str} {mean : ExcName → Option Value} {mg mb : Str → Option Value} {dp un : Nat} {gd : Option (List Code)} {cn : Str} {cs : Scope} {a : Addr} {ccd : Value} {cl : List (Str × Addr)} {outer : List Env} {A₀ : Around} {base h₀ : Heap} {L : Addr} {m : Str → Option Value} {news : List (Addr × Obj)} {s : Shared}
    {Q E : Value → Shared → Prop}
local macro_rules | `(tactic| lcg_off) => `(tactic| first | (simp only [LCg.Off3, and_true]; assumption) | exact True.intro | (refine And.intro ⟨by k_ne, by k_ne, by k_ne⟩ ?_; lcg_off))
local macro_rules | `(tactic| ktu_off) => `(tactic| first | exact Or.inr (by k_cls) | exact Or.inr (ktu_clsNe (by assumption) (by k_cls)) | exact Or.inl (by k_ne))
theorem fitsE {x : Str} {t : Tok} {lp : Addr} {nn : Nat} (B : Below A₀ base outer h₀) (F : Fr h₀ L s.heap m) (X : (hd.heap_39 w.params).In h₀) (T : Top p loose mean mg mb h₀) (hk : cs.kind = .function) (N : News h₀ L s.heap [(lp, listOf #[] nn)])
    (hd' : dp + 2 < recursionLimit) (_hu : un + 200 < cLine) (hx : x ∈ words)
    (hret : ∀ (h' : Heap) (tk' : Nat), s.heap.StaysIn h' → Q (.bool (ftE x)) { s with heap := h', toks := tk' }) :
    wpAny (model PG w) (ktrTop dp un gd cn cs L a ccd cl outer) (call (.ref 120) [.ref lp, .str x t]) Q E s := by
  k_with_none
  k_with "execs cons" => (k_here; (with_reducible refine wpAny_execs_cons ?_); (try dsimp only); (try k_fold))
  k_with "compareOp NotEq ref ref" => (k_here; (with_reducible show wpAny _ _ (compareOp CmpOp.NotEq (Value.ref _) (Value.ref _)) _ _ _); k_dflt (refine ke_ne_ints (by is_list) (by is_list) (by l_ints) (by l_ints) (by ktr_units) ?_); ke_norm)
  k_with "newList" => (k_here; (with_reducible refine' newList_K ?w9k1 ?w9k2 ?_ ?w9z; (case w9z => exact Nat.le_of_ble_eq_true rfl); (case w9k1 => k_asm); (case w9k2 => k_asm); k_whole); intro l' h' F' N' l1; (try k_lt l1); (try k_sweep))
  k_with "CompEnd" => lcg_end
  k_with "exec If" => (k_here; refine wpAny_If ?_)
  have hlen := words_len x hx
  k_dflt (refine' enterC ?k1 ?k2 ?k3 ?k4 ?k5 ?kA ?kF ?kK ?k6 ?k7 ?k8 ?k9 ?kB ?kD ?_ ?c2 ?c3 ?c4; (case kA => exact rfl); (case kF => exact rfl); (case kK => assumption); (case k1 => k_asm); (case k2 => k_asm); (case k3 => k_asm); (case k4 => k_asm); (case k5 => k_asm); (case k6 => k_is); (case k7 => k_is); (case k8 => ktr_room); (case k9 => exact BindsTo.of_eq rfl); (case kB => exact rfl); (case kD => decide +kernel); (case c2 => exact rfl); (case c3 => exact rfl); (case c4 => exact rfl); k_whole; intro g' L' h' tk' cells' R' F' N' Y' B' X' T' l1; (try k_lt l1); k_cells Y'; (try simp only [List.cons_append, List.nil_append] at N'); (try dsimp only); (try k_fold))
  k_steps
  all_goals (refine ret_bool (s := s) hret ?_ ?k; (case k => exact one_stays (by assumption) (by k_asm) N (by k_asm) (by k_mem)); exact rfl)
theorem fitsE_K {c : Str → Bool} {x : Str} {t : Tok} (hc : c = fun x => ftE x) {lp : Addr} {nn : Nat} (B : Below A₀ base outer h₀) (F : Fr h₀ L s.heap m) (X : (hd.heap_39 w.params).In h₀) (N : News h₀ L s.heap ((lp, listOf #[] nn) :: news)) (T : Top p loose mean mg mb h₀) (hk : cs.kind = .function)
    (hd' : dp + 2 < recursionLimit) (hu : un + 200 < cLine) (hx : x ∈ words)
    (hret : ∀ (h' : Heap) (tk' : Nat), Fr h₀ L h' m → News h₀ L h' news → Q (.bool (c x)) { s with heap := h', toks := tk' }) :
    wpAny (model PG w) (ktrTop dp un gd cn cs L a ccd cl outer) (call (.ref 120) [.ref lp, .str x t]) Q E s := by
  subst hc
  exact fitsE B F X T hk (fun q hq => by rw [List.mem_singleton] at hq; subst hq; exact N _ (.head _)) hd' hu hx fun h' tk' k => hret h' tk' (fr_stays k F) (news_stays k fun q hq => N q (.tail _ hq))
theorem fitsAny {x : Str} {t : Tok} {t1 : Tok} {lp : Addr} {nn : Nat} (B : Below A₀ base outer h₀) (F : Fr h₀ L s.heap m) (X : (hd.heap_39 w.params).In h₀) (T : Top p loose mean mg mb h₀) (hk : cs.kind = .function) (N : News h₀ L s.heap [(lp, listOf #[.str (Str.ofString "any") t1] nn)])
    (hd' : dp + 4 < recursionLimit) (_hu : un + 400 < cLine) (hx : x ∈ words)
    (hret : ∀ (h' : Heap) (tk' : Nat), s.heap.StaysIn h' → Q (.bool (ftAny x)) { s with heap := h', toks := tk' }) :
    wpAny (model PG w) (ktrTop dp un gd cn cs L a ccd cl outer) (call (.ref 120) [.ref lp, .str x t]) Q E s := by
  k_with_none
  k_with "execs cons" => (k_here; (with_reducible refine wpAny_execs_cons ?_); (try dsimp only); (try k_fold))
  k_with "compareOp NotEq ref ref" => (k_here; (with_reducible show wpAny _ _ (compareOp CmpOp.NotEq (Value.ref _) (Value.ref _)) _ _ _); k_dflt (refine ke_ne_ints (by is_list) (by is_list) (by l_ints) (by l_ints) (by ktr_units) ?_); ke_norm)
  k_with "newList" => (k_here; (with_reducible refine' newList_K ?w9k1 ?w9k2 ?_ ?w9z; (case w9z => exact Nat.le_of_ble_eq_true rfl); (case w9k1 => k_asm); (case w9k2 => k_asm); k_whole); intro l' h' F' N' l1; (try k_lt l1); (try k_sweep))
  k_with "CompEnd" => lcg_end
  k_with "exec If" => (k_here; refine wpAny_If ?_)
  k_with "call ref" => (k_here; (with_reducible show wpAny _ _ (call (Value.ref 120) _) _ _ _); k_dflt (refine' fitsE_K ?w9zc ?w9k1 ?w9k2 ?w9k3 ?w9k4 ?w9k5 ?w9kK ?w9kd ?w9ku ?w9zw ?_; (case w9zc => assumption); (case w9k1 => k_asm); (case w9k2 => k_asm); (case w9k3 => k_asm); (case w9k4 => k_asm); (case w9k5 => k_asm); (case w9kK => first | exact rfl | assumption); (case w9kd => ktr_room); (case w9ku => ktr_units); (case w9zw => first | assumption | exact words_tail (by assumption) (by assumption) (by omega) | exact words_tail (by assumption) (by decide) (by decide))); intro h9 tk9 F9 N9; (try dsimp only); (try k_fold))
  have hlen := words_len x hx
  obtain ⟨c, hc⟩ : ∃ c : Str → Bool, c = fun x => ftE x := ⟨_, rfl⟩
  k_dflt (refine' enterC ?k1 ?k2 ?k3 ?k4 ?k5 ?kA ?kF ?kK ?k6 ?k7 ?k8 ?k9 ?kB ?kD ?_ ?c2 ?c3 ?c4; (case kA => exact rfl); (case kF => exact rfl); (case kK => assumption); (case k1 => k_asm); (case k2 => k_asm); (case k3 => k_asm); (case k4 => k_asm); (case k5 => k_asm); (case k6 => k_is); (case k7 => k_is); (case k8 => ktr_room); (case k9 => exact BindsTo.of_eq rfl); (case kB => exact rfl); (case kD => decide +kernel); (case c2 => exact rfl); (case c3 => exact rfl); (case c4 => exact rfl); k_whole; intro g' L' h' tk' cells' R' F' N' Y' B' X' T' l1; (try k_lt l1); k_cells Y'; (try simp only [List.cons_append, List.nil_append] at N'); (try dsimp only); (try k_fold))
  k_steps
  all_goals (subst hc; refine ret_bool (s := s) hret ?_ ?k; (case k => exact one_stays (by assumption) (by k_asm) N (by k_asm) (by k_mem)); exact any_E x hx)
theorem fitsAny_K {c : Str → Bool} {x : Str} {t : Tok} {t1 : Tok} (hc : c = fun x => ftAny x) {lp : Addr} {nn : Nat} (B : Below A₀ base outer h₀) (F : Fr h₀ L s.heap m) (X : (hd.heap_39 w.params).In h₀) (N : News h₀ L s.heap ((lp, listOf #[.str (Str.ofString "any") t1] nn) :: news)) (T : Top p loose mean mg mb h₀) (hk : cs.kind = .function)
    (hd' : dp + 4 < recursionLimit) (hu : un + 400 < cLine) (hx : x ∈ words)
    (hret : ∀ (h' : Heap) (tk' : Nat), Fr h₀ L h' m → News h₀ L h' news → Q (.bool (c x)) { s with heap := h', toks := tk' }) :
    wpAny (model PG w) (ktrTop dp un gd cn cs L a ccd cl outer) (call (.ref 120) [.ref lp, .str x t]) Q E s := by
  subst hc
  exact fitsAny B F X T hk (fun q hq => by rw [List.mem_singleton] at hq; subst hq; exact N _ (.head _)) hd' hu hx fun h' tk' k => hret h' tk' (fr_stays k F) (news_stays k fun q hq => N q (.tail _ hq))
theorem fitsQ {x : Str} {t : Tok} {t1 t2 : Tok} {lp : Addr} {nn : Nat} (B : Below A₀ base outer h₀) (F : Fr h₀ L s.heap m) (X : (hd.heap_39 w.params).In h₀) (T : Top p loose mean mg mb h₀) (hk : cs.kind = .function) (N : News h₀ L s.heap [(lp, listOf #[.str (Str.ofString "\"") t1, .str (Str.ofString "any") t2] nn)])
    (hd' : dp + 6 < recursionLimit) (_hu : un + 600 < cLine) (hx : x ∈ words)
    (hret : ∀ (h' : Heap) (tk' : Nat), s.heap.StaysIn h' → Q (.bool (ftQ x)) { s with heap := h', toks := tk' }) :
    wpAny (model PG w) (ktrTop dp un gd cn cs L a ccd cl outer) (call (.ref 120) [.ref lp, .str x t]) Q E s := by
  k_with_none
  k_with "execs cons" => (k_here; (with_reducible refine wpAny_execs_cons ?_); (try dsimp only); (try k_fold))
  k_with "compareOp NotEq ref ref" => (k_here; (with_reducible show wpAny _ _ (compareOp CmpOp.NotEq (Value.ref _) (Value.ref _)) _ _ _); k_dflt (refine ke_ne_ints (by is_list) (by is_list) (by l_ints) (by l_ints) (by ktr_units) ?_); ke_norm)
  k_with "newList" => (k_here; (with_reducible refine' newList_K ?w9k1 ?w9k2 ?_ ?w9z; (case w9z => exact Nat.le_of_ble_eq_true rfl); (case w9k1 => k_asm); (case w9k2 => k_asm); k_whole); intro l' h' F' N' l1; (try k_lt l1); (try k_sweep))
  k_with "CompEnd" => lcg_end
  k_with "exec If" => (k_here; refine wpAny_If ?_)
  k_with "call ref" => (k_here; (with_reducible show wpAny _ _ (call (Value.ref 120) _) _ _ _); k_dflt (refine' fitsE_K ?w9zc ?w9k1 ?w9k2 ?w9k3 ?w9k4 ?w9k5 ?w9kK ?w9kd ?w9ku ?w9zw ?_; (case w9zc => assumption); (case w9k1 => k_asm); (case w9k2 => k_asm); (case w9k3 => k_asm); (case w9k4 => k_asm); (case w9k5 => k_asm); (case w9kK => first | exact rfl | assumption); (case w9kd => ktr_room); (case w9ku => ktr_units); (case w9zw => first | assumption | exact words_tail (by assumption) (by assumption) (by omega) | exact words_tail (by assumption) (by decide) (by decide))); intro h9 tk9 F9 N9; (try dsimp only); (try k_fold))
  k_with "call ref" => (k_here; (with_reducible show wpAny _ _ (call (Value.ref 120) _) _ _ _); k_dflt (refine' fitsAny_K ?w9zc ?w9k1 ?w9k2 ?w9k3 ?w9k4 ?w9k5 ?w9kK ?w9kd ?w9ku ?w9zw ?_; (case w9zc => assumption); (case w9k1 => k_asm); (case w9k2 => k_asm); (case w9k3 => k_asm); (case w9k4 => k_asm); (case w9k5 => k_asm); (case w9kK => first | exact rfl | assumption); (case w9kd => ktr_room); (case w9ku => ktr_units); (case w9zw => first | assumption | exact words_tail (by assumption) (by assumption) (by omega) | exact words_tail (by assumption) (by decide) (by decide))); intro h9 tk9 F9 N9; (try dsimp only); (try k_fold))
  have hlen := words_len x hx
  obtain ⟨c, hc⟩ : ∃ c : Str → Bool, c = fun x => ftAny x := ⟨_, rfl⟩
  k_dflt (refine' enterC ?k1 ?k2 ?k3 ?k4 ?k5 ?kA ?kF ?kK ?k6 ?k7 ?k8 ?k9 ?kB ?kD ?_ ?c2 ?c3 ?c4; (case kA => exact rfl); (case kF => exact rfl); (case kK => assumption); (case k1 => k_asm); (case k2 => k_asm); (case k3 => k_asm); (case k4 => k_asm); (case k5 => k_asm); (case k6 => k_is); (case k7 => k_is); (case k8 => ktr_room); (case k9 => exact BindsTo.of_eq rfl); (case kB => exact rfl); (case kD => decide +kernel); (case c2 => exact rfl); (case c3 => exact rfl); (case c4 => exact rfl); k_whole; intro g' L' h' tk' cells' R' F' N' Y' B' X' T' l1; (try k_lt l1); k_cells Y'; (try simp only [List.cons_append, List.nil_append] at N'); (try dsimp only); (try k_fold))
  k_steps
  all_goals (subst hc; refine ret_bool (s := s) hret ?_ ?k; (case k => exact one_stays (by assumption) (by k_asm) N (by k_asm) (by k_mem)); first | exact h1_Q x hx (by assumption) (by assumption) | exact h2_Q x hx (by assumption) (by assumption) | exact h3_Q x hx (by assumption))
theorem fitsQ_K {c : Str → Bool} {x : Str} {t : Tok} {t1 t2 : Tok} (hc : c = fun x => ftQ x) {lp : Addr} {nn : Nat} (B : Below A₀ base outer h₀) (F : Fr h₀ L s.heap m) (X : (hd.heap_39 w.params).In h₀) (N : News h₀ L s.heap ((lp, listOf #[.str (Str.ofString "\"") t1, .str (Str.ofString "any") t2] nn) :: news)) (T : Top p loose mean mg mb h₀) (hk : cs.kind = .function)
    (hd' : dp + 6 < recursionLimit) (hu : un + 600 < cLine) (hx : x ∈ words)
    (hret : ∀ (h' : Heap) (tk' : Nat), Fr h₀ L h' m → News h₀ L h' news → Q (.bool (c x)) { s with heap := h', toks := tk' }) :
    wpAny (model PG w) (ktrTop dp un gd cn cs L a ccd cl outer) (call (.ref 120) [.ref lp, .str x t]) Q E s := by
  subst hc
  exact fitsQ B F X T hk (fun q hq => by rw [List.mem_singleton] at hq; subst hq; exact N _ (.head _)) hd' hu hx fun h' tk' k => hret h' tk' (fr_stays k F) (news_stays k fun q hq => N q (.tail _ hq))
theorem fitsA {x : Str} {t : Tok} {t1 t2 : Tok} {lp : Addr} {nn : Nat} (B : Below A₀ base outer h₀) (F : Fr h₀ L s.heap m) (X : (hd.heap_39 w.params).In h₀) (T : Top p loose mean mg mb h₀) (hk : cs.kind = .function) (N : News h₀ L s.heap [(lp, listOf #[.str (Str.ofString "a") t1, .str (Str.ofString "any") t2] nn)])
    (hd' : dp + 6 < recursionLimit) (_hu : un + 600 < cLine) (hx : x ∈ words)
    (hret : ∀ (h' : Heap) (tk' : Nat), s.heap.StaysIn h' → Q (.bool (ftA x)) { s with heap := h', toks := tk' }) :
    wpAny (model PG w) (ktrTop dp un gd cn cs L a ccd cl outer) (call (.ref 120) [.ref lp, .str x t]) Q E s := by
  k_with_none
  k_with "execs cons" => (k_here; (with_reducible refine wpAny_execs_cons ?_); (try dsimp only); (try k_fold))
  k_with "compareOp NotEq ref ref" => (k_here; (with_reducible show wpAny _ _ (compareOp CmpOp.NotEq (Value.ref _) (Value.ref _)) _ _ _); k_dflt (refine ke_ne_ints (by is_list) (by is_list) (by l_ints) (by l_ints) (by ktr_units) ?_); ke_norm)
  k_with "newList" => (k_here; (with_reducible refine' newList_K ?w9k1 ?w9k2 ?_ ?w9z; (case w9z => exact Nat.le_of_ble_eq_true rfl); (case w9k1 => k_asm); (case w9k2 => k_asm); k_whole); intro l' h' F' N' l1; (try k_lt l1); (try k_sweep))
  k_with "CompEnd" => lcg_end
  k_with "exec If" => (k_here; refine wpAny_If ?_)
  k_with "call ref" => (k_here; (with_reducible show wpAny _ _ (call (Value.ref 120) _) _ _ _); k_dflt (refine' fitsE_K ?w9zc ?w9k1 ?w9k2 ?w9k3 ?w9k4 ?w9k5 ?w9kK ?w9kd ?w9ku ?w9zw ?_; (case w9zc => assumption); (case w9k1 => k_asm); (case w9k2 => k_asm); (case w9k3 => k_asm); (case w9k4 => k_asm); (case w9k5 => k_asm); (case w9kK => first | exact rfl | assumption); (case w9kd => ktr_room); (case w9ku => ktr_units); (case w9zw => first | assumption | exact words_tail (by assumption) (by assumption) (by omega) | exact words_tail (by assumption) (by decide) (by decide))); intro h9 tk9 F9 N9; (try dsimp only); (try k_fold))
  k_with "call ref" => (k_here; (with_reducible show wpAny _ _ (call (Value.ref 120) _) _ _ _); k_dflt (refine' fitsAny_K ?w9zc ?w9k1 ?w9k2 ?w9k3 ?w9k4 ?w9k5 ?w9kK ?w9kd ?w9ku ?w9zw ?_; (case w9zc => assumption); (case w9k1 => k_asm); (case w9k2 => k_asm); (case w9k3 => k_asm); (case w9k4 => k_asm); (case w9k5 => k_asm); (case w9kK => first | exact rfl | assumption); (case w9kd => ktr_room); (case w9ku => ktr_units); (case w9zw => first | assumption | exact words_tail (by assumption) (by assumption) (by omega) | exact words_tail (by assumption) (by decide) (by decide))); intro h9 tk9 F9 N9; (try dsimp only); (try k_fold))
  have hlen := words_len x hx
  obtain ⟨c, hc⟩ : ∃ c : Str → Bool, c = fun x => ftAny x := ⟨_, rfl⟩
  k_dflt (refine' enterC ?k1 ?k2 ?k3 ?k4 ?k5 ?kA ?kF ?kK ?k6 ?k7 ?k8 ?k9 ?kB ?kD ?_ ?c2 ?c3 ?c4; (case kA => exact rfl); (case kF => exact rfl); (case kK => assumption); (case k1 => k_asm); (case k2 => k_asm); (case k3 => k_asm); (case k4 => k_asm); (case k5 => k_asm); (case k6 => k_is); (case k7 => k_is); (case k8 => ktr_room); (case k9 => exact BindsTo.of_eq rfl); (case kB => exact rfl); (case kD => decide +kernel); (case c2 => exact rfl); (case c3 => exact rfl); (case c4 => exact rfl); k_whole; intro g' L' h' tk' cells' R' F' N' Y' B' X' T' l1; (try k_lt l1); k_cells Y'; (try simp only [List.cons_append, List.nil_append] at N'); (try dsimp only); (try k_fold))
  k_steps
  all_goals (subst hc; refine ret_bool (s := s) hret ?_ ?k; (case k => exact one_stays (by assumption) (by k_asm) N (by k_asm) (by k_mem)); first | exact h1_A x hx (by assumption) (by assumption) | exact h2_A x hx (by assumption) (by assumption) | exact h3_A x hx (by assumption))
theorem fitsS {x : Str} {t : Tok} {t1 t2 : Tok} {lp : Addr} {nn : Nat} (B : Below A₀ base outer h₀) (F : Fr h₀ L s.heap m) (X : (hd.heap_39 w.params).In h₀) (T : Top p loose mean mg mb h₀) (hk : cs.kind = .function) (N : News h₀ L s.heap [(lp, listOf #[.str (Str.ofString "*") t1, .str (Str.ofString "any") t2] nn)])
    (hd' : dp + 6 < recursionLimit) (_hu : un + 600 < cLine) (hx : x ∈ words)
    (hret : ∀ (h' : Heap) (tk' : Nat), s.heap.StaysIn h' → Q (.bool (ftS x)) { s with heap := h', toks := tk' }) :
    wpAny (model PG w) (ktrTop dp un gd cn cs L a ccd cl outer) (call (.ref 120) [.ref lp, .str x t]) Q E s := by
  k_with_none
  k_with "execs cons" => (k_here; (with_reducible refine wpAny_execs_cons ?_); (try dsimp only); (try k_fold))
  k_with "compareOp NotEq ref ref" => (k_here; (with_reducible show wpAny _ _ (compareOp CmpOp.NotEq (Value.ref _) (Value.ref _)) _ _ _); k_dflt (refine ke_ne_ints (by is_list) (by is_list) (by l_ints) (by l_ints) (by ktr_units) ?_); ke_norm)
  k_with "newList" => (k_here; (with_reducible refine' newList_K ?w9k1 ?w9k2 ?_ ?w9z; (case w9z => exact Nat.le_of_ble_eq_true rfl); (case w9k1 => k_asm); (case w9k2 => k_asm); k_whole); intro l' h' F' N' l1; (try k_lt l1); (try k_sweep))
  k_with "CompEnd" => lcg_end
  k_with "exec If" => (k_here; refine wpAny_If ?_)
  k_with "call ref" => (k_here; (with_reducible show wpAny _ _ (call (Value.ref 120) _) _ _ _); k_dflt (refine' fitsE_K ?w9zc ?w9k1 ?w9k2 ?w9k3 ?w9k4 ?w9k5 ?w9kK ?w9kd ?w9ku ?w9zw ?_; (case w9zc => assumption); (case w9k1 => k_asm); (case w9k2 => k_asm); (case w9k3 => k_asm); (case w9k4 => k_asm); (case w9k5 => k_asm); (case w9kK => first | exact rfl | assumption); (case w9kd => ktr_room); (case w9ku => ktr_units); (case w9zw => first | assumption | exact words_tail (by assumption) (by assumption) (by omega) | exact words_tail (by assumption) (by decide) (by decide))); intro h9 tk9 F9 N9; (try dsimp only); (try k_fold))
  k_with "call ref" => (k_here; (with_reducible show wpAny _ _ (call (Value.ref 120) _) _ _ _); k_dflt (refine' fitsAny_K ?w9zc ?w9k1 ?w9k2 ?w9k3 ?w9k4 ?w9k5 ?w9kK ?w9kd ?w9ku ?w9zw ?_; (case w9zc => assumption); (case w9k1 => k_asm); (case w9k2 => k_asm); (case w9k3 => k_asm); (case w9k4 => k_asm); (case w9k5 => k_asm); (case w9kK => first | exact rfl | assumption); (case w9kd => ktr_room); (case w9ku => ktr_units); (case w9zw => first | assumption | exact words_tail (by assumption) (by assumption) (by omega) | exact words_tail (by assumption) (by decide) (by decide))); intro h9 tk9 F9 N9; (try dsimp only); (try k_fold))
  have hlen := words_len x hx
  obtain ⟨c, hc⟩ : ∃ c : Str → Bool, c = fun x => ftAny x := ⟨_, rfl⟩
  k_dflt (refine' enterC ?k1 ?k2 ?k3 ?k4 ?k5 ?kA ?kF ?kK ?k6 ?k7 ?k8 ?k9 ?kB ?kD ?_ ?c2 ?c3 ?c4; (case kA => exact rfl); (case kF => exact rfl); (case kK => assumption); (case k1 => k_asm); (case k2 => k_asm); (case k3 => k_asm); (case k4 => k_asm); (case k5 => k_asm); (case k6 => k_is); (case k7 => k_is); (case k8 => ktr_room); (case k9 => exact BindsTo.of_eq rfl); (case kB => exact rfl); (case kD => decide +kernel); (case c2 => exact rfl); (case c3 => exact rfl); (case c4 => exact rfl); k_whole; intro g' L' h' tk' cells' R' F' N' Y' B' X' T' l1; (try k_lt l1); k_cells Y'; (try simp only [List.cons_append, List.nil_append] at N'); (try dsimp only); (try k_fold))
  k_steps
  all_goals (subst hc; refine ret_bool (s := s) hret ?_ ?k; (case k => exact one_stays (by assumption) (by k_asm) N (by k_asm) (by k_mem)); first | exact h1_S x hx (by assumption) (by assumption) | exact h2_S x hx (by assumption) (by assumption) | exact h3_S x hx (by assumption))
theorem fits4 {x : Str} {t : Tok} {t1 : Tok} {lp : Addr} {nn : Nat} (B : Below A₀ base outer h₀) (F : Fr h₀ L s.heap m) (X : (hd.heap_39 w.params).In h₀) (T : Top p loose mean mg mb h₀) (hk : cs.kind = .function) (N : News h₀ L s.heap [(lp, listOf #[.str (Str.ofString "a\"*b") t1] nn)])
    (hd' : dp + 4 < recursionLimit) (_hu : un + 400 < cLine) (hx : x ∈ words)
    (hret : ∀ (h' : Heap) (tk' : Nat), s.heap.StaysIn h' → Q (.bool (ft4 x)) { s with heap := h', toks := tk' }) :
    wpAny (model PG w) (ktrTop dp un gd cn cs L a ccd cl outer) (call (.ref 120) [.ref lp, .str x t]) Q E s := by
  k_with_none
  k_with "execs cons" => (k_here; (with_reducible refine wpAny_execs_cons ?_); (try dsimp only); (try k_fold))
  k_with "compareOp NotEq ref ref" => (k_here; (with_reducible show wpAny _ _ (compareOp CmpOp.NotEq (Value.ref _) (Value.ref _)) _ _ _); k_dflt (refine ke_ne_ints (by is_list) (by is_list) (by l_ints) (by l_ints) (by ktr_units) ?_); ke_norm)
  k_with "newList" => (k_here; (with_reducible refine' newList_K ?w9k1 ?w9k2 ?_ ?w9z; (case w9z => exact Nat.le_of_ble_eq_true rfl); (case w9k1 => k_asm); (case w9k2 => k_asm); k_whole); intro l' h' F' N' l1; (try k_lt l1); (try k_sweep))
  k_with "CompEnd" => lcg_end
  k_with "exec If" => (k_here; refine wpAny_If ?_)
  k_with "call ref" => (k_here; (with_reducible show wpAny _ _ (call (Value.ref 120) _) _ _ _); k_dflt (refine' fitsE_K ?w9zc ?w9k1 ?w9k2 ?w9k3 ?w9k4 ?w9k5 ?w9kK ?w9kd ?w9ku ?w9zw ?_; (case w9zc => assumption); (case w9k1 => k_asm); (case w9k2 => k_asm); (case w9k3 => k_asm); (case w9k4 => k_asm); (case w9k5 => k_asm); (case w9kK => first | exact rfl | assumption); (case w9kd => ktr_room); (case w9ku => ktr_units); (case w9zw => first | assumption | exact words_tail (by assumption) (by assumption) (by omega) | exact words_tail (by assumption) (by decide) (by decide))); intro h9 tk9 F9 N9; (try dsimp only); (try k_fold))
  k_with "call ref" => (k_here; (with_reducible show wpAny _ _ (call (Value.ref 120) _) _ _ _); k_dflt (refine' fitsAny_K ?w9zc ?w9k1 ?w9k2 ?w9k3 ?w9k4 ?w9k5 ?w9kK ?w9kd ?w9ku ?w9zw ?_; (case w9zc => assumption); (case w9k1 => k_asm); (case w9k2 => k_asm); (case w9k3 => k_asm); (case w9k4 => k_asm); (case w9k5 => k_asm); (case w9kK => first | exact rfl | assumption); (case w9kd => ktr_room); (case w9ku => ktr_units); (case w9zw => first | assumption | exact words_tail (by assumption) (by assumption) (by omega) | exact words_tail (by assumption) (by decide) (by decide))); intro h9 tk9 F9 N9; (try dsimp only); (try k_fold))
  have hlen := words_len x hx
  obtain ⟨c, hc⟩ : ∃ c : Str → Bool, c = fun x => ftE x := ⟨_, rfl⟩
  k_dflt (refine' enterC ?k1 ?k2 ?k3 ?k4 ?k5 ?kA ?kF ?kK ?k6 ?k7 ?k8 ?k9 ?kB ?kD ?_ ?c2 ?c3 ?c4; (case kA => exact rfl); (case kF => exact rfl); (case kK => assumption); (case k1 => k_asm); (case k2 => k_asm); (case k3 => k_asm); (case k4 => k_asm); (case k5 => k_asm); (case k6 => k_is); (case k7 => k_is); (case k8 => ktr_room); (case k9 => exact BindsTo.of_eq rfl); (case kB => exact rfl); (case kD => decide +kernel); (case c2 => exact rfl); (case c3 => exact rfl); (case c4 => exact rfl); k_whole; intro g' L' h' tk' cells' R' F' N' Y' B' X' T' l1; (try k_lt l1); k_cells Y'; (try simp only [List.cons_append, List.nil_append] at N'); (try dsimp only); (try k_fold))
  k_steps
  all_goals (subst hc; refine ret_bool (s := s) hret ?_ ?k; (case k => exact one_stays (by assumption) (by k_asm) N (by k_asm) (by k_mem)); first | exact h1_4 x hx (by assumption) (by assumption) | exact h2_4 x hx (by assumption) (by assumption) | exact h3_4 x hx (by assumption))
theorem fitsAQ {x : Str} {t : Tok} {t1 t2 t3 : Tok} {lp : Addr} {nn : Nat} (B : Below A₀ base outer h₀) (F : Fr h₀ L s.heap m) (X : (hd.heap_39 w.params).In h₀) (T : Top p loose mean mg mb h₀) (hk : cs.kind = .function) (N : News h₀ L s.heap [(lp, listOf #[.str (Str.ofString "any") t1, .str (Str.ofString "\"") t2, .str (Str.ofString "any") t3] nn)])
    (hd' : dp + 8 < recursionLimit) (_hu : un + 800 < cLine) (hx : x ∈ words)
    (hret : ∀ (h' : Heap) (tk' : Nat), s.heap.StaysIn h' → Q (.bool (ftAQ x)) { s with heap := h', toks := tk' }) :
    wpAny (model PG w) (ktrTop dp un gd cn cs L a ccd cl outer) (call (.ref 120) [.ref lp, .str x t]) Q E s := by
  k_with_none
  k_with "execs cons" => (k_here; (with_reducible refine wpAny_execs_cons ?_); (try dsimp only); (try k_fold))
  k_with "compareOp NotEq ref ref" => (k_here; (with_reducible show wpAny _ _ (compareOp CmpOp.NotEq (Value.ref _) (Value.ref _)) _ _ _); k_dflt (refine ke_ne_ints (by is_list) (by is_list) (by l_ints) (by l_ints) (by ktr_units) ?_); ke_norm)
  k_with "newList" => (k_here; (with_reducible refine' newList_K ?w9k1 ?w9k2 ?_ ?w9z; (case w9z => exact Nat.le_of_ble_eq_true rfl); (case w9k1 => k_asm); (case w9k2 => k_asm); k_whole); intro l' h' F' N' l1; (try k_lt l1); (try k_sweep))
  k_with "CompEnd" => lcg_end
  k_with "exec If" => (k_here; refine wpAny_If ?_)
  k_with "call ref" => (k_here; (with_reducible show wpAny _ _ (call (Value.ref 120) _) _ _ _); k_dflt (refine' fitsE_K ?w9zc ?w9k1 ?w9k2 ?w9k3 ?w9k4 ?w9k5 ?w9kK ?w9kd ?w9ku ?w9zw ?_; (case w9zc => assumption); (case w9k1 => k_asm); (case w9k2 => k_asm); (case w9k3 => k_asm); (case w9k4 => k_asm); (case w9k5 => k_asm); (case w9kK => first | exact rfl | assumption); (case w9kd => ktr_room); (case w9ku => ktr_units); (case w9zw => first | assumption | exact words_tail (by assumption) (by assumption) (by omega) | exact words_tail (by assumption) (by decide) (by decide))); intro h9 tk9 F9 N9; (try dsimp only); (try k_fold))
  k_with "call ref" => (k_here; (with_reducible show wpAny _ _ (call (Value.ref 120) _) _ _ _); k_dflt (refine' fitsAny_K ?w9zc ?w9k1 ?w9k2 ?w9k3 ?w9k4 ?w9k5 ?w9kK ?w9kd ?w9ku ?w9zw ?_; (case w9zc => assumption); (case w9k1 => k_asm); (case w9k2 => k_asm); (case w9k3 => k_asm); (case w9k4 => k_asm); (case w9k5 => k_asm); (case w9kK => first | exact rfl | assumption); (case w9kd => ktr_room); (case w9ku => ktr_units); (case w9zw => first | assumption | exact words_tail (by assumption) (by assumption) (by omega) | exact words_tail (by assumption) (by decide) (by decide))); intro h9 tk9 F9 N9; (try dsimp only); (try k_fold))
  k_with "call ref" => (k_here; (with_reducible show wpAny _ _ (call (Value.ref 120) _) _ _ _); k_dflt (refine' fitsQ_K ?w9zc ?w9k1 ?w9k2 ?w9k3 ?w9k4 ?w9k5 ?w9kK ?w9kd ?w9ku ?w9zw ?_; (case w9zc => assumption); (case w9k1 => k_asm); (case w9k2 => k_asm); (case w9k3 => k_asm); (case w9k4 => k_asm); (case w9k5 => k_asm); (case w9kK => first | exact rfl | assumption); (case w9kd => ktr_room); (case w9ku => ktr_units); (case w9zw => first | assumption | exact words_tail (by assumption) (by assumption) (by omega) | exact words_tail (by assumption) (by decide) (by decide))); intro h9 tk9 F9 N9; (try dsimp only); (try k_fold))
  have hlen := words_len x hx
  obtain ⟨c, hc⟩ : ∃ c : Str → Bool, c = fun x => ftQ x := ⟨_, rfl⟩
  k_dflt (refine' enterC ?k1 ?k2 ?k3 ?k4 ?k5 ?kA ?kF ?kK ?k6 ?k7 ?k8 ?k9 ?kB ?kD ?_ ?c2 ?c3 ?c4; (case kA => exact rfl); (case kF => exact rfl); (case kK => assumption); (case k1 => k_asm); (case k2 => k_asm); (case k3 => k_asm); (case k4 => k_asm); (case k5 => k_asm); (case k6 => k_is); (case k7 => k_is); (case k8 => ktr_room); (case k9 => exact BindsTo.of_eq rfl); (case kB => exact rfl); (case kD => decide +kernel); (case c2 => exact rfl); (case c3 => exact rfl); (case c4 => exact rfl); k_whole; intro g' L' h' tk' cells' R' F' N' Y' B' X' T' l1; (try k_lt l1); k_cells Y'; (try simp only [List.cons_append, List.nil_append] at N'); (try dsimp only); (try k_fold))
  k_steps
  all_goals (subst hc; refine ret_bool (s := s) hret ?_ ?k; (case k => exact one_stays (by assumption) (by k_asm) N (by k_asm) (by k_mem)); exact any_Q x hx)
end

def Row : Nat → Array Value → Prop
  | 0, vs => ∃ t u, vs = #[.str (Str.ofString "a") t, .str (Str.ofString "any") u]
  | 1, vs => ∃ t u v, vs = #[.str (Str.ofString "any") t, .str (Str.ofString "\"") u, .str (Str.ofString "any") v]
  | 2, vs => ∃ t, vs = #[.str (Str.ofString "a\"*b") t]
  | _, vs => ∃ t u, vs = #[.str (Str.ofString "*") t, .str (Str.ofString "any") u]
def ftV : Nat → Str → Bool | 0 => ftA | 1 => ftAQ | 2 => ft4 | _ => ftS
def RowIn (news : List (Addr × Obj)) (r : Addr) (k : Nat) : Prop := ∃ vs nn, (r, listOf vs nn) ∈ news ∧ Row k vs
section
variable {w : World} {p : Program} {loose : List Str} {mean : ExcName → Option Value} {mg mb : Str → Option Value} {dp un : Nat} {gd : Option (List Code)} {cn : Str} {cs : Scope} {a : Addr} {ccd : Value} {cl : List (Str × Addr)} {outer : List Env} {A₀ : Around} {base h₀ : Heap} {L : Addr} {m : Str → Option Value} {news : List (Addr × Obj)} {s : Shared}
    {Q E : Value → Shared → Prop}
theorem fits_row {i : Nat} {x : Str} {t : Tok} {r : Addr} (B : Below A₀ base outer h₀) (F : Fr h₀ L s.heap m) (X : (hd.heap_39 w.params).In h₀) (N : News h₀ L s.heap news) (T : Top p loose mean mg mb h₀) (hk : cs.kind = .function) (hr : RowIn news r i)
    (hd' : dp + 8 < recursionLimit) (hu : un + 800 < cLine) (hx : x ∈ words)
    (hret : ∀ (h' : Heap) (tk' : Nat), Fr h₀ L h' m → News h₀ L h' news → Q (.bool (ftV i x)) { s with heap := h', toks := tk' }) :
    wpAny (model PG w) (ktrTop dp un gd cn cs L a ccd cl outer) (call (.ref 120) [.ref r, .str x t]) Q E s := by
  obtain ⟨vs, nn, hm, hp⟩ := hr
  have N1 : News h₀ L s.heap [(r, listOf vs nn)] := fun q hq => by rw [List.mem_singleton] at hq; subst hq; exact N _ hm
  have fin : ∀ (h' : Heap) (tk' : Nat), s.heap.StaysIn h' → Q (.bool (ftV i x)) { s with heap := h', toks := tk' } := fun h' tk' k => hret h' tk' (fr_stays k F) (news_stays k N)
  rcases i with _ | _ | _ | i
  · obtain ⟨t, u, rfl⟩ := hp
    exact fitsA B F X T hk N1 (by omega) (by omega) hx fin
  · obtain ⟨t, u, v, rfl⟩ := hp
    exact fitsAQ B F X T hk N1 (by omega) (by omega) hx fin
  · obtain ⟨t, rfl⟩ := hp
    exact fits4 B F X T hk N1 (by omega) (by omega) hx fin
  · obtain ⟨t, u, rfl⟩ := hp
    exact fitsS B F X T hk N1 (by omega) (by omega) hx fin
theorem row_K {A : Around} {value slice : Expr} {tl r0 r1 r2 r3 : Addr} {nn : Nat} {k : Int} {u : Tok} (N : News h₀ L s.heap news) (hm : (tl, listOf #[.ref r0, .ref r1, .ref r2, .ref r3] nn) ∈ news) (h0 : 0 ≤ k) (h4 : k < 4)
    (q0 : RowIn news r0 0) (q1 : RowIn news r1 1) (q2 : RowIn news r2 2) (q3 : RowIn news r3 3) (h : ∀ r, RowIn news r k.toNat → Q (.ref r) s)
    (hs : subscripted slice false (.ref tl) (.int k u) = operate [.ref tl, .int k u] (getItem (.ref tl) (.int k u)) := by with_unfolding_all rfl) (hg : ∀ r, letTemporaryGo value (.ref tl) r = pure () := by intro _; with_unfolding_all rfl) :
    wpAny (model PG w) A (subscriptTail value slice (.ref tl) (.int k u)) Q E s := by
  have hl : s.heap.IsList tl #[.ref r0, .ref r1, .ref r2, .ref r3] := ⟨_, (N _ hm).1, rfl, nn, rfl⟩
  rcases (by omega : k = 0 ∨ k = 1 ∨ k = 2 ∨ k = 3) with rfl | rfl | rfl | rfl
  · exact item_list hl h0 (by decide) (x := .ref r0) rfl (h _ q0) hs hg
  · exact item_list hl h0 (by decide) (x := .ref r1) rfl (h _ q1) hs hg
  · exact item_list hl h0 (by decide) (x := .ref r2) rfl (h _ q2) hs hg
  · exact item_list hl h0 (by decide) (x := .ref r3) rfl (h _ q3) hs hg
end

def dueX (n : Int) (ns : List Str) : List Str :=
  if (n.fdiv 16).fmod 4 < 3 then stepL (ftV ((n.fdiv 3).fmod 4).toNat (if (n.fdiv 16).fmod 4 < 2 then nameV n else Str.ofString "")) (if (n.fdiv 16).fmod 4 < 2 then nameV n else Str.ofString "") ns else ns
def duesX (ks : List Int) (ns : List Str) : List Str := ks.foldl (fun ns k => dueX k ns) ns
theorem nmW_words : ∀ a < 4, ∀ b < 4, ∀ c < 2, nmW a b c ∈ words := by decide +kernel
theorem nameV_words (n : Int) : nameV n ∈ words := nmW_words _ (by have := fm4 n; omega) _ (by have := fm4 (n.fdiv 4); omega) _ (by have := fm2 (n.fdiv 5); omega)
theorem nil_words : Str.ofString "" ∈ words := by decide +kernel
theorem duesX_take {ks : List Int} {ns : List Str} {k : Nat} {n : Int} (h : ks[k]? = some n) : duesX (ks.take (k + 1)) ns = dueX n (duesX (ks.take k) ns) := by
  unfold duesX
  rw [List.take_add_one, h, List.foldl_append]
  rfl
theorem dueX_len (n : Int) (ns : List Str) : (dueX n ns).length ≤ ns.length + 1 := by
  unfold dueX
  split
  · exact stepL_len _ _ _
  · omega
theorem duesX_len : ∀ (ks : List Int) (ns : List Str), (duesX ks ns).length ≤ ns.length + ks.length
  | [], ns => Nat.le_refl _
  | k :: ks, ns => by
    show (duesX ks (dueX k ns)).length ≤ _
    have h1 := duesX_len ks (dueX k ns)
    have h2 := dueX_len k ns
    rw [List.length_cons]; omega
theorem due_len {ks : List Int} {i : Nat} (h : ks.length ≤ 1000) : (duesX (ks.take i) []).length ≤ 1000 := by
  have h1 := duesX_len (ks.take i) []
  have h2 : (ks.take i).length ≤ ks.length := by rw [List.length_take]; omega
  have h3 : ([] : List Str).length = 0 := rfl
  omega
section
variable {w : World} {p : Program} {loose : List Str} {mean : ExcName → Option Value} {mg mb : Str → Option Value} {dp un : Nat} {gd : Option (List Code)} {cn : Str} {cs : Scope} {a : Addr} {ccd : Value} {cl : List (Str × Addr)} {outer : List Env} {A₀ : Around} {base h₀ : Heap} {L : Addr} {m : Str → Option Value} {news : List (Addr × Obj)} {s : Shared}
    {Q E : Value → Shared → Prop}
variable {A : Around} {g : Heap} {I sl : Addr} {its : Array Value} {ks : List Int} {m₀ : Str → Option Value} {fixed : List (Addr × Obj)}
structure DInv (g : Heap) (L I sl : Addr) (ks : List Int) (fixed : List (Addr × Obj)) (m₀ : Str → Option Value) (i : Nat) (h1 : Heap) (l : Addr) (vs : Array Value) (nn : Nat) (oi : Obj) (u1 u2 : Option Value) : Prop where
  le : i ≤ ks.length
  fr : Fr g L h1 (fun y => if y = Str.ofString "folders" then some (.ref l) else if y = Str.ofString "n" then u1 else if y = Str.ofString "name" then u2 else m₀ y)
  nw : News g L h1 ((I, oi) :: (l, listOf vs nn) :: fixed)
  it : ItOf oi sl i
  sa : StrsAre vs.toList (duesX (ks.take i) [])
def DNext (g : Heap) (L sl : Addr) (ks : List Int) (fixed : List (Addr × Obj)) (m₀ : Str → Option Value) (I : Addr) (i : Nat) (s s₃ : Shared) : Prop :=
  ∃ (h1 : Heap) (tk1 : Nat) (l : Addr) (vs : Array Value) (nn : Nat) (oi : Obj) (u1 u2 : Option Value), s₃ = { s with heap := h1, toks := tk1 } ∧ DInv g L I sl ks fixed m₀ i h1 l vs nn oi u1 u2
theorem due_for {env : Env} {target : Expr} {body : List Stmt} {y : Str} {py pos : Pos} {m' : Str → Option Value} {fl : Addr} {vs : Array Value} {nn : Nat} {Q : Flow → Shared → Prop} (hh : A.handled = none)
    (hI : wpAny (model PG w) A (eval (.Name y py) env) (fun xv s₁ => xv = .ref sl ∧ s₁ = s) E s)
    (F : Fr g L s.heap m') (N : News g L s.heap ((fl, listOf vs nn) :: fixed)) (hs : StrsAre vs.toList []) (hmv : m' (Str.ofString "folders") = some (.ref fl)) (hL : g.IsList sl its) (hT : IntsAre its.toList ks)
    (hd : ∀ q ∈ fixed, q.2.cls = .type "list")
    (turn : ∀ (i : Nat) (h1 : Heap) (tk1 : Nat) (I l : Addr) (vs : Array Value) (nn : Nat) (oi : Obj) (u1 u2 : Option Value) (n : Int) (t : Tok), i < ks.length → ks[i]? = some n →
      Fr g L h1 (fun y => if y = Str.ofString "folders" then some (.ref l) else if y = Str.ofString "n" then u1 else if y = Str.ofString "name" then u2 else m' y) → News g L h1 ((I, oi) :: (l, listOf vs nn) :: fixed) → ItOf oi sl (i + 1) → StrsAre vs.toList (duesX (ks.take i) []) →
      wpAny (model PG w) A (assign target env (.int n t)) (fun _ s₂ => wpAny (model PG w) A (execs body env) (fun f s₃ => match f with
        | .next | .cont => DNext g L sl ks fixed m' I (i + 1) s s₃ | .brk => Q .next s₃ | .ret v => Q (.ret v) s₃) E s₂) E { s with heap := h1, toks := tk1 })
    (done : ∀ (h1 : Heap) (tk1 : Nat) (l : Addr) (vs : Array Value) (nn : Nat) (u1 u2 : Option Value), Fr g L h1 (fun y => if y = Str.ofString "folders" then some (.ref l) else if y = Str.ofString "n" then u1 else if y = Str.ofString "name" then u2 else m' y) → News g L h1 ((l, listOf vs nn) :: fixed) →
      StrsAre vs.toList (duesX ks []) → Q .next { s with heap := h1, toks := tk1 })
    (hgo : ∀ i v, letOwnedTupleGo target i v = pure () := by intros; rfl)
    (hsf : ∀ x, foldedSetIterable (.Name y py) env x = pure x := by intro _; rfl)
    (hE : PassesOwn (model PG w) A env E := by passes_own) :
    wpAny (model PG w) A (exec (.For target (.Name y py) body [] pos) env) Q E s := by
  have e0 : (fun y => if y = Str.ofString "folders" then some (Value.ref fl) else if y = Str.ofString "n" then m' (Str.ofString "n") else if y = Str.ofString "name" then m' (Str.ofString "name") else m' y) = m' := by
    funext y
    by_cases e1 : y = Str.ofString "folders"
    · subst e1; exact hmv.symm
    · by_cases e2 : y = Str.ofString "n"
      · subst e2; rfl
      · by_cases e3 : y = Str.ofString "name"
        · subst e3; rfl
        · simp only [if_neg e1, if_neg e2, if_neg e3]
  have hlen : its.size = ks.length := by rw [← Array.length_toList, hT.length]
  refine wpAny_For (wpAny_mono hI (fun xv s₁ h₁ => ?_) fun _ _ e => e) hsf
  obtain ⟨rfl, rfl⟩ := h₁
  refine wpAny_pyIter_list (isList_keep F.keep hL) ?_
  have N0 : News g L (s₁.heap.push { cls := .type "list_iterator", data := .fields #[.ref sl, .int 0 0] }) _ := News.push F N _ rfl
  have off : ∀ (h1 : Heap) (l : Addr) (vs : Array Value) (nn : Nat) (oi : Obj) (i : Nat), News g L h1 ((s₁.heap.objs.size, oi) :: (l, listOf vs nn) :: fixed) → ItOf oi sl i → ∀ a ∈ ((l, listOf vs nn) :: fixed), a.1 ≠ s₁.heap.objs.size := fun h1 l vs nn oi i nw it a ha e => by
    have q1 := (nw _ (.head _)).1
    have q2 := (nw a (.tail _ ha)).1
    rw [e, q1] at q2
    have z2 : oi = a.2 := Option.some.inj q2
    have c2 : a.2.cls = .type "list" := by
      rcases List.mem_cons.mp ha with rfl | ha
      · rfl
      · exact hd a ha
    have := it.1
    rw [z2, c2] at this
    exact absurd this (by decide)
  refine codeAny_forLoop_any (fun k s' => ∃ i, DNext g L sl ks fixed m' s₁.heap.objs.size i s₁ s' ∧ k = ks.length + 1 - i) ?_ (ks.length + 1)
    ⟨0, ⟨_, s₁.toks, fl, vs, nn, _, m' (Str.ofString "n"), m' (Str.ofString "name"), rfl, ⟨Nat.zero_le _, (by rw [e0]; exact F.push _), N0, ⟨rfl, rfl⟩, hs⟩⟩, rfl⟩
  rintro k s' ⟨i, ⟨h1, tk1, l, vs, nn, oi, u1, u2, rfl, R⟩, rfl⟩
  have nI := R.nw _ (.head _)
  have hi1 : h1.IsListIter s₁.heap.objs.size sl i := ⟨oi, nI.1, R.it.1, R.it.2⟩
  have hl1 := isList_keep R.fr.keep hL
  cases hx : ks[i]? with
  | some n =>
    have hlt : i < ks.length := by
      rcases Nat.lt_or_ge i ks.length with z | z
      · exact z
      · rw [List.getElem?_eq_none z] at hx; cases hx
    obtain ⟨t, hv⟩ := hT.get i n hx
    rw [Array.getElem?_toList] at hv
    refine wpAny_pyNext_list_item hi1 hl1 hv fun h' hi' hb => ?_
    obtain ⟨oi', e1, e2, e3⟩ := hi'
    refine wpAny_of_eq (hgo _ _) ?_
    refine wpAny_mono (wpAny_passesOwn hE (wpAny_mono (turn i h' tk1 s₁.heap.objs.size l vs nn oi' u1 u2 n t hlt hx (R.fr.change hb nI.2.1 nI.2.2) (fun a ha => ?_) ⟨e2, e3⟩ R.sa) (fun _ s₂ h₂ => wpAny_passesOwn hE h₂) fun _ _ e => e)) (fun _ s₂ h₂ => wpAny_mono h₂ (fun f s₃ h₃ => ?_) fun _ _ e => e) fun _ _ e => e
    · rcases List.mem_cons.mp ha with rfl | ha
      · exact ⟨e1, nI.2⟩
      · have := R.nw a (.tail _ ha)
        exact ⟨(hb.2 _ (off h1 l vs nn oi i R.nw R.it a ha)).trans this.1, this.2⟩
    · cases f with
      | ret v => exact h₃
      | brk => exact h₃
      | cont => exact ⟨ks.length + 1 - (i + 1), by omega, i + 1, h₃, rfl⟩
      | next => exact ⟨ks.length + 1 - (i + 1), by omega, i + 1, h₃, rfl⟩
  | none =>
    have hge : ks.length ≤ i := by
      rcases Nat.lt_or_ge i ks.length with z | z
      · rw [List.getElem?_eq_getElem z] at hx; cases hx
      · exact z
    have hi : i = ks.length := by have := R.le; omega
    subst hi
    refine wpAny_pyNext_list_end hh hi1 hl1 (by rw [Array.getElem?_eq_none (by omega)]) fun h' hb => wpAny_execs_nil ?_
    refine done h' tk1 l vs nn u1 u2 ⟨R.fr.ns.extBut hb nI.2.1.symm, fun b o e => hb b o (fun q => by rw [q, nI.2.2] at e; cases e) (R.fr.keep b o e), R.fr.above⟩ (fun a ha => ?_) (List.take_length (l := ks) ▸ R.sa)
    have := R.nw a (.tail _ ha)
    exact ⟨hb _ _ (off h1 l vs nn oi _ R.nw R.it a ha) this.1, this.2⟩
theorem d_next {i tk1 nn : Nat} {h2 : Heap} {l : Addr} {vs : Array Value} {oi : Obj} {u1 u2 : Option Value} {n : Int} {mm : Str → Option Value} (hlt : i < ks.length) (F : Fr g L h2 mm)
    (e : ∀ y, mm y = if y = Str.ofString "folders" then some (.ref l) else if y = Str.ofString "n" then u1 else if y = Str.ofString "name" then u2 else m₀ y) (N : News g L h2 ((I, oi) :: (l, listOf vs nn) :: fixed)) (it : ItOf oi sl (i + 1)) (hk : ks[i]? = some n) (hs : StrsAre vs.toList (dueX n (duesX (ks.take i) []))) :
    DNext g L sl ks fixed m₀ I (i + 1) s { s with heap := h2, toks := tk1 } :=
  ⟨h2, tk1, l, vs, nn, oi, u1, u2, rfl, ⟨hlt, (funext e : mm = _) ▸ F, N, it, (duesX_take hk).symm ▸ hs⟩⟩
end
theorem due_add {n : Int} {nm : Str} {t : Tok} {vs : Array Value} {ns : List Str} (h : StrsAre vs.toList ns) (hnm : (if (n.fdiv 16).fmod 4 < 2 then nameV n else Str.ofString "") = nm) (h3 : (n.fdiv 16).fmod 4 < 3) (f : ftV ((n.fdiv 3).fmod 4).toNat nm = true) :
    StrsAre ((vs.toList ++ [Value.str nm t]).toArray).toList (dueX n ns) := by
  unfold dueX
  rw [if_pos h3, hnm]
  exact strs_add h f
theorem due_drop {n : Int} {nm : Str} {vs : Array Value} {ns : List Str} (h : StrsAre vs.toList ns) (hnm : (if (n.fdiv 16).fmod 4 < 2 then nameV n else Str.ofString "") = nm) (h3 : (n.fdiv 16).fmod 4 < 3) (f : ftV ((n.fdiv 3).fmod 4).toNat nm = false) :
    StrsAre (slicePick vs none (some (-1)) none).toList (dueX n ns) := by
  unfold dueX
  rw [if_pos h3, hnm]
  exact strs_drop h f
theorem due_keep {n : Int} {vs : Array Value} {ns : List Str} (h : StrsAre vs.toList ns) (h3 : ¬ (n.fdiv 16).fmod 4 < 3) : StrsAre vs.toList (dueX n ns) := by
  unfold dueX
  rw [if_neg h3]
  exact h

def AllL : List (Addr × Obj) → Prop | [] => True | p :: r => p.2.cls = .type "list" ∧ AllL r
theorem allL_of : ∀ {l : List (Addr × Obj)}, AllL l → ∀ q ∈ l, q.2.cls = .type "list"
  | [], _, _, h => nomatch h
  | p :: r, h, q, hq => by
    rcases List.mem_cons.mp hq with rfl | hq
    · exact h.1
    · exact allL_of h.2 q hq
section
variable {w : World} {p : Program} {loose : List Str} {mean : ExcName → Option Value} {mg mb : Str → Option Value} {dp un : Nat} {gd : Option (List Code)} {cn : Str} {cs : Scope} {a : Addr} {ccd : Value} {cl : List (Str × Addr)} {outer : List Env} {A₀ : Around} {base h₀ : Heap} {L : Addr} {m : Str → Option Value} {news : List (Addr × Obj)} {s : Shared}
    {Q E : Value → Shared → Prop}
theorem due_con {sl : Addr} {its : Array Value} {ks : List Int} (B : Below A₀ base outer h₀) (F : Fr h₀ L s.heap m) (X : (hd.heap_39 w.params).In h₀) (T : Top p loose mean mg mb h₀) (hk : cs.kind = .function) (N : News h₀ L s.heap []) (hL : s.heap.IsList sl its) (hT : IntsAre its.toList ks)
    (hd' : dp + 12 < recursionLimit) (_hu : un + 1200 < cLine) (hn : ks.length ≤ 1000)
    (hret : ∀ (l : Addr) (vs : Array Value) (nn : Nat) (h' : Heap) (tk' : Nat), StrsAre vs.toList (duesX ks []) → s.heap.StaysIn h' → h'.get? l = some (listOf vs nn) → s.heap.get? l = none → Q (.ref l) { s with heap := h', toks := tk' }) :
    wpAny (model PG w) (ktrTop dp un gd cn cs L a ccd cl outer) (call (.ref 134) [.ref sl]) Q E s := by
  k_with_none
  k_with "execs cons" => (k_here; (with_reducible refine wpAny_execs_cons ?_); (try dsimp only); (try k_fold))
  k_with "eval Name" => ((k_here; (fail_if_success (with_reducible show wpAny _ _ (eval (Expr.Name _ _) (compEnvC _ _ _ _)) _ _ _))); first | k_dflt (refine' nameX_L ?w9F ?w9v ?_ ?w9a ?w9b; (case w9F => k_asm); (case w9a => rfl); (case w9b => rfl); (case w9v => rfl); k_whole) | k_dflt (refine' ld ?w9F ?w9v ?_; (case w9F => k_asm); (case w9v => exact rfl); k_whole))
  k_with "exec If" => (k_here; refine wpAny_If ?_)
  k_with "newList" => (k_here; (with_reducible refine' newList_K ?w9k1 ?w9k2 ?_ ?w9z; (case w9z => exact Nat.le_of_ble_eq_true rfl); (case w9k1 => k_asm); (case w9k2 => k_asm); k_whole); intro l' h' F' N' l1; (try k_lt l1); (try k_sweep))
  k_with "call ref" => (k_here; (with_reducible show wpAny _ _ (call (Value.ref _) _) _ _ _); k_dflt (refine' name_con ?w9k1 ?w9k2 ?w9k3 ?w9k4 ?w9k5 ?w9kK ?w9kd ?w9ku ?_; (case w9k1 => k_asm); (case w9k2 => k_asm); (case w9k3 => k_asm); (case w9k4 => k_asm); (case w9k5 => k_asm); (case w9kK => first | exact rfl | assumption); (case w9kd => ktr_room); (case w9ku => ktr_units)); intro t9 h9 tk9 hto9 F9 N9; (try dsimp only); (try dsimp only at hto9); (try k_fold))
  k_with "call ref" => (k_here; (with_reducible show wpAny _ _ (call (Value.ref 120) _) _ _ _); k_dflt (refine' fits_row ?w9k1 ?w9k2 ?w9k3 ?w9k4 ?w9k5 ?w9kK ?w9zr ?w9kd ?w9ku ?w9zw ?_; (case w9k1 => k_asm); (case w9k2 => k_asm); (case w9k3 => k_asm); (case w9k4 => k_asm); (case w9k5 => k_asm); (case w9kK => first | exact rfl | assumption); (case w9zr => assumption); (case w9kd => ktr_room); (case w9ku => ktr_units); (case w9zw => first | exact nameV_words _ | exact nil_words)); intro h9 tk9 F9 N9; (try dsimp only); (try k_fold))
  k_with "binaryOp Add ref ref" => (k_here; k_dflt (refine' kmk_add_lit ?w9F ?w9N ?w9a ?w9b rfl ?_ ?w9z; (case w9F => k_asm); (case w9N => k_asm); (case w9a => kmk_list); (case w9b => kmk_list); (case w9z => exact size_two (by assumption) (due_len (by assumption)))); intro D' h' F' N' l1; (try k_lt l1); (try k_sweep))
  k_with "subscriptTail Name Slice ref ref" => (k_here; k_dflt (refine' kmk_slice ?w9F ?w9N ?w9l ?w9p ?w9q ?_ ?w9s ?w9t ?w9z; (case w9F => k_asm); (case w9N => k_asm); (case w9l => kmk_list); (case w9p => kmk_part); (case w9q => kmk_part); (case w9s => with_unfolding_all rfl); (case w9t => kmk_pure); (case w9z => exact size_in (by assumption) (due_len (by assumption)))); intro D' h' F' N' l1; (try k_lt l1); (try k_sweep))
  k_with "subscriptTail Name BinOp ref int" => (k_here; k_dflt (refine' row_K ?w9zN ?w9zm ?w9z0 ?w9z4 ?w9q0 ?w9q1 ?w9q2 ?w9q3 ?_; (case w9zN => k_asm); (case w9zm => k_mem); (case w9z0 => exact (fm4 _).1); (case w9z4 => exact (fm4 _).2); (case w9q0 => exact ⟨_, _, by k_mem, ⟨_, _, rfl⟩⟩); (case w9q1 => exact ⟨_, _, by k_mem, ⟨_, _, _, rfl⟩⟩); (case w9q2 => exact ⟨_, _, by k_mem, ⟨_, rfl⟩⟩); (case w9q3 => exact ⟨_, _, by k_mem, ⟨_, _, rfl⟩⟩)); intro r9 hr9)
  k_with "exec For Name Name cons nil" => (k_here; k_dflt (refine' due_for ?w9hh ?w9hI ?w9F ?w9N ?w9s ?w9mv ?w9l ?w9t ?w9d ?w9turn ?w9done; (case w9hh => exact rfl); (case w9F => k_asm); (case w9N => k_asm); (case w9s => exact .nil); (case w9mv => exact rfl); (case w9l => assumption); (case w9t => assumption); (case w9d => exact allL_of (by repeat (first | exact ⟨rfl, trivial⟩ | refine ⟨rfl, ?_⟩))); (case' w9turn => (intro i9 h1 tk1 I9 l vs1 nn1 oi1 u1 u2 n9 t9 hlt hk9 F9 N9 hit9 hs9)); (case' w9done => (intro h1 tk1 l vs1 nn1 u1 u2 F9 N9 hs9))))
  k_dflt (refine' enterP ?k1 ?k2 ?k3 ?k4 ?k5 ?kA ?kF ?kK ?k6 ?k7 ?k8 ?k9 ?kB ?c5 ?_ ?c2 ?c3 ?c4; (case kA => exact rfl); (case kF => exact rfl); (case kK => assumption); (case k1 => k_asm); (case k2 => k_asm); (case k3 => k_asm); (case k4 => k_asm); (case k5 => k_asm); (case k6 => k_is); (case k7 => k_is); (case k8 => ktr_room); (case k9 => exact BindsTo.of_eq rfl); (case c5 => decide); (case kB => exact locs rfl); (case c2 => exact rfl); (case c3 => exact rfl); (case c4 => exact rfl); k_whole; intro g' L' h' R' F' N' B' X' T' l1; (try k_lt l1); (try dsimp only); (try k_fold))
  have hL' : g'.IsList sl its := by
    obtain ⟨ob, e, r⟩ := hL
    exact ⟨ob, R' _ _ e (by simp), r⟩
  k_steps
  · (refine' use3 (hret _ _ _ _ _ ?zs) (ret_list ?zR ?zF ?zN ?zm); (case zs => assumption); (case zR => assumption); (case zF => k_asm); (case zN => k_asm); (case zm => k_mem))
  · exact d_next (by assumption) (by k_asm) (fun y => by
        by_cases e1 : y = Str.ofString "folders"
        · subst e1; rfl
        · by_cases e2 : y = Str.ofString "n"
          · subst e2; rfl
          · by_cases e3 : y = Str.ofString "name"
            · subst e3; rfl
            · simp only [if_neg e1, if_neg e2, if_neg e3]) (by (first | k_asm | (refine' cb_drop ?cbN ?cbS; (case cbN => assumption); (case cbS => kcj_all)))) (by assumption) (by assumption) (due_add (by assumption) (if_pos (by assumption)) (by omega) (by assumption))
  · exact d_next (by assumption) (by k_asm) (fun y => by
        by_cases e1 : y = Str.ofString "folders"
        · subst e1; rfl
        · by_cases e2 : y = Str.ofString "n"
          · subst e2; rfl
          · by_cases e3 : y = Str.ofString "name"
            · subst e3; rfl
            · simp only [if_neg e1, if_neg e2, if_neg e3]) (by (first | k_asm | (refine' cb_drop ?cbN ?cbS; (case cbN => assumption); (case cbS => kcj_all)))) (by assumption) (by assumption) (due_drop (by assumption) (if_pos (by assumption)) (by omega) (by assumption))
  · exact d_next (by assumption) (by k_asm) (fun y => by
        by_cases e1 : y = Str.ofString "folders"
        · subst e1; rfl
        · by_cases e2 : y = Str.ofString "n"
          · subst e2; rfl
          · by_cases e3 : y = Str.ofString "name"
            · subst e3; rfl
            · simp only [if_neg e1, if_neg e2, if_neg e3]) (by (first | k_asm | (refine' cb_drop ?cbN ?cbS; (case cbN => assumption); (case cbS => kcj_all)))) (by assumption) (by assumption) (due_add (by assumption) (if_neg (by assumption)) (by assumption) (by assumption))
  · exact d_next (by assumption) (by k_asm) (fun y => by
        by_cases e1 : y = Str.ofString "folders"
        · subst e1; rfl
        · by_cases e2 : y = Str.ofString "n"
          · subst e2; rfl
          · by_cases e3 : y = Str.ofString "name"
            · subst e3; rfl
            · simp only [if_neg e1, if_neg e2, if_neg e3]) (by (first | k_asm | (refine' cb_drop ?cbN ?cbS; (case cbN => assumption); (case cbS => kcj_all)))) (by assumption) (by assumption) (due_drop (by assumption) (if_neg (by assumption)) (by assumption) (by assumption))
  · exact d_next (by assumption) (by k_asm) (fun y => by
        by_cases e1 : y = Str.ofString "folders"
        · subst e1; rfl
        · by_cases e2 : y = Str.ofString "n"
          · subst e2; rfl
          · by_cases e3 : y = Str.ofString "name"
            · subst e3; rfl
            · simp only [if_neg e1, if_neg e2, if_neg e3]) (by (first | k_asm | (refine' cb_drop ?cbN ?cbS; (case cbN => assumption); (case cbS => kcj_all)))) (by assumption) (by assumption) (due_keep (by assumption) (by assumption))
end

abbrev tupO (k : Int) (t u : Tok) : Obj := { cls := .type "tuple", data := .seq #[.str (replyV k) t, .str (patV ((k.fdiv 3).fmod 4).toNat) u] }
inductive Tups : List Value → List Int → List (Addr × Obj) → Prop
  | nil : Tups [] [] []
  | snoc {ys : List Value} {ks : List Int} {own : List (Addr × Obj)} (q : Addr) (k : Int) (t u : Tok) : Tups ys ks own → Tups (ys ++ [.ref q]) (ks ++ [k]) ((q, tupO k t u) :: own)
def KCtEl (news own : List (Addr × Obj)) (k : Int) (y : Value) (news' : List (Addr × Obj)) : Prop := ∃ (q : Addr) (t u : Tok), y = .ref q ∧ news' = news ++ ((q, tupO k t u) :: own)
section
variable {prog : Program} {w : World} {A : Around} {h₀ : Heap} {L : Addr} {m : Str → Option Value} {env : Env} {elt : Expr} {x : Str} {scope : Scope} {cl : List (Str × Addr)} {s : Shared} {S : List (Addr × Obj) → Prop} {P : Nat → Value → Prop} {Fin : List Value → List (Addr × Obj) → Prop} {news : List (Addr × Obj)}
theorem tup_rest {n : Nat} {ks : List Int} (hks : ks.length = n) (hP : ∀ i v, i < n → P i v → ∃ k t, ks[i]? = some k ∧ v = .int k t)
    (turn : ∀ k t I oI C oC D m₂ ys own h tk (E' : Value → Shared → Prop), k ∈ ks → LCg.NsObj oC m₂ → m₂ x = some (.int k t) → Fr h₀ L h m → News h₀ L h ((I, oI) :: (C, oC) :: (D, LCg.lst ys) :: (news ++ own)) → LCg.Off3 I C D (news ++ own) → ((@Ne Nat I C) ∧ (@Ne Nat I D) ∧ (@Ne Nat C D)) →
      wpAny (model prog w) A (eval elt (compEnvC scope cl C env)) (LCg.CompEnd h₀ L m { s with heap := h, toks := tk } I oI C oC D (LCg.lst ys) S (fun y news' => KCtEl news own k y news')) E' { s with heap := h, toks := tk })
    (fin : ∀ ys own, Tups ys ks own → Fin ys (news ++ own)) : LCg.CompRest prog w A h₀ L m env elt x scope cl s S P Fin n 0 [] news := by
  have key : ∀ (j i : Nat) (ys : List Value) (own : List (Addr × Obj)), i + j = n → Tups ys (ks.take i) own → LCg.CompRest prog w A h₀ L m env elt x scope cl s S P Fin j i ys (news ++ own) := by
    intro j
    induction j with
    | zero =>
      intro i ys own hi hy
      have e : i = ks.length := by omega
      subst e
      rw [List.take_length] at hy
      exact LCg.CompRest.zero (fin ys own hy)
    | succ j ih =>
      intro i ys own hi hy
      refine LCg.CompRest.succ ?_
      intro v I oI C oC D m₂ h tk E' hv hC hx F N off ne
      obtain ⟨k, t, hk, hv'⟩ := hP i v (by omega) hv
      rw [hv'] at hx
      refine wpAny_mono (turn k t I oI C oC D m₂ ys own h tk E' (List.mem_of_getElem? hk) hC hx F N off ne) (fun y s₂ hq => ?_) fun _ _ e => e
      obtain ⟨h', tk', nw, e, F', N', off', hS, q, t', u', hy', hn⟩ := hq
      subst hn
      refine ⟨h', tk', _, e, F', N', off', hS, ?_⟩
      rw [hy']
      refine ih (i + 1) _ _ (by omega) ?_
      rw [List.take_add_one, hk]
      exact .snoc q k t' u' hy
  have := key n 0 [] [] (by omega) (by simp only [List.take_zero]; exact .nil)
  rwa [List.append_nil] at this
end
theorem Tups.len : ∀ {ys : List Value} {ks : List Int} {own : List (Addr × Obj)}, Tups ys ks own → ys.length = ks.length
  | _, _, _, .nil => rfl
  | _, _, _, .snoc q k t u h => by rw [List.length_append, List.length_append, h.len]; rfl
theorem Tups.at : ∀ {ys : List Value} {ks : List Int} {own : List (Addr × Obj)}, Tups ys ks own → ∀ (i : Nat) (v : Value), ys[i]? = some v → ∃ (q : Addr) (k : Int) (t u : Tok), ks[i]? = some k ∧ v = .ref q ∧ (q, tupO k t u) ∈ own
  | _, _, _, .nil, i, v, h => by cases h
  | _, _, _, .snoc (ys := ys) (ks := ks) q k t u h, i, v, hv => by
    rcases Nat.lt_or_ge i ys.length with z | z
    · rw [List.getElem?_append_left z] at hv
      obtain ⟨q', k', t', u', a, b, c⟩ := h.at i v hv
      refine ⟨q', k', t', u', ?_, b, .tail _ c⟩
      rw [List.getElem?_append_left (by rw [← h.len]; exact z)]
      exact a
    · rw [List.getElem?_append_right z] at hv
      rcases e : i - ys.length with _ | j
      · rw [e] at hv
        refine ⟨q, k, t, u, ?_, (Option.some.inj hv).symm, .head _⟩
        rw [List.getElem?_append_right (by rw [← h.len]; exact z), ← h.len, e]
        rfl
      · rw [e] at hv; cases hv
section
variable {prog : Program} {w : World} {A : Around} {h₀ : Heap} {L : Addr} {m : Str → Option Value} {env : Env} {elt : Expr} {x : Str} {scope : Scope} {cl : List (Str × Addr)} {s : Shared} {S : List (Addr × Obj) → Prop} {Fin : List Value → List (Addr × Obj) → Prop} {news : List (Addr × Obj)}
theorem tup_list {vs : List Value} {ns : List Int} (hi : IntsAre vs ns)
    (turn : ∀ k t I oI C oC D m₂ ys own h tk (E' : Value → Shared → Prop), k ∈ ns → LCg.NsObj oC m₂ → m₂ x = some (.int k t) → Fr h₀ L h m → News h₀ L h ((I, oI) :: (C, oC) :: (D, LCg.lst ys) :: (news ++ own)) → LCg.Off3 I C D (news ++ own) → ((@Ne Nat I C) ∧ (@Ne Nat I D) ∧ (@Ne Nat C D)) →
      wpAny (model prog w) A (eval elt (compEnvC scope cl C env)) (LCg.CompEnd h₀ L m { s with heap := h, toks := tk } I oI C oC D (LCg.lst ys) S (fun y news' => KCtEl news own k y news')) E' { s with heap := h, toks := tk })
    (fin : ∀ ys own, Tups ys ns own → Fin ys (news ++ own)) : LCg.CompRest prog w A h₀ L m env elt x scope cl s S (fun i v => vs.toArray[i]? = some v) Fin vs.toArray.size 0 [] news :=
  tup_rest (ks := ns) (by rw [List.size_toArray]; exact hi.length.symm) (fun i v _ hv => by
    obtain ⟨k, t, e, hk⟩ := IntsAre.at hi i v (by simpa using hv)
    exact ⟨k, t, hk, e⟩) turn fin
end
section
variable {w : World} {A : Around} {E : Value → Shared → Prop} {s : Shared} {Q : Value → Shared → Prop} {h₀ : Heap} {L : Addr} {news : List (Addr × Obj)}
theorem pat_K {value slice : Expr} {l : Addr} {t0 t1 t2 t3 : Tok} {nn : Nat} {k : Int} {u : Tok} (N : News h₀ L s.heap news) (hm : (l, listOf #[.str (Str.ofString "a*") t0, .str (Str.ofString "*\"*") t1, .str (Str.ofString "?") t2, .str (Str.ofString "[*]*") t3] nn) ∈ news) (h0 : 0 ≤ k) (h4 : k < 4)
    (h : ∀ t, Q (.str (patV k.toNat) t) s)
    (hs : subscripted slice false (.ref l) (.int k u) = operate [.ref l, .int k u] (getItem (.ref l) (.int k u)) := by with_unfolding_all rfl) :
    wpAny (model PG w) A (subscriptTail value slice (.ref l) (.int k u)) Q E s := by
  have hl : s.heap.IsList l #[.str (Str.ofString "a*") t0, .str (Str.ofString "*\"*") t1, .str (Str.ofString "?") t2, .str (Str.ofString "[*]*") t3] := ⟨_, (N _ hm).1, rfl, nn, rfl⟩
  rcases (by omega : k = 0 ∨ k = 1 ∨ k = 2 ∨ k = 3) with rfl | rfl | rfl | rfl
  · exact tail_any hl.typeIs slot_list_getitem.lookup (wpAny_getItem_list hl h0 (by decide) (x := .str (Str.ofString "a*") t0) rfl (h _)) hs
  · exact tail_any hl.typeIs slot_list_getitem.lookup (wpAny_getItem_list hl h0 (by decide) (x := .str (Str.ofString "*\"*") t1) rfl (h _)) hs
  · exact tail_any hl.typeIs slot_list_getitem.lookup (wpAny_getItem_list hl h0 (by decide) (x := .str (Str.ofString "?") t2) rfl (h _)) hs
  · exact tail_any hl.typeIs slot_list_getitem.lookup (wpAny_getItem_list hl h0 (by decide) (x := .str (Str.ofString "[*]*") t3) rfl (h _)) hs
end

-- the plain law: a turn of the client equals a turn of the plain walk
def repW (a b c r : Nat) : Str :=
  if r < 2 then Str.ofString "257 \"" ++ Txt.replace (nmW a b c) (Str.ofString "\"") (Str.ofString "\"\"") ++ [Str.ofString "\" is \"it\"", Str.ofString "\""].getD r Str.empty
  else [Str.ofString "257 at ", Str.ofString "250 \""].getD (r - 2) Str.empty ++ nmW a b c
theorem replyV_is (n : Int) : replyV n = repW (n.fmod 4).toNat ((n.fdiv 4).fmod 4).toNat ((n.fdiv 5).fmod 2).toNat ((n.fdiv 16).fmod 4).toNat := by
  have h := fm4 (n.fdiv 16)
  unfold replyV repW nameV
  by_cases hr : (n.fdiv 16).fmod 4 < 2
  · rw [if_pos hr, if_pos (by omega)]
  · rw [if_neg hr, if_neg (by omega), show ((n.fdiv 16).fmod 4 - 2).toNat = ((n.fdiv 16).fmod 4).toNat - 2 by omega]
theorem repW_len : ∀ a < 4, ∀ b < 4, ∀ c < 2, ∀ r < 4, (repW a b c r).length ≤ 100 := by decide +kernel
theorem repW_lo : ∀ a < 4, ∀ b < 4, ∀ c < 2, ∀ r < 2, Txt.slice (repW a b c r) none (some 3) = Str.ofString "257" ∧ pv (repW a b c r) = nmW a b c := by decide +kernel
theorem repW_two : ∀ a < 4, ∀ b < 4, ∀ c < 2, Txt.slice (repW a b c 2) none (some 3) = Str.ofString "257" ∧ pv (repW a b c 2) = Str.ofString "" := by decide +kernel
theorem repW_three : ∀ a < 4, ∀ b < 4, ∀ c < 2, Txt.slice (repW a b c 3) none (some 3) ≠ Str.ofString "257" := by decide +kernel
theorem rests (n : Int) : (n.fmod 4).toNat < 4 ∧ ((n.fdiv 4).fmod 4).toNat < 4 ∧ ((n.fdiv 5).fmod 2).toNat < 2 ∧ ((n.fdiv 16).fmod 4).toNat < 4 := by
  have h1 := fm4 n
  have h2 := fm4 (n.fdiv 4)
  have h3 := fm2 (n.fdiv 5)
  have h4 := fm4 (n.fdiv 16)
  omega
theorem tk_ft (i : Nat) (x : Str) : tkV i x = ftV i x := by
  rcases i with _ | _ | _ | i <;> rfl
theorem reply_lo (n : Int) (h : (n.fdiv 16).fmod 4 < 2) : Txt.slice (replyV n) none (some 3) = Str.ofString "257" ∧ pv (replyV n) = nameV n := by
  obtain ⟨a, b, c, _⟩ := rests n
  rw [replyV_is]
  exact repW_lo _ a _ b _ c _ (by have := fm4 (n.fdiv 16); omega)
theorem reply_two (n : Int) (h : (n.fdiv 16).fmod 4 = 2) : Txt.slice (replyV n) none (some 3) = Str.ofString "257" ∧ pv (replyV n) = Str.ofString "" := by
  obtain ⟨a, b, c, _⟩ := rests n
  rw [replyV_is, h]
  exact repW_two _ a _ b _ c
theorem reply_three (n : Int) (h : (n.fdiv 16).fmod 4 = 3) : Txt.slice (replyV n) none (some 3) ≠ Str.ofString "257" := by
  obtain ⟨a, b, c, _⟩ := rests n
  rw [replyV_is, h]
  exact repW_three _ a _ b _ c
theorem turn_eq (n : Int) (ns : List Str) : stepX (replyV n) ((n.fdiv 3).fmod 4).toNat ns = dueX n ns := by
  have h := fm4 (n.fdiv 16)
  unfold stepX dueX
  by_cases h2 : (n.fdiv 16).fmod 4 < 2
  · obtain ⟨e1, e2⟩ := reply_lo n h2
    rw [if_pos e1, e2, if_pos (by omega), if_pos h2, tk_ft]
  · by_cases h3 : (n.fdiv 16).fmod 4 = 2
    · obtain ⟨e1, e2⟩ := reply_two n h3
      rw [if_pos e1, e2, if_pos (by omega), if_neg h2, tk_ft]
    · rw [if_neg (reply_three n (by omega)), if_neg (by omega)]
theorem goodX (n : Int) : GoodX (replyV n) := by
  obtain ⟨a, b, c, d⟩ := rests n
  refine ⟨by rw [replyV_is]; exact repW_len _ a _ b _ c _ d, fun e => ?_⟩
  have h := fm4 (n.fdiv 16)
  by_cases h2 : (n.fdiv 16).fmod 4 < 2
  · rw [(reply_lo n h2).2]; exact nameV_words n
  · by_cases h3 : (n.fdiv 16).fmod 4 = 2
    · rw [(reply_two n h3).2]; exact nil_words
    · exact absurd e (reply_three n (by omega))
def talkX (ks : List Int) : List (Str × Nat) := ks.map fun k => (replyV k, ((k.fdiv 3).fmod 4).toNat)
theorem run_eq : ∀ (ks : List Int) (ns : List Str), stepsX (talkX ks) ns = duesX ks ns
  | [], _ => rfl
  | k :: ks, ns => by
    show stepsX (talkX ks) (stepX (replyV k) ((k.fdiv 3).fmod 4).toNat ns) = duesX ks (dueX k ns)
    rw [turn_eq]
    exact run_eq ks _
theorem nameOr_words (n : Int) : (if (n.fdiv 16).fmod 4 < 2 then nameV n else Str.ofString "") ∈ words := by
  split
  · exact nameV_words n
  · exact nil_words
theorem stepL_words {b : Bool} {nm : Str} {ns : List Str} (h : ∀ x ∈ ns, x ∈ words) (hn : nm ∈ words) : ∀ x ∈ stepL b nm ns, x ∈ words := by
  intro x hx
  cases b
  · exact h x ((List.dropLast_sublist ns).subset hx)
  · rcases List.mem_append.mp (show x ∈ ns ++ [nm] from hx) with hx | hx
    · exact h x hx
    · rw [List.mem_singleton.mp hx]; exact hn
theorem dueX_words {n : Int} {ns : List Str} (h : ∀ x ∈ ns, x ∈ words) : ∀ x ∈ dueX n ns, x ∈ words := by
  unfold dueX
  by_cases h3 : (n.fdiv 16).fmod 4 < 3
  · rw [if_pos h3]; exact stepL_words h (nameOr_words n)
  · rw [if_neg h3]; exact h
theorem duesX_words : ∀ (ks : List Int) (ns : List Str), (∀ x ∈ ns, x ∈ words) → ∀ x ∈ duesX ks ns, x ∈ words
  | [], _, h => h
  | k :: ks, ns, h => by
    show ∀ x ∈ duesX ks (dueX k ns), x ∈ words
    exact duesX_words ks _ (dueX_words h)
theorem words_ok : ∀ x ∈ words, PyData.strOk x = true := by decide +kernel
theorem strs_carried : ∀ {vs : List Value} {ns : List Str}, StrsAre vs ns → CarriedAll vs (ns.map PyData.str)
  | _, _, .nil => .nil
  | _, _, .cons _ t r => .cons (.str _ t) (strs_carried r)
theorem strs_lay : ∀ {ns : List Str}, (∀ x ∈ ns, x ∈ words) → PyData.canLayAll0 (ns.map PyData.str) = true
  | [], _ => rfl
  | x :: r, h => by
    show (PyData.canLay0 (.str x) && PyData.canLayAll0 (r.map PyData.str)) = true
    rw [strs_lay fun y hy => h y (.tail _ hy), Bool.and_true]
    simp only [PyData.canLay0]
    exact words_ok x (h x (.head _))
theorem strs_depth : ∀ ns : List Str, PyData.depthAll (ns.map PyData.str) = 0
  | [] => rfl
  | _ :: r => by simp [PyData.depthAll, PyData.depth, strs_depth r]
theorem strs_shaped {ns : List Str} (h : ∀ x ∈ ns, x ∈ words) : SeqAt.shaped (.list (ns.map PyData.str)) = true := by
  simp [SeqAt.shaped, PyData.canLay0, PyData.depth, strs_lay h, strs_depth]
theorem strs_noMix : ∀ ns : List Str, SeqAt.noMixAll (ns.map PyData.str) (ns.map PyData.str) = true
  | [] => by simp [SeqAt.noMixAll]
  | _ :: r => by simp [SeqAt.noMixAll, SeqAt.noMix, strs_noMix r]
theorem strs_same : ∀ ns : List Str, PySem.Spec.sameAll (ns.map PyData.str) (ns.map PyData.str) = true
  | [] => by simp [PySem.Spec.sameAll]
  | _ :: r => by simp [PySem.Spec.sameAll, PySem.Spec.same, strs_same r]
theorem ne_strs {prog : Program} {w : World} {A : Around} {E : Value → Shared → Prop} {s : Shared} {a b : Addr} {xs ys : Array Value} {ns : List Str} {Q : Value → Shared → Prop} (ha : s.heap.IsList a xs) (hb : s.heap.IsList b ys) (hi : StrsAre xs.toList ns) (hj : StrsAre ys.toList ns) (hw : ∀ x ∈ ns, x ∈ words)
    (hu : A.units + 64 < cLine) (h : Q (.bool false) s) : wpAny (model prog w) A (compareOp .NotEq (.ref a) (.ref b)) Q E s := by
  have ha' : s.heap.IsList a xs.toList.toArray := by rw [Array.toArray_toList]; exact ha
  have hb' : s.heap.IsList b ys.toList.toArray := by rw [Array.toArray_toList]; exact hb
  refine ne_dataH_same (reads_newData ha' (strs_carried hi)) (reads_newData hb' (strs_carried hj)) (strs_shaped hw) (strs_shaped hw) hu (by simp only [SeqAt.noMix]; exact strs_noMix ns) ?_
  rw [show PySem.Spec.same (.list (ns.map PyData.str)) (.list (ns.map PyData.str)) = true by simp only [PySem.Spec.same]; exact strs_same ns]
  exact h

def TupEnd (h₀ : Heap) (L : Addr) (m : Str → Option Value) (s : Shared) (all : List (Addr × Obj)) (k : Int) (y : Value) (s₂ : Shared) : Prop :=
  ∃ (h' : Heap) (tk' : Nat) (q : Addr) (t u : Tok), y = .ref q ∧ s₂ = { s with heap := h', toks := tk' } ∧ Fr h₀ L h' m ∧ News h₀ L h' ((q, tupO k t u) :: all) ∧ (∀ p ∈ all, p.1 < q)
section
variable {prog : Program} {w : World} {A : Around} {h₀ : Heap} {L : Addr} {m : Str → Option Value} {env : Env} {elt : Expr} {x : Str} {scope : Scope} {cl : List (Str × Addr)} {s : Shared} {S : List (Addr × Obj) → Prop} {Fin : List Value → List (Addr × Obj) → Prop} {news : List (Addr × Obj)}
theorem src_more {ax : Addr} {its : Array Value} {q : Addr} {o : Obj} {own : List (Addr × Obj)} (h : LCg.SrcAt h₀ ax its news) : LCg.SrcAt h₀ ax its (news ++ ((q, o) :: own)) := by
  rcases h with h | ⟨o, hm, r⟩
  · exact .inl h
  · exact .inr ⟨o, List.mem_append.mpr (.inl hm), r⟩
theorem tup_open {vs : List Value} {ns : List Int} (hi : IntsAre vs ns) (hS : ∀ q o own, S (news ++ ((q, o) :: own)))
    (turn : ∀ k t C oC m₂ all h tk (E' : Value → Shared → Prop), k ∈ ns → (C, oC) ∈ all → LCg.NsObj oC m₂ → m₂ x = some (.int k t) → Fr h₀ L h m → News h₀ L h all →
      wpAny (model prog w) A (eval elt (compEnvC scope cl C env)) (TupEnd h₀ L m { s with heap := h, toks := tk } all k) E' { s with heap := h, toks := tk })
    (fin : ∀ ys own, Tups ys ns own → Fin ys (news ++ own)) : LCg.CompRest prog w A h₀ L m env elt x scope cl s S (fun i v => vs.toArray[i]? = some v) Fin vs.toArray.size 0 [] news := by
  refine tup_list hi (fun k t I oI C oC D m₂ ys own h tk E' hk hC hx F N off ne => ?_) fin
  refine wpAny_mono (turn k t C oC m₂ _ h tk E' hk (.tail _ (.head _)) hC hx F N) (fun y s₂ hq => ?_) fun _ _ e => e
  obtain ⟨h', tk', q, t', u', rfl, rfl, F', N', lt⟩ := hq
  refine ⟨h', tk', news ++ ((q, tupO k t' u') :: own), rfl, F', fun p hp => N' p ?_, LCg.Off3.of fun p hp => ?_, hS _ _ _, q, t', u', rfl, rfl⟩
  · rcases List.mem_cons.mp hp with rfl | hp
    · exact .tail _ (.head _)
    · rcases List.mem_cons.mp hp with rfl | hp
      · exact .tail _ (.tail _ (.head _))
      · rcases List.mem_cons.mp hp with rfl | hp
        · exact .tail _ (.tail _ (.tail _ (.head _)))
        · rcases List.mem_append.mp hp with hp | hp
          · exact .tail _ (.tail _ (.tail _ (.tail _ (List.mem_append.mpr (.inl hp)))))
          · rcases List.mem_cons.mp hp with rfl | hp
            · exact .head _
            · exact .tail _ (.tail _ (.tail _ (.tail _ (List.mem_append.mpr (.inr hp)))))
  · have lI := lt (I, oI) (.head _)
    have lC := lt (C, oC) (.tail _ (.head _))
    have lD := lt (D, LCg.lst ys) (.tail _ (.tail _ (.head _)))
    rcases List.mem_append.mp hp with hp | hp
    · exact off.mem p (List.mem_append.mpr (.inl hp))
    · rcases List.mem_cons.mp hp with rfl | hp
      · exact ⟨Nat.ne_of_gt lI, Nat.ne_of_gt lC, Nat.ne_of_gt lD⟩
      · exact off.mem p (List.mem_append.mpr (.inr hp))
end
theorem allLt_mem {d : Addr} : ∀ {l : List (Addr × Obj)}, AllLt d l → ∀ p ∈ l, p.1 < d
  | [], _, p, h => nomatch h
  | _ :: _, x, p, h => by
    rcases List.mem_cons.mp h with rfl | h
    · exact x.1
    · exact allLt_mem x.2 p h
theorem tup_end {h₀ : Heap} {L : Addr} {m : Str → Option Value} {s : Shared} {all : List (Addr × Obj)} {k : Int} {h' : Heap} {tk' : Nat} {q l' : Addr} {o : Obj} {t u : Tok} (F : Fr h₀ L h' m) (N : News h₀ L h' ((q, tupO k t u) :: (l', o) :: all)) (lt : l' < q ∧ AllLt q all) :
    TupEnd h₀ L m s all k (.ref q) { s with heap := h', toks := tk' } :=
  ⟨h', tk', q, t, u, rfl, rfl, F, fun p hp => N p (by
    rcases List.mem_cons.mp hp with rfl | hp
    · exact .head _
    · exact .tail _ (.tail _ hp)), allLt_mem lt.2⟩
theorem Tups.cls : ∀ {ys : List Value} {ks : List Int} {own : List (Addr × Obj)}, Tups ys ks own → ∀ p ∈ own, p.2.cls = .type "tuple"
  | _, _, _, .nil, p, h => nomatch h
  | _, _, _, .snoc q k t u r, p, h => by
    rcases List.mem_cons.mp h with rfl | h
    · rfl
    · exact r.cls p h
theorem tab_cls {o : Obj} (h : Tab o) : o.cls = .none := by
  rcases h with rfl | ⟨c, rfl⟩ <;> rfl
theorem rest_ne {h₀ h : Heap} {L : Addr} {o : Obj} {rest : List (Addr × Obj)} (N : News h₀ L h ((82, o) :: rest)) (ho : Tab o) (hc : ∀ p ∈ rest, p.2.cls ≠ .none) : ∀ p ∈ rest, p.1 ≠ 82 := fun p hp e => by
  have h1 := (N _ (.head _)).1
  have h2 := (N p (.tail _ hp)).1
  rw [e, h1] at h2
  cases h2
  exact hc p hp (tab_cls ho)
structure Pack (ys : List Value) (ds : List Int) (own : List (Addr × Obj)) (ws : List Value) (D dr : Addr) (rest : List (Addr × Obj)) : Prop where
  mD : (D, LCg.lst ys) ∈ rest
  mdr : (dr, listOf ws.toArray 0) ∈ rest
  tp : Tups ys ds own
  ow : ∀ p ∈ own, p ∈ rest
  isI : IntsAre ws ds
  len : ds.length ≤ 900
  ne : ∀ p ∈ rest, p.1 ≠ 82
theorem fin_open {h₀ : Heap} {L : Addr} {m : Str → Option Value} {s : Shared} {y : Str} {Q : Flow → Shared → Prop} {ys : List Value} {ks : List Int} {own : List (Addr × Obj)} {dr a2 a3 : Addr} {ws : List Value} {o2 o3 o : Obj} (tp : Tups ys ks own) (ho : Tab o) (hi : IntsAre ws ks) (hlen : ks.length ≤ 900)
    (h : ∀ D h tk rest, Fr h₀ L h (fun z => if z = y then some (.ref D) else m z) → News h₀ L h ((82, o) :: rest) → (D, LCg.lst ys) ∈ rest → (dr, listOf ws.toArray 0) ∈ rest → Pack ys ks own ws D dr rest → Q .next { s with heap := h, toks := tk }) :
    LCg.FinA h₀ L m s y Q ys ([(dr, listOf ws.toArray 0), (a2, o2), (a3, o3), (82, o)] ++ own) := by
  intro D g tk F N off
  have N' : News h₀ L g ((82, o) :: ((D, LCg.lst ys) :: (dr, listOf ws.toArray 0) :: own)) := fun p hp => N p (by
    rcases List.mem_cons.mp hp with rfl | hp
    · exact .tail _ (List.mem_append.mpr (.inl (.tail _ (.tail _ (.tail _ (.head _))))))
    · rcases List.mem_cons.mp hp with rfl | hp
      · exact .head _
      · rcases List.mem_cons.mp hp with rfl | hp
        · exact .tail _ (.head _)
        · exact .tail _ (List.mem_append.mpr (.inr hp)))
  refine h D g tk _ F N' (.head _) (.tail _ (.head _)) ⟨.head _, .tail _ (.head _), tp, fun p hp => .tail _ (.tail _ hp), hi, hlen, rest_ne N' ho fun p hp e => ?_⟩
  rcases List.mem_cons.mp hp with rfl | hp
  · exact absurd e (show ¬ Value.type "list" = Value.none by decide)
  · rcases List.mem_cons.mp hp with rfl | hp
    · exact absurd e (show ¬ Value.type "list" = Value.none by decide)
    · rw [tp.cls p hp] at e
      exact absurd e (show ¬ Value.type "tuple" = Value.none by decide)

section
variable {w : World} {A : Around} {E : Value → Shared → Prop} {s : Shared} {g : Heap} {L : Addr} {m : Str → Option Value}
def LNext (g : Heap) (L lt : Addr) (rest : List (Addr × Obj)) (m₀ : Str → Option Value) (I : Addr) (i : Nat) (s s₃ : Shared) : Prop :=
  ∃ (h1 : Heap) (tk1 : Nat) (oi o : Obj) (u : Option Value), s₃ = { s with heap := h1, toks := tk1 } ∧ @LT.lt Nat _ 0 tk1 ∧ Fr g L h1 (fun y => if y = Str.ofString "k" then u else m₀ y) ∧ News g L h1 ((I, oi) :: (82, o) :: rest) ∧ ItOf oi lt i ∧ Tab o
def LSrc (w : World) (A : Around) (g : Heap) (L : Addr) (env : Env) (target : Expr) (body : List Stmt) (Q : Flow → Shared → Prop) (E : Value → Shared → Prop) (xv : Value) (s₁ : Shared) : Prop :=
  ∃ (lt : Addr) (its : Array Value) (ks : List Int) (nn : Nat) (o : Obj) (rest : List (Addr × Obj)) (m : Str → Option Value), xv = .ref lt ∧ IntsAre its.toList ks ∧ (∀ k ∈ ks, 0 ≤ k) ∧ @LT.lt Nat _ 0 s₁.toks ∧ Fr g L s₁.heap m ∧ News g L s₁.heap ((82, o) :: rest) ∧ (lt, listOf its nn) ∈ rest ∧ Tab o ∧
    (∀ (i : Nat) (h1 : Heap) (tk1 : Nat) (I : Addr) (oi o1 : Obj) (u : Option Value) (k : Int) (t : Tok), ks[i]? = some k → 0 ≤ k → @LT.lt Nat _ 0 tk1 → Fr g L h1 (fun y => if y = Str.ofString "k" then u else m y) → News g L h1 ((I, oi) :: (82, o1) :: rest) → ItOf oi lt (i + 1) → Tab o1 → (@LT.lt Nat _ 82 I ∧ AllLt I rest) →
      wpAny (model PG w) A (assign target env (.int k t)) (fun _ s₂ => wpAny (model PG w) A (execs body env) (fun f s₃ => match f with
        | .next | .cont => LNext g L lt rest m I (i + 1) s₁ s₃ | .brk => Q .next s₃ | .ret v => Q (.ret v) s₃) E s₂) E { s₁ with heap := h1, toks := tk1 }) ∧
    (∀ (h1 : Heap) (tk1 : Nat) (o1 : Obj) (u : Option Value), Fr g L h1 (fun y => if y = Str.ofString "k" then u else m y) → News g L h1 ((82, o1) :: rest) → Tab o1 → Q .next { s₁ with heap := h1, toks := tk1 })
theorem law_for {env : Env} {target iter : Expr} {body : List Stmt} {pos : Pos} {Q : Flow → Shared → Prop} (_F : Fr g L s.heap m) (hh : A.handled = none)
    (h : wpAny (model PG w) A (eval iter env) (LSrc w A g L env target body Q E) E s)
    (hgo : ∀ i v, letOwnedTupleGo target i v = pure () := by intros; rfl)
    (hsf : ∀ x, foldedSetIterable iter env x = pure x := by intro _; rfl)
    (hE : PassesOwn (model PG w) A env E := by passes_own) :
    wpAny (model PG w) A (exec (.For target iter body [] pos) env) Q E s := by
  refine wpAny_For (wpAny_mono h (fun xv s₁ h₁ => ?_) fun _ _ e => e) hsf
  obtain ⟨lt, its, ks, nn, o, rest, m, rfl, hT, hpos, htk, F, N, hm, ho, turn, done⟩ := h₁
  have nl := N _ (.tail _ hm)
  have hL : s₁.heap.IsList lt its := ⟨_, nl.1, rfl, nn, rfl⟩
  have hlen : its.size = ks.length := by rw [← Array.length_toList, hT.length]
  refine wpAny_pyIter_list hL ?_
  have N0 : News g L (s₁.heap.push { cls := .type "list_iterator", data := .fields #[.ref lt, .int 0 0] }) _ := News.push F N _ rfl
  have lt0 : ∀ p ∈ (82, o) :: rest, p.1 < s₁.heap.objs.size := fun p hp => Heap.lt_size (N p hp).1
  have off82 : (82 : Addr) < s₁.heap.objs.size := lt0 (82, o) (.head _)
  have offR : ∀ p ∈ rest, p.1 < s₁.heap.objs.size := fun p hp => lt0 p (.tail _ hp)
  refine codeAny_forLoop_any (fun k s' => ∃ i, (LNext g L lt rest m s₁.heap.objs.size i s₁ s' ∧ i ≤ ks.length) ∧ k = ks.length + 1 - i) ?_ (ks.length + 1)
    ⟨0, ⟨⟨_, s₁.toks, _, o, m (Str.ofString "k"), rfl, htk, (by
      have e0 : (fun y => if y = Str.ofString "k" then m (Str.ofString "k") else m y) = m := by
        funext y
        by_cases e1 : y = Str.ofString "k"
        · subst e1; rfl
        · simp only [if_neg e1]
      rw [e0]; exact F.push _), N0, ⟨rfl, rfl⟩, ho⟩, Nat.zero_le _⟩, rfl⟩
  rintro k s' ⟨i, ⟨⟨h1, tk1, oi, o1, u, rfl, htk1, F1, N1, it1, ho1⟩, hle⟩, rfl⟩
  have nI := N1 _ (.head _)
  have hi1 : h1.IsListIter s₁.heap.objs.size lt i := ⟨oi, nI.1, it1.1, it1.2⟩
  have hl1 : h1.IsList lt its := ⟨_, (N1 _ (.tail _ (.tail _ hm))).1, rfl, nn, rfl⟩
  have off : ∀ a ∈ (82, o1) :: rest, a.1 ≠ s₁.heap.objs.size := fun a ha => by
    rcases List.mem_cons.mp ha with rfl | ha
    · exact Nat.ne_of_lt off82
    · exact Nat.ne_of_lt (offR a ha)
  cases hx : ks[i]? with
  | some n =>
    have hlt : i < ks.length := by
      rcases Nat.lt_or_ge i ks.length with z | z
      · exact z
      · rw [List.getElem?_eq_none z] at hx; cases hx
    obtain ⟨t, hv⟩ := hT.get i n hx
    rw [Array.getElem?_toList] at hv
    refine wpAny_pyNext_list_item hi1 hl1 hv fun h' hi' hb => ?_
    obtain ⟨oi', e1, e2, e3⟩ := hi'
    refine wpAny_of_eq (hgo _ _) ?_
    refine wpAny_mono (wpAny_passesOwn hE (wpAny_mono (turn i h' tk1 s₁.heap.objs.size oi' o1 u n t hx (hpos n (List.mem_of_getElem? hx)) htk1 (F1.change hb nI.2.1 nI.2.2) (fun a ha => ?_) ⟨e2, e3⟩ ho1 ⟨off82, allLt_of offR⟩) (fun _ s₂ h₂ => wpAny_passesOwn hE h₂) fun _ _ e => e)) (fun _ s₂ h₂ => wpAny_mono h₂ (fun f s₃ h₃ => ?_) fun _ _ e => e) fun _ _ e => e
    · rcases List.mem_cons.mp ha with rfl | ha
      · exact ⟨e1, nI.2⟩
      · have := N1 a (.tail _ ha)
        exact ⟨(hb.2 _ (off a ha)).trans this.1, this.2⟩
    · cases f with
      | ret v => exact h₃
      | brk => exact h₃
      | cont => exact ⟨ks.length + 1 - (i + 1), by omega, i + 1, ⟨h₃, hlt⟩, rfl⟩
      | next => exact ⟨ks.length + 1 - (i + 1), by omega, i + 1, ⟨h₃, hlt⟩, rfl⟩
  | none =>
    have hge : ks.length ≤ i := by
      rcases Nat.lt_or_ge i ks.length with z | z
      · rw [List.getElem?_eq_getElem z] at hx; cases hx
      · exact z
    have hi : i = ks.length := by omega
    subst hi
    refine wpAny_pyNext_list_end hh hi1 hl1 (by rw [Array.getElem?_eq_none (by omega)]) fun h' hb => wpAny_execs_nil ?_
    refine done h' tk1 o1 u ⟨F1.ns.extBut hb nI.2.1.symm, fun b o e => hb b o (fun q => by rw [q, nI.2.2] at e; cases e) (F1.keep b o e), F1.above⟩ (fun a ha => ?_) ho1
    have := N1 a (.tail _ ha)
    exact ⟨hb _ _ (off a ha) this.1, this.2⟩
theorem law_src {env : Env} {target : Expr} {body : List Stmt} {Q : Flow → Shared → Prop} {lt D dr : Addr} {its : Array Value} {ks ds : List Int} {nn : Nat} {o : Obj} {own rest : List (Addr × Obj)} {ys ws : List Value} (hT : IntsAre its.toList ks) (hpos : ∀ k ∈ ks, 0 ≤ k) (htk : @LT.lt Nat _ 0 s.toks) (F : Fr g L s.heap m)
    (N : News g L s.heap ((lt, listOf its nn) :: (82, o) :: rest)) (ho : Tab o) (P : Pack ys ds own ws D dr rest)
    (turn : ∀ (rest' : List (Addr × Obj)) (i : Nat) (h1 : Heap) (tk1 : Nat) (I : Addr) (oi o1 : Obj) (u : Option Value) (k : Int) (t : Tok), Pack ys ds own ws D dr rest' → (D, LCg.lst ys) ∈ rest' → (dr, listOf ws.toArray 0) ∈ rest' → 0 ≤ k → @LT.lt Nat _ 0 tk1 → Fr g L h1 (fun y => if y = Str.ofString "k" then u else m y) → News g L h1 ((I, oi) :: (82, o1) :: rest') → ItOf oi lt (i + 1) → Tab o1 → (@LT.lt Nat _ 82 I ∧ AllLt I rest') →
      wpAny (model PG w) A (assign target env (.int k t)) (fun _ s₂ => wpAny (model PG w) A (execs body env) (fun f s₃ => match f with
        | .next | .cont => LNext g L lt rest' m I (i + 1) s s₃ | .brk => Q .next s₃ | .ret v => Q (.ret v) s₃) E s₂) E { s with heap := h1, toks := tk1 })
    (done : ∀ (rest' : List (Addr × Obj)) (h1 : Heap) (tk1 : Nat) (o1 : Obj) (u : Option Value), Fr g L h1 (fun y => if y = Str.ofString "k" then u else m y) → News g L h1 ((82, o1) :: rest') → Tab o1 → Q .next { s with heap := h1, toks := tk1 }) :
    LSrc w A g L env target body Q E (.ref lt) s := by
  have N' : News g L s.heap ((82, o) :: (lt, listOf its nn) :: rest) := fun p hp => N p (by
    rcases List.mem_cons.mp hp with rfl | hp
    · exact .tail _ (.head _)
    · rcases List.mem_cons.mp hp with rfl | hp
      · exact .head _
      · exact .tail _ (.tail _ hp))
  have hn : @Ne Nat lt 82 := fun e => by
    have h1 := (N' _ (.head _)).1
    have h2 := (N' _ (.tail _ (.head _))).1
    have e' : lt = 82 := e
    rw [e', h1] at h2
    cases h2
    exact absurd (tab_cls ho) (show ¬ Value.type "list" = Value.none by decide)
  have P' : Pack ys ds own ws D dr ((lt, listOf its nn) :: rest) := ⟨.tail _ P.mD, .tail _ P.mdr, P.tp, fun p hp => .tail _ (P.ow p hp), P.isI, P.len, fun p hp => by
    rcases List.mem_cons.mp hp with rfl | hp
    · exact hn
    · exact P.ne p hp⟩
  exact ⟨lt, its, ks, nn, o, _, m, rfl, hT, hpos, htk, F, N', .head _, ho, fun i h1 tk1 I oi o1 u k t _ z0 z1 z2 z3 z4 z5 z6 => turn _ i h1 tk1 I oi o1 u k t P' P'.mD P'.mdr z0 z1 z2 z3 z4 z5 z6, fun h1 tk1 o1 u z1 z2 z3 => done _ h1 tk1 o1 u z1 z2 z3⟩
theorem law_next {lt I : Addr} {rest : List (Addr × Obj)} {m₀ mm : Str → Option Value} {i : Nat} {h1 : Heap} {tk1 : Nat} {oi o : Obj} {u : Option Value} (htk : @LT.lt Nat _ 0 tk1) (F : Fr g L h1 mm) (e : ∀ y, mm y = if y = Str.ofString "k" then u else m₀ y) {all : List (Addr × Obj)} (N : News g L h1 all) (hs : ∀ p ∈ (I, oi) :: (82, o) :: rest, p ∈ all) (it : ItOf oi lt i) (ho : Tab o) :
    LNext g L lt rest m₀ I i s { s with heap := h1, toks := tk1 } :=
  ⟨h1, tk1, oi, o, u, rfl, htk, (funext e : mm = _) ▸ F, fun p hp => N p (hs p hp), it, ho⟩
end
theorem pick_upto (ys : List Value) {k : Int} (h : 0 ≤ k) : slicePick ys.toArray none (some k) none = (ys.take k.toNat).toArray := by
  have e : sliceBounds none (some k) none ys.toArray.size = (((0 : Nat) : Int), ((min k.toNat ys.toArray.size : Nat) : Int), 1) := by
    simp only [sliceBounds, Option.getD_none, show (1 : Int) > 0 by decide, if_true, if_neg (show ¬ (k < 0) by omega)]
    congr 1
    congr 1
    omega
  rw [kmk_pick_nat _ e]
  show ((ys.drop 0).take (min k.toNat ys.toArray.size - 0)).toArray = _
  rw [List.drop_zero, Nat.sub_zero, List.size_toArray, kmk_take_min]
theorem talk_in {g : Heap} {ys : List Value} {ds : List Int} {own : List (Addr × Obj)} {k : Int} (tp : Tups ys ds own) (h : ∀ p ∈ own, g.get? p.1 = some p.2) (h0 : 0 ≤ k) : TalkIn g (slicePick ys.toArray none (some k) none) (talkX (ds.take k.toNat)) := by
  rw [pick_upto ys h0]
  refine ⟨?_, fun i v e => ?_⟩
  · rw [List.size_toArray, talkX, List.length_map, List.length_take, List.length_take, tp.len]
  · have e' : (ys.take k.toNat)[i]? = some v := by simpa using e
    rw [List.getElem?_take] at e'
    split at e'
    · rename_i hlt
      obtain ⟨q, n, t, u, z1, z2, z3⟩ := tp.at i v e'
      refine ⟨q, replyV n, ((n.fdiv 3).fmod 4).toNat, t, u, ?_, z2, ⟨tupO n t u, h _ z3, rfl, _, rfl⟩, goodX n⟩
      rw [talkX, List.getElem?_map, List.getElem?_take, if_pos hlt, z1]
      rfl
    · cases e'
section
variable {w : World} {p : Program} {loose : List Str} {mean : ExcName → Option Value} {mg mb : Str → Option Value} {dp un : Nat} {gd : Option (List Code)} {cn : Str} {cs : Scope} {a : Addr} {ccd : Value} {cl : List (Str × Addr)} {outer : List Env} {A₀ : Around} {base h₀ : Heap} {L : Addr} {m : Str → Option Value} {news : List (Addr × Obj)} {s : Shared}
    {Q E : Value → Shared → Prop}
theorem red_K {I sl fl D dr : Addr} {oi o : Obj} {ys ws : List Value} {vs : Array Value} {ds : List Int} {own rest : List (Addr × Obj)} {k : Int} {nn n2 : Nat} (B : Below A₀ base [] h₀) (F : Fr h₀ L s.heap m) (X : (hd.heap_39 w.params).In h₀) (T : Top p loose mean mg mb h₀) (hk : cs.kind = .function)
    (XB : (hd.heap_39 w.params).In base) (TB : Top p loose mean mg mb base) (N : News h₀ L s.heap ((fl, listOf vs nn) :: (sl, listOf (slicePick ys.toArray none (some k) none) n2) :: (I, oi) :: (82, o) :: rest))
    (l1 : @LT.lt Nat _ sl fl ∧ @LT.lt Nat _ I fl ∧ @LT.lt Nat _ 82 fl ∧ AllLt fl rest) (l2 : @LT.lt Nat _ I sl ∧ @LT.lt Nat _ 82 sl ∧ AllLt sl rest) (l3 : @LT.lt Nat _ 82 I ∧ AllLt I rest) (P : Pack ys ds own ws D dr rest)
    (hv : StrsAre vs.toList []) (h0 : 0 ≤ k) (hd' : dp + 8 < recursionLimit) (hu : un + 800 < cLine) (ho : Tab o) (hto : @LT.lt Nat _ 0 s.toks)
    (hret : ∀ (l : Addr) (vs' : Array Value) (nn' : Nat) (o' : Obj) (h' : Heap) (tk' : Nat), @LT.lt Nat _ 0 tk' → Tab o' → StrsAre vs'.toList (duesX (ds.take k.toNat) []) → Fr h₀ L h' m → News h₀ L h' ((l, listOf vs' nn') :: (I, oi) :: (82, o') :: rest) → Q (.ref l) { s with heap := h', toks := tk' }) :
    wpAny (model PG w) (ktrTop dp un gd cn cs L a ccd [] []) (call (.ref 96) [.ref 127, .ref sl, .ref fl]) Q E s := by
  have hds := P.len
  have nsl := N (sl, _) (.tail _ (.head _))
  have N1 : News h₀ L s.heap [(fl, listOf vs nn), (82, o)] := fun q hq => by
    rcases List.mem_cons.mp hq with rfl | hq
    · exact N _ (.head _)
    · rw [List.mem_singleton.mp hq]
      exact N _ (.tail _ (.tail _ (.tail _ (.head _))))
  have inR : ∀ p ∈ rest, s.heap.get? p.1 = some p.2 ∧ p.1 ≠ L ∧ h₀.get? p.1 = none := fun p hp => N p (.tail _ (.tail _ (.tail _ (.tail _ hp))))
  have hlen : ([] : List Str).length + (talkX (ds.take k.toNat)).length ≤ 1000 := by
    rw [talkX, List.length_map, List.length_take, List.length_nil]
    omega
  refine red_con (ns := []) (ks := talkX (ds.take k.toNat)) B F X T hk XB TB N1 ⟨_, nsl.1, rfl, _, rfl⟩ (talk_in P.tp (fun p hp => (inR p (P.ow p hp)).1) h0) hd' hu ho (Nat.ne_of_gt l1.2.2.1) hv hlen hto ⟨Nat.ne_of_lt l1.1, Nat.ne_of_gt l2.2.1⟩ ?_
  intro l vs' nn' o' h' tk' z1 z2 z3 _ F' N' st
  rw [run_eq] at z3
  refine hret l vs' nn' o' h' tk' (Nat.lt_of_lt_of_le hto z1) z2 z3 F' fun p hp => ?_
  rcases List.mem_cons.mp hp with rfl | hp
  · exact N' _ (.head _)
  · rcases List.mem_cons.mp hp with rfl | hp
    · have q := N (I, oi) (.tail _ (.tail _ (.head _)))
      exact ⟨st _ _ q.1 (Nat.ne_of_lt l1.2.1) (Nat.ne_of_gt l3.1) q.2.1, q.2⟩
    · rcases List.mem_cons.mp hp with rfl | hp
      · exact N' _ (.tail _ (.head _))
      · have q := inR p hp
        exact ⟨st _ _ q.1 (Nat.ne_of_lt (allLt_mem l1.2.2.2 p hp)) (P.ne p hp) q.2.1, q.2⟩
theorem due_K {sl D dr : Addr} {ys ws : List Value} {own rest : List (Addr × Obj)} {ds : List Int} {k : Int} {nn : Nat} (B : Below A₀ base outer h₀) (F : Fr h₀ L s.heap m) (X : (hd.heap_39 w.params).In h₀) (N : News h₀ L s.heap news) (T : Top p loose mean mg mb h₀) (hk : cs.kind = .function) (hm : (sl, listOf (slicePick ws.toArray none (some k) none) nn) ∈ news) (P : Pack ys ds own ws D dr rest) (h0 : 0 ≤ k)
    (hd' : dp + 12 < recursionLimit) (hu : un + 1200 < cLine)
    (hret : ∀ (l : Addr) (vs : Array Value) (nn : Nat) (h' : Heap) (tk' : Nat), @LE.le Nat _ s.toks tk' → StrsAre vs.toList (duesX (ds.take k.toNat) []) → Fr h₀ L h' m → News h₀ L h' ((l, listOf vs nn) :: news) → Q (.ref l) { s with heap := h', toks := tk' }) :
    wpAny (model PG w) (ktrTop dp un gd cn cs L a ccd cl outer) (call (.ref 134) [.ref sl]) Q E s := by
  have hi := P.isI
  have hds := P.len
  have N0 : News h₀ L s.heap [] := fun q hq => nomatch hq
  refine wpAny_with_toks (Nat.le_refl _) (due_con B F X T hk N0 ⟨_, (N _ hm).1, rfl, _, rfl⟩ (kmk_upto hi h0) hd' hu (by rw [List.length_take]; omega) ?_)
  intro l vs n' h' tk' z1 z2 z3 z4 hto
  refine hret l vs n' h' tk' hto z1 (fr_stays z2 F) fun p hp => ?_
  rcases List.mem_cons.mp hp with rfl | hp
  · exact ⟨z3, fresh_new F z4⟩
  · exact news_stays z2 N p hp
theorem ne_K {A : Around} {a b : Addr} {xs ys : Array Value} {ks : List Int} {n1 n2 : Nat} (N : News h₀ L s.heap news) (ha : (a, listOf xs n1) ∈ news) (hb : (b, listOf ys n2) ∈ news) (hi : StrsAre xs.toList (duesX ks [])) (hj : StrsAre ys.toList (duesX ks []))
    (hu : A.units + 64 < cLine) (h : Q (.bool false) s) : wpAny (model PG w) A (compareOp .NotEq (.ref a) (.ref b)) Q E s :=
  ne_strs ⟨_, (N _ ha).1, rfl, _, rfl⟩ ⟨_, (N _ hb).1, rfl, _, rfl⟩ hi hj (duesX_words ks [] fun _ h => nomatch h) hu h
end
section
variable {prog : Program} {w : World} {A : Around} {E : Value → Shared → Prop} {s : Shared} {Q : Value → Shared → Prop} {h₀ : Heap} {L : Addr} {news : List (Addr × Obj)}
theorem len_P {ys ws : List Value} {ds : List Int} {own rest : List (Addr × Obj)} {D dr : Addr} (N : News h₀ L s.heap news) (hm : (dr, listOf ws.toArray 0) ∈ news) (P : Pack ys ds own ws D dr rest)
    (h : Q (.int (ds.length : Nat) (s.toks + 1)) { s with toks := s.toks + 1 + 1 }) : wpAny (model prog w) A (call (.builtin "len") [.ref dr]) Q E s := by
  have hs : ws.toArray.size = ds.length := by rw [List.size_toArray, P.isI.length]
  have hl : s.heap.IsList dr ws.toArray := ⟨_, (N _ hm).1, rfl, _, rfl⟩
  have hp := P.len
  refine Calls.call_len_list hl (by omega) ?_
  rw [hs]
  exact h
end
theorem two_pos {n : Nat} : ∀ k ∈ [((n : Nat) : Int).fdiv 2, ((n : Nat) : Int)], 0 ≤ k := by
  intro k hk
  rcases List.mem_cons.mp hk with rfl | hk
  · exact Int.fdiv_nonneg (Int.natCast_nonneg _) (by decide)
  · rw [List.mem_singleton.mp hk]; exact Int.natCast_nonneg _
def Hold (P : Prop) : Prop := P
theorem hold_out {P : Prop} (h : Hold P) : P := h
theorem grown_tab {h₀ h : Heap} {L : Addr} {o : Obj} {rest : List (Addr × Obj)} (N : News h₀ L h ((82, o) :: rest)) (ho : Tab o) : GrownAll [(86, 82)] h := by
  have e := (N _ (.head _)).1
  rcases ho with rfl | ⟨c, rfl⟩
  · exact ⟨⟨_, e⟩, trivial⟩
  · exact ⟨⟨_, e⟩, trivial⟩
theorem Pack.sizeY {ys ws : List Value} {ds : List Int} {own rest : List (Addr × Obj)} {D dr : Addr} (P : Pack ys ds own ws D dr rest) : ys.toArray.size ≤ sizeLine := by
  have h1 := P.tp.len
  have h2 := P.len
  rw [List.size_toArray, sizeLine_eq]
  omega
theorem Pack.sizeW {ys ws : List Value} {ds : List Int} {own rest : List (Addr × Obj)} {D dr : Addr} (P : Pack ys ds own ws D dr rest) : ws.toArray.size ≤ sizeLine := by
  have h1 := P.isI.length
  have h2 := P.len
  rw [List.size_toArray, sizeLine_eq]
  omega
theorem hold_in {P : Prop} (h : P) : Hold P := h
theorem mem_three {α : Type} {a b c : α} {l : List α} : ∀ p ∈ l, p ∈ a :: b :: c :: l := fun _ hp => .tail _ (.tail _ (.tail _ hp))
theorem k_map {m : Str → Option Value} {v : Value} {u : Option Value} : ∀ y, (if y = Str.ofString "k" then some v else if y = Str.ofString "k" then u else m y) = if y = Str.ofString "k" then some v else m y := fun y => by
  by_cases e1 : y = Str.ofString "k"
  · simp only [if_pos e1]
  · simp only [if_neg e1]

section
local macro_rules | `(tactic| k_mem) => `(tactic| first | with_reducible assumption | exact List.mem_cons_of_mem _ (by with_reducible assumption) | exact List.mem_cons_of_mem _ (List.mem_cons_of_mem _ (by with_reducible assumption)))
theorem law_holds : PySem.Challenge.rw_in0037_01.Holds := hd (fun said hw => by
  refine holds_open (q := viewQ) (loose := looseL) (Xt := XT) (XP := XL viewQ []) (Yf := HK.obs) (Ya := HK.val) (YP := (kmHook hd.heap_39 addrs addrs_are [82]).says) (N := 2300) (split_rows "comprehension-iter-twice" "special-get-raises" way1 way2 way3 way4) HK.of HK.keeps (fun s e => xl_of s (Bool.and_eq_true_iff.mp e).1) XL.keeps (by rfl) (by rfl) (by rfl) (fun s e => recFacts_of (Bool.and_eq_true_iff.mp e).2) (by rfl) said (by decide +kernel) ⟨rfl, rfl, rfl, rfl, rfl, by decide +kernel⟩ hw ?hc
  clear said hw
  k_with_none
  k_with "execs cons" => (k_here; (with_reducible refine wpAny_execs_cons ?_); (try dsimp only); (try k_fold))
  k_with "eval Name" => ((k_here; (fail_if_success (with_reducible show wpAny _ _ (eval (Expr.Name _ _) (compEnvC _ _ _ _)) _ _ _))); first | k_dflt (refine' nameX_L ?w9F ?w9v ?_ ?w9a ?w9b; (case w9F => k_asm); (case w9a => rfl); (case w9b => rfl); (case w9v => rfl); k_whole) | k_dflt (refine' ld ?w9F ?w9v ?_; (case w9F => k_asm); (case w9v => exact rfl); k_whole))
  k_with "execs cons" => (k_here; (with_reducible refine wpAny_execs_cons ?_); (try dsimp only))
  k_with "exec If" => (k_here; refine wpAny_If ?_)
  k_with "call ref" => (k_here; (with_reducible show wpAny _ _ (call (Value.ref _) _) _ _ _); k_dflt (refine' reply_con ?w9k1 ?w9k2 ?w9k3 ?w9k4 ?w9k5 ?w9kK ?w9kd ?w9ku ?_; (case w9k1 => k_asm); (case w9k2 => k_asm); (case w9k3 => k_asm); (case w9k4 => k_asm); (case w9k5 => k_asm); (case w9kK => first | exact rfl | assumption); (case w9kd => ktr_room); (case w9ku => ktr_units)); intro t9 h9 tk9 hto9 F9 N9; (try dsimp only); (try dsimp only at hto9); (try k_fold))
  k_with "call ref" => (k_here; (with_reducible show wpAny _ _ (call (Value.ref 96) _) _ _ _); k_dflt (refine' red_K ?w9k1 ?w9k2 ?w9k3 ?w9k4 ?w9kK ?w9kXB ?w9kTB ?w9k5 ?w9z1 ?w9z2 ?w9z3 ?w9zP ?w9zv ?w9z0 ?w9kd ?w9ku ?w9zo ?w9zt ?_; (case w9k1 => k_asm); (case w9k2 => k_asm); (case w9k3 => k_asm); (case w9k4 => k_asm); (case w9k5 => k_asm); (case w9kK => first | exact rfl | assumption); (case w9kXB => assumption); (case w9kTB => assumption); (case w9z1 => assumption); (case w9z2 => assumption); (case w9z3 => assumption); (case w9zP => assumption); (case w9zv => exact .nil); (case w9z0 => assumption); (case w9kd => ktr_room); (case w9ku => ktr_units); (case w9zo => assumption); (case w9zt => (try dsimp only); omega)); intro l9 vs9 nn9 o9 h9 tk9 htk9 ho9 hs9 F9 N9; (try dsimp only); (try k_fold))
  k_with "call ref" => (k_here; (with_reducible show wpAny _ _ (call (Value.ref 134) _) _ _ _); k_dflt (refine' due_K ?w9k1 ?w9k2 ?w9k3 ?w9k5 ?w9k4 ?w9kK ?w9zm ?w9zP ?w9z0 ?w9kd ?w9ku ?_; (case w9k1 => k_asm); (case w9k2 => k_asm); (case w9k3 => k_asm); (case w9k4 => k_asm); (case w9k5 => k_asm); (case w9kK => first | exact rfl | assumption); (case w9zm => exact List.mem_cons_self); (case w9zP => assumption); (case w9z0 => assumption); (case w9kd => ktr_room); (case w9ku => ktr_units)); intro l9 vs9 nn9 h9 tk9 hto9 hs9 F9 N9; (try dsimp only); (try dsimp only at hto9); (try k_fold))
  k_with "subscriptTail" => (k_here; k_dflt (refine' pat_K ?w9zN ?w9zm ?w9z0 ?w9z4 ?_; (case w9zN => k_asm); (case w9zm => k_mem); (case w9z0 => exact (fm4 _).1); (case w9z4 => exact (fm4 _).2)); intro t9)
  k_with "CompSrc" => (k_here; (k_dflt (refine LCg.CompSrc.ledger (by rfl) (by k_asm) (by k_asm) (by k_mem) (by kcf_size) ?_; intro g'; (refine' tup_open (by first | assumption | l_ints) (fun _ _ _ => src_more (Or.inr ⟨_, by k_mem, rfl, _, rfl⟩)) (fun k' t' C' oC' m' all' h' tk' E' hk' hm' hC' hx' F' N' => ?_) (fun ys own tp => fin_open tp (Or.inl rfl) (by assumption) (by simp only [List.length_append, List.length_cons, List.length_nil, List.length_take]; omega) (fun D' h' tk' rest' F' N' mD mdr P' => ?_))))))
  k_with "newList" => (k_here; (with_reducible refine' newList_K ?w9k1 ?w9k2 ?_ ?w9z; (case w9z => exact Nat.le_of_ble_eq_true rfl); (case w9k1 => k_asm); (case w9k2 => k_asm); k_whole); intro l' h' F' N' l1; (try k_lt l1); (try k_sweep))
  k_with "call builtin:len" => (k_here; k_dflt (refine' len_P ?w9zN ?w9zm ?w9zP ?_; (case w9zN => k_asm); (case w9zm => k_mem); (case w9zP => assumption)))
  k_with "exec For Name List cons nil" => (k_here; k_dflt (refine' law_for ?w9F ?w9hh ?_; (case w9F => k_asm); (case w9hh => exact rfl)))
  k_with "subscriptTail Name Slice ref ref" => (k_here; (rename Pack _ _ _ _ _ _ _ => P9); k_dflt (refine' kmk_slice ?w9F ?w9N ?w9l ?w9p ?w9q ?_ ?w9s ?w9t ?w9z; (case w9F => k_asm); (case w9N => k_asm); (case w9l => exact News.isList (by k_asm) (by k_mem)); (case w9p => kmk_part); (case w9q => kmk_part); (case w9s => with_unfolding_all rfl); (case w9t => kmk_pure); (case w9z => first | exact P9.sizeY | exact P9.sizeW)); intro D' h' F' N' l1; (try k_lt l1); (try k_sweep))
  k_with "compareOp NotEq ref ref" => (k_here; k_dflt (refine' ne_K ?w9N ?w9a ?w9b ?w9i ?w9j ?w9u ?_; (case w9N => k_asm); (case w9a => k_mem); (case w9b => exact List.mem_cons_self); (case w9i => assumption); (case w9j => assumption); (case w9u => ke_room)))
  k_with "exec Return some" => (k_here; refine hold_out ?_)
  w_strict (k_go0; (all_goals try k_fold); k_steps; (try exact tup_end (by k_asm) (by k_asm) (by assumption)); refine' law_src ?hT ?hpos ?htk ?F ?N ?ho ?P ?turn ?done; (case htk => ((try dsimp only); omega)); (case F => k_asm); (case N => k_asm); (case ho => exact Or.inl rfl); (case hT => exact .cons _ _ (.cons _ _ .nil)); (case hpos => exact two_pos); (case P => assumption); (case' turn => (intro rest9 i9 h9 tk9 I9 oi9 o9 u9 k9 t9 P9 mD9 mdr9 h09 htk9 F9 N9 it9 ho9 l9)); (case' done => (intro rest9 h9 tk9 o9 u9 F9 N9 ho9)); k_steps; all_goals first | (exact law_next (by omega) (by k_asm) k_map (by k_asm) mem_three (by assumption) (by assumption)) | ((try refine hold_in ?_); refine wpAny_Return_some ?_; walk1; dsimp only; refine And.intro (goodW_bool (by k_asm) (by assumption) (raisesW_false ?zr) ?zp) (grown_tab (by k_asm) (by assumption)); (case zr => wrow_none_raised); (case zp => wrow_post))))
end

end Mine
theorem PySem.Challenge.cw_in0037_01_holds : PySem.Challenge.rw_in0037_01.Holds :=
  Mine.law_holds
