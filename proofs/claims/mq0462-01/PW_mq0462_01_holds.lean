import PyProof.Rows.All
import Wide.All
import OpenK.AllK
import Wide.FinOn
import PySem.Challenge.RW_mq0462_01
set_option Elab.async false
set_option maxRecDepth 100000
set_option maxHeartbeats 60000000
set_option linter.all false

section
open PySem PySem.W PyProof.Rows
namespace Mine
open_top hd for PySem.Challenge.rw_mq0462_01
end Mine
end

section
open PySem PySem.W PyProof.Rows
namespace Mine
theorem offTop : True := by
  w_top off
  trivial
theorem warm : PySem.Challenge.rw_mq0462_01 = PySem.Challenge.rw_mq0462_01 ∧ hd.heap_39 = hd.heap_39 := by
  k_fill
  exact ⟨rfl, rfl⟩

inductive PairsAre : List Value → List (Str × Str) → Prop
  | nil : PairsAre [] []
  | cons {vs : List Value} {ps : List (Str × Str)} (a b : Str) (t u : Tok) : PairsAre vs ps → PairsAre (.str a t :: .str b u :: vs) ((a, b) :: ps)

def replOne (x a b : Str) : Str := Txt.join b (Txt.split x a)
def replAll : Str → List (Str × Str) → Str
  | x, [] => x
  | x, (a, b) :: r => replAll (replOne x a b) r

abbrev Tell (p : Program) (w : World) (K : Frag) (loose : List Str) (mean : ExcName → Option Value) (mg mb : Str → Option Value) (f : Addr) (news : List (Addr × Obj)) (vs : List Value) (R : Value → Prop) : Prop :=
  ∀ (dp un : Nat) (gd : Option (List Code)) (cn : Str) (cs : Scope) (a : Addr) (ccd : Value) (cl : List (Str × Addr)) (outer : List Env) (A₀ : Around) (base h₀ : Heap) (L : Addr) (m : Str → Option Value) (s : Shared) (Q E : Value → Shared → Prop),
    Below A₀ base outer h₀ → Fr h₀ L s.heap m → K.In h₀ → News h₀ L s.heap news → Top hd.view_39 loose mean mg mb h₀ → cs.kind = .function →
    dp + 2 < recursionLimit → un + 16 < cLine →
    (∀ v h' tk', R v → Fr h₀ L h' m → News h₀ L h' news → Q v { s with heap := h', toks := tk' }) →
    wpAny (model p w) (ktrTop dp un gd cn cs L a ccd cl outer) (call (.ref f) vs) Q E s

theorem bindRest {K : Frag} {S : Setting} {q n n2 : Str} {pos pos2 : Pos} {body : List Stmt} {scope : Scope} {dcl pm cd : Value} {v : Value} {vs : List Value} (hz : vs.length ≤ sizeLine) :
    peek1 K S (bindArgs (fnOf q q { posonlyargs := [], args := [{ arg := n, annotation := none, pos := pos }], vararg := some { arg := n2, annotation := none, pos := pos2 }, kwonlyargs := [], kw_defaults := [], kwarg := none, defaults := [] } body scope .none .none dcl pm none cd .none) ⟨v :: vs, []⟩)
      = some (({ cls := .type "tuple", data := .seq vs.toArray } : Obj), fun D => some [(n, v), (n2, .ref D)]) := by
  have e : bindArgs (fnOf q q { posonlyargs := [], args := [{ arg := n, annotation := none, pos := pos }], vararg := some { arg := n2, annotation := none, pos := pos2 }, kwonlyargs := [], kw_defaults := [], kwarg := none, defaults := [] } body scope .none .none dcl pm none cd .none) ⟨v :: vs, []⟩
    = (do let r ← newTuple vs; pure [(n, v), (n2, r)]) := by
    simp [bindArgs, seqItems?, List.lookup]
    rfl
  rw [e]
  unfold newTuple newObj
  have hz' : ¬ (vs.toArray.size > sizeLine) := by simpa using hz
  simp only [hz', if_false]
  rfl

def mRep (x : Str) (t : Tok) (D : Addr) : Str → Option Value := fun y => if y = "pairs" then some (.ref D) else if y = "text" then some (.str x t) else none
theorem mRep_start (x : Str) (t : Tok) (D : Addr) : (fun y => List.lookup y [(Str.ofString "text", Value.str x t), (Str.ofString "pairs", Value.ref D)].reverse) = mRep x t D := by
  funext y
  simp only [List.reverse_cons, List.reverse_nil, List.nil_append, List.cons_append, List.lookup, mRep]
  by_cases h1 : y = Str.ofString "pairs"
  · subst h1; rfl
  · by_cases h2 : y = Str.ofString "text"
    · subst h2; rfl
    · have e1 : (y == Str.ofString "pairs") = false := by simpa using h1
      have e2 : (y == Str.ofString "text") = false := by simpa using h2
      rw [e1, e2]; simp [h1, h2]


inductive Runs : Str → List (Str × Str) → Str → Prop
  | nil (x : Str) : Runs x [] x
  | cons {x a b y : Str} {r : List (Str × Str)} : (a.length == 0) = false → x.length ≤ 2048 → b.length ≤ 64 → Runs (replOne x a b) r y → Runs x ((a, b) :: r) y


section
variable {prog : Program} {w : World} {A : Around} {E : Value → Shared → Prop} {s : Shared} {D L : Addr} {h₀ : Heap} {m : Str → Option Value} {news : List (Addr × Obj)} {e : Nat}
theorem isTupN {vs : List Value} (N : News h₀ L s.heap news) (hm : (D, ({ cls := .type "tuple", data := .seq vs.toArray e } : Obj)) ∈ news) : IsTup s.heap D vs.toArray := ⟨_, News.get N hm, rfl, e, rfl⟩
theorem tupTrue {v : Value} {vs : List Value} {Q : Bool → Shared → Prop} (N : News h₀ L s.heap news) (hm : (D, ({ cls := .type "tuple", data := .seq (v :: vs).toArray e } : Obj)) ∈ news) (hz : (v :: vs).length ≤ 1000)
    (h : Q true { s with toks := s.toks + 1 + 1 }) : wpAny (model prog w) A (truthy (.ref D)) Q E s :=
  ktl_truthy (News.get N hm) (by simp only [List.size_toArray]; omega) h
theorem tupFalse {Q : Bool → Shared → Prop} (N : News h₀ L s.heap news) (hm : (D, ({ cls := .type "tuple", data := .seq ([] : List Value).toArray e } : Obj)) ∈ news)
    (h : Q false { s with toks := s.toks + 1 + 1 }) : wpAny (model prog w) A (truthy (.ref D)) Q E s :=
  ktl_truthy (News.get N hm) (by decide) h
theorem tupItem0 {value slice : Expr} {a : Value} {vs : List Value} {u : Tok} {Q : Value → Shared → Prop} (N : News h₀ L s.heap news) (hm : (D, ({ cls := .type "tuple", data := .seq (a :: vs).toArray e } : Obj)) ∈ news) (h : Q a s)
    (hs : subscripted slice false (.ref D) (.int 0 u) = operate [.ref D, .int 0 u] (getItem (.ref D) (.int 0 u)) := by with_unfolding_all rfl) :
    wpAny (model prog w) A (subscriptTail value slice (.ref D) (.int 0 u)) Q E s :=
  item_tupleT (isTupN N hm) (by decide) (by decide) (j := 0) (by simp [seqIndex?]) rfl h hs
theorem tupItem1 {value slice : Expr} {a b : Value} {vs : List Value} {u : Tok} {Q : Value → Shared → Prop} (N : News h₀ L s.heap news) (hm : (D, ({ cls := .type "tuple", data := .seq (a :: b :: vs).toArray e } : Obj)) ∈ news) (h : Q b s)
    (hs : subscripted slice false (.ref D) (.int 1 u) = operate [.ref D, .int 1 u] (getItem (.ref D) (.int 1 u)) := by with_unfolding_all rfl) :
    wpAny (model prog w) A (subscriptTail value slice (.ref D) (.int 1 u)) Q E s :=
  item_tupleT (isTupN N hm) (by decide) (by decide) (j := 1) (by simp [seqIndex?]; omega) rfl h hs
end
local macro_rules | `(tactic| walk_at "truthy ref") => `(tactic| (k_here; first | refine tupTrue (by k_asm) (by k_mem) (by k_asm) ?_ | refine tupFalse (by k_asm) (by k_mem) ?_))
local macro_rules | `(tactic| walk_at "subscriptTail Name Constant ref int") => `(tactic| (k_here; first
  | ((with_reducible show wpAny _ _ (subscriptTail _ _ (Value.ref _) (Value.int 0 _)) _ _ _); refine tupItem0 (by k_asm) (by k_mem) ?_)
  | ((with_reducible show wpAny _ _ (subscriptTail _ _ (Value.ref _) (Value.int 1 _)) _ _ _); refine tupItem1 (by k_asm) (by k_mem) ?_)))


theorem split_count (x y : Str) : (Txt.split x y).length ≤ x.length + 2 := by
  unfold Txt.split
  split
  · simp
  · split
    · simp
    · have e1 := StrLaws.occ_length_le x y 0 x.length (x.length + 1)
      rw [length_partsBetween]; omega
theorem join_fits {x a b : Str} {l : List (Str × Tok)} (e : l.map (·.1) = Txt.split x a) (hl : ∀ p ∈ l.map (·.1), p.length ≤ x.length) (hx : x.length ≤ 2048) (hb : b.length ≤ 64) :
    ((l.map (·.1)).map (·.length)).sum + (l.map (·.1)).length * b.length ≤ 16777216 := by
  have h1 := StrLaws.sumLen_le _ hl
  have h2 := split_count x a
  rw [← e] at h2
  have h3 : (l.map (·.1)).length * x.length ≤ 2050 * 2048 := Nat.mul_le_mul (by omega) hx
  have h4 : (l.map (·.1)).length * b.length ≤ 2050 * 64 := Nat.mul_le_mul (by omega) hb
  omega
section
variable {prog : Program} {w : World} {A : Around} {E : Value → Shared → Prop} {s : Shared} {D L : Addr} {h₀ : Heap} {m : Str → Option Value} {news : List (Addr × Obj)} {n : Nat}
theorem joinSplit {x a b : Str} {u : Tok} {l : List (Str × Tok)} {Q : Value → Shared → Prop} (e : l.map (·.1) = Txt.split x a) (hi : StrsAre (strValues l) (l.map (·.1))) (hl : ∀ p ∈ l.map (·.1), p.length ≤ x.length) (hL : s.heap.IsList D (strValues l).toArray) (hx : x.length ≤ 2048) (hb : b.length ≤ 64)
    (h : ∀ t' k, Q (.str (replOne x a b) t') { s with toks := k }) : wpAny (model prog w) A (call (.builtin "str.join") [.str b u, .ref D]) Q E s := by
  refine join_list hL hi (join_fits e hl hx hb) ?_
  intro t' k
  rw [e]
  exact h t' k
end
local macro_rules | `(tactic| walk_at "call builtin:str.join") => `(tactic| (k_here; (with_reducible show wpAny _ _ (call (Value.builtin "str.join") [Value.str _ _, Value.ref _]) _ _ _); refine joinSplit (by assumption) (by assumption) (by assumption) (by assumption) (by assumption) (by assumption) ?_; intro _ _))


section
variable {prog : Program} {w : World} {A : Around} {E : Value → Shared → Prop} {s : Shared} {h₀ : Heap} {L : Addr} {m : Str → Option Value} {news : List (Addr × Obj)}
theorem tupDrop2 {value slice : Expr} {t : Addr} {v1 v2 : Value} {vs : List Value} {e : Nat} {u : Tok} {Q : Value → Shared → Prop}
    (F : Fr h₀ L s.heap m) (N : News h₀ L s.heap news) (hm : (t, ({ cls := .type "tuple", data := .seq (v1 :: v2 :: vs).toArray e } : Obj)) ∈ news) (hz : (v1 :: v2 :: vs).length ≤ 1000)
    (h : ∀ D h', Fr h₀ L h' m → News h₀ L h' ((D, { cls := .type "tuple", data := .seq vs.toArray }) :: news) → Q (.ref D) { s with heap := h' })
    (hs : subscripted slice false (.ref t) (.ref s.heap.objs.size) = operate [.ref s.heap.objs.size, .ref t] (getItem (.ref t) (.ref s.heap.objs.size)) := by with_unfolding_all rfl)
    (hg : ∀ r, letTemporaryGo value (.ref t) r = pure () := by intro _; with_unfolding_all rfl) :
    wpAny (model prog w) A (subscriptTail value slice (.ref t) (.ref s.heap.objs.size)) Q E { s with heap := s.heap.push { cls := .type "slice", data := .fields #[.int 2 u, .none, .none] } } :=
  slice_tuple_from (a := 2) F N (isTupN N hm) (by decide) (by simp) (fun h' F' N' => h _ h' F' N') hs hg (by simp only [List.size_toArray]; exact Nat.le_trans hz (by decide))
end
local macro_rules | `(tactic| walk_at "subscriptTail Name Slice ref ref") => `(tactic| (k_here; (with_reducible show wpAny _ _ (subscriptTail _ _ (Value.ref _) (Value.ref _)) _ _ _); (with_unfolding_all refine tupDrop2 (by k_asm) (by k_asm) (by k_mem) (by k_asm) ?_ ?_ ?_); (rotate_left; (with_unfolding_all rfl); (intro _; with_unfolding_all rfl)); intro D' h' F' N'))

theorem mRep_set (x y : Str) (t u : Tok) (D D' : Addr) : (fun z => if z = Str.ofString "pairs" then some (Value.ref D') else if z = Str.ofString "text" then some (Value.str y u) else mRep x t D z) = mRep y u D' := by
  funext z
  simp only [mRep]
  split
  · rfl
  · split <;> rfl
theorem tReplace {w : World} {loose : List Str} {mean : ExcName → Option Value} {mg mb : Str → Option Value} {news : List (Addr × Obj)} {vs : List Value} {ps : List (Str × Str)} (hp : PairsAre vs ps) (hz : vs.length ≤ 1000) (x y : Str) (t : Tok) (hr : Runs x ps y) :
    Tell PySem.Challenge.rw_mq0462_01.row.prog w (hd.heap_39 w.params) loose mean mg mb 21 news (.str x t :: vs) (fun v => ∃ t', v = .str y t') := by
  intro dp un gd cn cs a ccd cl outer A₀ base h₀ L m s Q E B F X N T hk hdp hun hret
  refine wpAny_call ?_
  k_dflt (refine' kp_rest (vs := vs) ?k1 ?k2 ?k3 ?k4 ?k5 ?kA ?kF ?kK ?k6 ?k7 ?k8 ?kV ?kP ?kG ?kB ?_ ?c2 ?c3 ?c4 ?c5; (case kA => exact rfl); (case kF => exact rfl); (case kK => exact hk); (case k1 => k_asm); (case k2 => k_asm); (case k3 => k_asm); (case k4 => k_asm); (case k5 => k_asm); (case k6 => k_is); (case k7 => k_is); (case k8 => ktr_room); (case kV => exact rfl); (case kP => exact bindRest (Nat.le_trans hz (by decide))); (case kG => exact fun _ => rfl); (case kB => exact fun _ => locs rfl); (case c5 => decide); (case c2 => exact rfl); (case c3 => exact rfl); (case c4 => exact rfl); k_whole; intro D' g' L' h' l1 FG' F' N' B' X' T'; (try dsimp only); (try k_lift B'); (try k_fold))
  rw [mRep_start] at F'
  walk1
  walk1
  refine While_inv2 (fun n m nx => ∃ vs₁ ps₁ x₁ t₁ D e, n = List.length ps₁ ∧ PairsAre vs₁ ps₁ ∧ vs₁.length ≤ 1000 ∧ Runs x₁ ps₁ y ∧ m = mRep x₁ t₁ D ∧ nx = (D, { cls := .type "tuple", data := .seq vs₁.toArray e }) :: news) F' N' ⟨vs, ps, x, t, D', 0, rfl, hp, hz, hr, rfl, rfl⟩ ?_ (by with_unfolding_all passes_own)
  rintro n m₁ nx h tk F₁ N₁ ⟨vs₁, ps₁, x₁, t₁, D, e, hn, hp₁, hz₁, hr₁, rfl, rfl⟩
  have hf : ¬ (vs₁.toArray.size : Int) ≥ 2 ^ 63 := by simp only [List.size_toArray]; omega
  cases hp₁ with
  | nil =>
    cases hr₁
    k_steps
    all_goals (rename Fr h₀ L _ _ => kF; rename News h₀ L _ _ => kN; exact hret _ _ _ ⟨_, rfl⟩ kF (cb_drop kN fun p hp => .tail _ hp))
  | cons a b t u hq =>
    cases hr₁ with
    | cons ha hx hb hr₂ =>
    k_steps
    rename Fr g' L' _ _ => kF
    rename News g' L' _ _ => kN
    rw [mRep_set] at kF
    refine ⟨_, _, _, _, _, rfl, kF, cb_drop kN (fun p hp => ?_), ?_, _, _, _, _, _, 0, rfl, hq, ?_, hr₂, rfl, rfl⟩
    · rcases List.mem_cons.mp hp with rfl | hp
      · exact .head _
      · exact .tail _ (.tail _ (.tail _ hp))
    · subst hn; exact Nat.lt_succ_self _
    · simp only [List.length_cons] at hz₁ ⊢; omega
end Mine
end

section
open PySem PySem.W PyProof.Rows
namespace Mine

section
variable {prog : Program} {w : World} {A : Around} {E : Value → Shared → Prop} {s : Shared} {h₀ : Heap} {L : Addr} {news : List (Addr × Obj)}
theorem listItem {value slice : Expr} {a : Addr} {vs : List Value} {ws : List Str} {n nn : Nat} {k : Int} {u : Tok} {Q : Value → Shared → Prop} (N : News h₀ L s.heap news) (hm : (a, listOf vs.toArray n) ∈ news) (hi : StrsAre vs ws) (hl : ws.length = nn)
    (h0 : 0 ≤ k) (hk : k < (nn : Int)) (hz : nn ≤ 1000) (h : ∀ t', Q (.str (ws.getD k.toNat Str.empty) t') s)
    (hs : subscripted slice false (.ref a) (.int k u) = operate [.ref a, .int k u] (getItem (.ref a) (.int k u)) := by with_unfolding_all rfl) (hg : ∀ r, letTemporaryGo value (.ref a) r = pure () := by intro _; with_unfolding_all rfl) :
    wpAny (model prog w) A (subscriptTail value slice (.ref a) (.int k u)) Q E s :=
  item_strsA (News.isList N hm) hi h0 (by omega) (by omega) h hs hg
end
theorem getD_len {ws : List Str} {b : Nat} (hb : ∀ y ∈ ws, y.length ≤ b) (i : Nat) : (ws.getD i Str.empty).length ≤ b := by
  rcases Nat.lt_or_ge i ws.length with h | h
  · rw [List.getD_eq_getElem?_getD, List.getElem?_eq_getElem h]
    exact hb _ (List.getElem_mem h)
  · rw [List.getD_eq_getElem?_getD, List.getElem?_eq_none h]
    exact Nat.zero_le _
local macro_rules | `(tactic| walk_at "subscriptTail") => `(tactic| (k_here; (with_reducible show wpAny _ _ (subscriptTail _ _ (Value.ref _) (Value.int _ _)) _ _ _); refine listItem (by k_asm) (by assumption) (by assumption) (by assumption) (by first | decide | exact fmod_lo _ (by decide)) (by first | decide | exact fmod_hi _ (by decide)) (by decide) ?_; intro _))
local macro_rules | `(tactic| walk_at "subscriptTail Name Constant ref int") => `(tactic| (k_here; (with_reducible show wpAny _ _ (subscriptTail _ _ (Value.ref _) (Value.int _ _)) _ _ _); refine listItem (by k_asm) (by assumption) (by assumption) (by assumption) (by first | decide | exact fmod_lo _ (by decide)) (by first | decide | exact fmod_hi _ (by decide)) (by decide) ?_; intro _))
local macro_rules | `(tactic| walk_at "subscriptTail Name BinOp ref int") => `(tactic| (k_here; (with_reducible show wpAny _ _ (subscriptTail _ _ (Value.ref _) (Value.int _ _)) _ _ _); refine listItem (by k_asm) (by assumption) (by assumption) (by assumption) (by first | decide | exact fmod_lo _ (by decide)) (by first | decide | exact fmod_hi _ (by decide)) (by decide) ?_; intro _))

local macro_rules | `(tactic| kt_len) => `(tactic| exact getD_len (by assumption) _)
theorem tPiece {w : World} {loose : List Str} {mean : ExcName → Option Value} {mg mb : Str → Option Value} {news : List (Addr × Obj)} {aS aC : Addr} {vS vC : List Value} {nS nC : Nat} {ws ks : List Str}
    (hS : (aS, listOf vS.toArray nS) ∈ news) (iS : StrsAre vS ws) (lS : ws.length = 4) (bS : ∀ y ∈ ws, y.length ≤ 1)
    (hC : (aC, listOf vC.toArray nC) ∈ news) (iC : StrsAre vC ks) (lC : ks.length = 4) (bC : ∀ y ∈ ks, y.length ≤ 4) (x : Int) (tx : Tok) :
    Tell PySem.Challenge.rw_mq0462_01.row.prog w (hd.heap_39 w.params) loose mean mg mb 33 news [.int x tx, .ref aS, .ref aC] (fun v => ∃ y t, v = .str y t ∧ y.length ≤ 5) := by
  intro dp un gd cn cs a ccd cl outer A₀ base h₀ L m s Q E B F X N T hk hdp hun hret
  refine wpAny_call ?_
  k_dflt cell_enter
  k_steps
  all_goals (rename Fr h₀ L _ _ => kF; rename News h₀ L _ _ => kN; refine hret _ _ _ ⟨_, _, rfl, ?_⟩ kF kN)
  · exact Nat.le_trans (getD_len bS _) (by decide)
  · omega
  · have h1 := getD_len bS (Int.toNat 0)
    have h2 := getD_len bC ((x.fdiv 5).fmod 4).toNat
    rw [Str.length_append]; omega
  · exact Nat.le_trans (getD_len bC _) (by decide)
  · exact Nat.le_of_ble_eq_true rfl
  · exact Nat.le_of_ble_eq_true rfl
end Mine
end

section
open PySem PySem.W PyProof.Rows PySem.Calls
namespace Mine

def TurnEnd (h₀ : Heap) (L : Addr) (s : Shared) (news : List (Addr × Obj)) (J : (Str → Option Value) → Prop) (Q : Flow → Shared → Prop) (f : Flow) (s₂ : Shared) : Prop :=
  match f with
  | .ret v => Q (.ret v) s₂
  | .brk => Q .next s₂
  | _ => ∃ h' tk m', s₂ = { s with heap := h', toks := tk } ∧ Fr h₀ L h' m' ∧ News h₀ L h' news ∧ J m'

section
variable {prog : Program} {w : World} {A : Around} {E : Value → Shared → Prop} {s : Shared} {env : Env} {h₀ : Heap} {x : Str} {body : List Stmt} {Q : Flow → Shared → Prop}
theorem loopFix {I : Addr} {fp wr : List Addr} {n : Nat} {P : Nat → Value → Prop} {St : Nat → Heap → Prop} {m₀ : Str → Option Value} {news : List (Addr × Obj)} (J : Nat → (Str → Option Value) → Prop)
    (W : Walks prog w A I fp wr n P St) (hLf : env.locals ∉ fp) (hwr : ∀ b ∈ wr, h₀.get? b = none) (hnw : ∀ p ∈ news, p.1 ∉ wr) (hfp : ∀ q ∈ news, q.1 ∉ fp) (hst : St 0 s.heap) (F : Fr h₀ env.locals s.heap m₀) (N : News h₀ env.locals s.heap news) (hj : J 0 m₀)
    (turn : ∀ i v m₁ h tk own, i < n → P i v → J i m₁ → Fr h₀ env.locals h (fun y => if y = x then some v else m₁ y) → News h₀ env.locals h (news ++ own) →
      wpAny (model prog w) A (execs body env) (TurnEnd h₀ env.locals s (news ++ own) (J (i + 1)) Q) E { s with heap := h, toks := tk })
    (done : ∀ m₁ h tk, J n m₁ → Fr h₀ env.locals h m₁ → News h₀ env.locals h news → Q .next { s with heap := h, toks := tk }) :
    LoopAtV prog w A h₀ env x body Q E (.ref I) s := by
  refine loop_invN (fun i m nx => nx = news ∧ J i m) W hLf hwr hnw hfp hst F N ⟨rfl, hj⟩ ?_ ?_
  · rintro i v m₁ nx h tk own hi hP _ _ ⟨rfl, hJ⟩ F₁ N₁
    refine wpAny_mono (turn i v m₁ h tk own hi hP hJ F₁ N₁) (fun f s₂ e => ?_) fun _ _ e => e
    have fin : (∃ h' tk m', s₂ = { s with heap := h', toks := tk } ∧ Fr h₀ env.locals h' m' ∧ News h₀ env.locals h' (nx ++ own) ∧ J (i + 1) m') →
        InvEndN h₀ env.locals (fun m nx' => nx' = nx ∧ J (i + 1) m) own (nx.map (·.1)) { s with heap := h, toks := tk } s₂ := by
      rintro ⟨h', tk', m', rfl, F', N', hJ'⟩
      exact ⟨h', tk', m', nx ++ own, nx, rfl, F', N', fun p hp => List.mem_append_left _ hp, fun p hp => List.mem_append_right _ hp, rfl, rfl, hJ'⟩
    cases f with
    | ret v => exact e
    | brk => exact e
    | next => exact fin e
    | cont => exact fin e
  · rintro m₁ nx h tk ⟨rfl, hJ⟩ F₁ N₁
    exact done m₁ h tk hJ F₁ N₁

theorem textLoop {xt : Str} {tx : Tok} {m₀ : Str → Option Value} {news : List (Addr × Obj)} (J : (Str → Option Value) → List Nat → (Str → Option Value) → Prop)
    (hh : A.handled = none) (F : Fr h₀ env.locals s.heap m₀) (N : News h₀ env.locals s.heap news) (hj : J m₀ [] m₀)
    (turn : ∀ pre c post t m₁ h tk own, xt.cps.toList = pre ++ c :: post → J m₀ pre m₁ → Fr h₀ env.locals h (fun y => if y = x then some (.str ⟨#[c]⟩ t) else m₁ y) → News h₀ env.locals h (news ++ own) →
      wpAny (model prog w) A (execs body env) (TurnEnd h₀ env.locals s (news ++ own) (J m₀ (pre ++ [c])) Q) E { s with heap := h, toks := tk })
    (done : ∀ m₁ h tk, J m₀ xt.cps.toList m₁ → Fr h₀ env.locals h m₁ → News h₀ env.locals h news → Q .next { s with heap := h, toks := tk }) :
    wpAny (model prog w) A (pyIter (.str xt tx)) (fun it s₂ => LoopAtV prog w A h₀ env x body Q E it s₂) E s := by
  refine wpAny_pyIter_str fun o St hW hst => ?_
  have W := hW A hh
  refine loopFix (s := { s with heap := s.heap.push o }) (fun i m => J m₀ (xt.cps.toList.take i) m) W ?_ ?_ ?_ ?_ hst (F.push _) (fun p hp => ⟨Heap.get?_push_of_some _ (N p hp).1, (N p hp).2⟩) hj ?_ ?_
  · intro hm
    exact absurd F.ns.lt ((List.mem_singleton.mp hm) ▸ Nat.lt_irrefl _)
  · intro b' hb
    rw [List.mem_singleton.mp hb]
    exact next_is_new F
  · intro p hp hI
    exact absurd (Heap.lt_size (N p hp).1) ((List.mem_singleton.mp hI) ▸ Nat.lt_irrefl _)
  · intro p hp hI
    exact absurd (Heap.lt_size (N p hp).1) ((List.mem_singleton.mp hI) ▸ Nat.lt_irrefl _)
  · rintro i v m₁ h tk own hi ⟨n, u, hn, rfl⟩ hJ F₁ N₁
    have hn' : xt.cps.toList[i]? = some n := by simpa using hn
    have hs : xt.cps.toList.take (i + 1) = xt.cps.toList.take i ++ [n] := by simp [List.take_add_one, hn']
    have e : xt.cps.toList = xt.cps.toList.take i ++ n :: xt.cps.toList.drop (i + 1) := by
      have ht := List.take_append_drop (i + 1) xt.cps.toList
      rw [hs, List.append_assoc] at ht
      exact ht.symm
    rw [hs]
    exact turn _ n _ u m₁ h tk own e hJ F₁ N₁
  · intro m₁ h tk hJ F₁ N₁
    have hl : xt.cps.size = xt.cps.toList.length := by simp
    rw [hl, List.take_length] at hJ
    exact done m₁ h tk hJ F₁ N₁
end
end Mine
end

section
open PySem PySem.W PyProof.Rows PySem.Calls PySem.SeqAt PySem.Builtin.Str
namespace Mine

theorem isStr_at (k : Str) : ∀ {vs : List Value} {ns : List Str}, StrsAre vs ns → ∀ (j : Nat) (h1 : j < vs.length) (h2 : j < ns.length), isStrOf k vs[j] = (ns[j] == k)
  | _, _, .cons n t _, 0, _, _ => rfl
  | _, _, .cons n t r, j + 1, h1, h2 => isStr_at k r j (Nat.lt_of_succ_lt_succ h1) (Nat.lt_of_succ_lt_succ h2)
theorem ne_lt_idx {k : Str} : ∀ {ns : List Str} {j : Nat}, j < ns.idxOf k → ∀ (h2 : j < ns.length), (ns[j] == k) = false
  | n :: r, 0, h, _ => by
    by_cases e : n = k
    · subst e; simp at h
    · simpa using e
  | n :: r, j + 1, h, h2 => by
    by_cases e : n = k
    · subst e; simp at h
    · have hb : (n == k) = false := by simpa using e
      have h' : j < r.idxOf k := by
        rw [List.idxOf_cons, hb] at h
        exact Nat.lt_of_succ_lt_succ h
      exact ne_lt_idx h' (Nat.lt_of_succ_lt_succ h2)
section
variable {prog : Program} {w : World} {A : Around} {E : Value → Shared → Prop} {s : Shared} {h₀ : Heap} {L : Addr} {m : Str → Option Value} {news : List (Addr × Obj)}
theorem index_strs {l : Addr} {vs : List Value} {ns : List Str} {k : Str} {t : Tok} {Q : Value → Shared → Prop} (hl : s.heap.IsList l vs.toArray) (hi : StrsAre vs ns)
    (hz : ns.length ≤ 1000) (hk : k ∈ ns) (h : Q (.int (ns.idxOf k : Nat) s.toks) { s with toks := s.toks + 1 }) :
    wpAny (model prog w) A (call (.builtin "list.index") [.ref l, .str k t]) Q E s := by
  obtain ⟨⟨cls, dd, data, sl⟩, ho, hc, n, hd⟩ := id hl
  simp only at hc hd
  subst hc hd
  have hlen := hi.len_eq
  have hj : ns.idxOf k < ns.length := List.idxOf_lt_length_iff.mpr hk
  refine call_meets PySem.F.slot_list_index ⟨_, ho, rfl⟩ PySem.F.entry_list_index (PySem.F.args_list_index_2 _ _)
    (list_indexAt l vs.toArray n dd sl (.str k t) (isStrOf k) (ns.idxOf k) (by simpa [hlen] using hj) (by omega) ?_ ?_) ⟨ho, fun y hy => (eq_isStrOf k t hi y (by simpa using hy)).at _ _, h⟩
  · show isStrOf k vs[ns.idxOf k] = true
    rw [isStr_at k hi _ (by omega) hj]
    simpa using List.getElem_idxOf hj
  · intro j hjs hlt
    show isStrOf k vs[j] = false
    rw [isStr_at k hi j (by simpa using hjs) (by omega)]
    exact ne_lt_idx hlt _
end

/-- what the law's walk writes for one sign -/
def encC (ws ks : List Str) (place net : Int) (c : Nat) : Str :=
  let j := ws.idxOf (⟨#[c]⟩ : Str)
  let more := if (j : Int) ≤ place then net else net - 1
  if j = 4 ∨ more < 0 then ⟨#[c]⟩ else if j = 0 then ⟨#[c]⟩ ++ Txt.mul (ks.getD 0 Str.empty) net else ws.getD 0 Str.empty ++ Txt.mul (ks.getD 0 Str.empty) more ++ ks.getD j Str.empty
def encAll (ws ks : List Str) (place net : Int) (l : List Nat) : Str := l.foldl (fun a c => a ++ encC ws ks place net c) Str.empty

def canonW (wr : Str) (t : Tok) (u m : Str → Option Value) : Str → Option Value := fun y => if y = "written" then some (.str wr t) else if y = "sign" ∨ y = "j" ∨ y = "more" then u y else m y
theorem canonW_of {m' m : Str → Option Value} {wr : Str} {t : Tok} (h1 : m' "written" = some (.str wr t)) (h2 : ∀ y : Str, y ≠ "written" → ¬ (y = "sign" ∨ y = "j" ∨ y = "more") → m' y = m y) : m' = canonW wr t m' m := by
  funext y
  unfold canonW
  split
  · next h => subst h; exact h1
  · split
    · rfl
    · next h h' => exact h2 y h h'

section
variable {prog : Program} {w : World} {A : Around} {E : Value → Shared → Prop} {s : Shared} {h₀ : Heap} {L : Addr} {m : Str → Option Value} {news : List (Addr × Obj)} {a : Addr} {vs : List Value} {ws : List Str} {n : Nat} {k : Str} {t : Tok} {Q : Value → Shared → Prop}
theorem inYes (N : News h₀ L s.heap news) (hm : (a, listOf vs.toArray n) ∈ news) (hi : StrsAre vs ws) (hk : k ∈ ws) (h : Q (.bool true) s) : wpAny (model prog w) A (compareOp .In (.str k t) (.ref a)) Q E s := by
  refine in_list_strs (News.isList N hm) hi ?_
  have e : ws.any (· == k) = true := List.any_eq_true.mpr ⟨k, hk, by simp⟩
  rw [e]; exact h
theorem inNo (N : News h₀ L s.heap news) (hm : (a, listOf vs.toArray n) ∈ news) (hi : StrsAre vs ws) (hk : k ∉ ws) (h : Q (.bool false) s) : wpAny (model prog w) A (compareOp .In (.str k t) (.ref a)) Q E s := by
  refine in_list_strs (News.isList N hm) hi ?_
  have e : ws.any (· == k) = false := by
    rw [List.any_eq_false]
    intro y hy hc
    exact hk ((eq_of_beq hc) ▸ hy)
  rw [e]; exact h
theorem idxN {nn : Nat} (N : News h₀ L s.heap news) (hm : (a, listOf vs.toArray n) ∈ news) (hi : StrsAre vs ws) (hl : ws.length = nn) (hz : nn ≤ 1000) (hk : k ∈ ws) (h : Q (.int (ws.idxOf k : Nat) s.toks) { s with toks := s.toks + 1 }) :
    wpAny (model prog w) A (call (.builtin "list.index") [.ref a, .str k t]) Q E s := index_strs (News.isList N hm) hi (hl ▸ hz) hk h
end
theorem len_app {x y : Str} {a b : Nat} (hx : x.length ≤ a) (hy : y.length ≤ b) : (x ++ y).length ≤ a + b := by rw [Str.length_append]; omega
local macro_rules | `(tactic| walk_at "compareOp In str ref") => `(tactic| (k_here; (with_reducible show wpAny _ _ (compareOp CmpOp.In (Value.str _ _) (Value.ref _)) _ _ _); first | refine inYes (by k_asm) (by assumption) (by assumption) (by assumption) ?_ | refine inNo (by k_asm) (by assumption) (by assumption) (by assumption) ?_))
local macro_rules | `(tactic| walk_at "call builtin:list.index") => `(tactic| (k_here; (with_reducible show wpAny _ _ (call (Value.builtin "list.index") [Value.ref _, Value.str _ _]) _ _ _); refine idxN (by k_asm) (by assumption) (by assumption) (by assumption) (by decide) (by assumption) ?_))
local macro_rules | `(tactic| kt_len) => `(tactic| exact getD_len (by assumption) _)
local macro_rules | `(tactic| kt_len) => `(tactic| (refine len_app ?_ ?_ <;> kt_len))

theorem mulOk_small {x : Str} {n : Int} (hx : x.length ≤ 4) (h0 : -1000 ≤ n) (h1 : n ≤ 3) : MulOk x n := by
  refine ⟨by simp; omega, fun h _ => ?_, fun h _ => ?_⟩
  · have hn : n = 1 ∨ n = 2 ∨ n = 3 := by omega
    rcases hn with rfl | rfl | rfl <;> simp only [gt_iff_lt, Int.not_lt] <;> omega
  · have : x.length * n.toNat ≤ 4 * 3 := Nat.mul_le_mul hx (by omega)
    unfold tooLong
    exact decide_eq_false (by rw [sizeLine_eq]; omega)
theorem mul_foldl (c : Array Nat) : ∀ (k : Nat) (a : Array Nat), (List.replicate k c).foldl (· ++ ·) a = a ++ ((List.replicate k c.toList).flatten).toArray
  | 0, a => by simp
  | k + 1, a => by
    rw [List.replicate_succ, List.foldl_cons, mul_foldl c k]
    rw [List.replicate_succ, List.flatten_cons, Array.append_assoc]
    congr 1
    simp
theorem mul_list (x : Str) (n : Int) : (Txt.mul x n).cps.toList = (List.replicate n.toNat x.cps.toList).flatten := by
  unfold Txt.mul
  split
  · next h =>
    have : n.toNat = 0 := by omega
    rw [this]; rfl
  · split
    · next h =>
      simp only [Bool.or_eq_true, beq_iff_eq] at h
      rcases h with rfl | h
      · simp
      · have hz : x.cps.toList = [] := by
          have : x.cps.toList.length = 0 := by simpa [Str.length] using h
          exact List.length_eq_zero_iff.mp this
        rw [hz]; simp
    · rw [mul_foldl]; simp
theorem len_mul {x : Str} {n : Int} (hx : x.length ≤ 4) (h1 : n ≤ 3) : (Txt.mul x n).length ≤ 12 := by
  have e : (Txt.mul x n).length = (Txt.mul x n).cps.toList.length := by simp [Str.length]
  rw [e, mul_list]
  have hl : x.cps.toList.length ≤ 4 := by simpa [Str.length] using hx
  have hk : n.toNat ≤ 3 := by omega
  simp only [List.length_flatten, List.map_replicate, List.sum_replicate_nat]
  exact Nat.le_trans (Nat.mul_le_mul hk hl) (by decide)
section
variable {prog : Program} {w : World} {A : Around} {E : Value → Shared → Prop} {s : Shared} {x : Str} {n : Int} {t u : Tok} {Q : Value → Shared → Prop}
theorem mulS (hx : x.length ≤ 4) (h0 : -1000 ≤ n) (h1 : n ≤ 3) (h : ∀ t' k, Q (.str (Txt.mul x n) t') { s with toks := k }) : wpAny (model prog w) A (binaryOp .Mult (.str x t) (.int n u)) Q E s := SB.mul (mulOk_small hx h0 h1) h
end
theorem encC_len {ws ks : List Str} {place net : Int} (lS : ∀ y ∈ ws, y.length ≤ 1) (lC : ∀ y ∈ ks, y.length ≤ 4) (hn : net ≤ 3) (c : Nat) : (encC ws ks place net c).length ≤ 17 := by
  have h0 := getD_len lC 0
  have h1 : (⟨#[c]⟩ : Str).length ≤ 1 := Nat.le_refl 1
  have h2 := getD_len lC (ws.idxOf (⟨#[c]⟩ : Str))
  have h3 := getD_len lS 0
  have h4 := len_mul h0 hn
  have h5 := len_mul (n := net - 1) h0 (by omega)
  simp only [encC]
  (repeat' split) <;> (try simp only [Str.length_append]) <;> omega
theorem encAll_snoc (ws ks : List Str) (place net : Int) (l : List Nat) (c : Nat) : encAll ws ks place net (l ++ [c]) = encAll ws ks place net l ++ encC ws ks place net c := by
  unfold encAll; rw [List.foldl_append]; rfl
theorem encAll_len {ws ks : List Str} {place net : Int} (lS : ∀ y ∈ ws, y.length ≤ 1) (lC : ∀ y ∈ ks, y.length ≤ 4) (hn : net ≤ 3) : ∀ (l : List Nat), (encAll ws ks place net l).length ≤ l.length * 17 := by
  intro l
  have key : ∀ (l : List Nat) (a : Str), (l.foldl (fun a c => a ++ encC ws ks place net c) a).length ≤ a.length + l.length * 17 := by
    intro l
    induction l with
    | nil => intro a; simp
    | cons c r ih =>
      intro a
      rw [List.foldl_cons]
      have h1 := ih (a ++ encC ws ks place net c)
      have h2 := encC_len (place := place) lS lC hn c
      rw [Str.length_append] at h1
      simp only [List.length_cons]
      omega
  have := key l Str.empty
  simpa [encAll, Str.empty, Str.length] using this

local macro_rules | `(tactic| walk_at "subscriptTail Name Constant ref int") => `(tactic| (k_here; (with_reducible show wpAny _ _ (subscriptTail _ _ (Value.ref _) (Value.int _ _)) _ _ _); refine listItem (by k_asm) (by assumption) (by assumption) (by assumption) (by decide) (by decide) (by decide) ?_; intro _))
local macro_rules | `(tactic| walk_at "subscriptTail Name Name ref int") => `(tactic| (k_here; (with_reducible show wpAny _ _ (subscriptTail _ _ (Value.ref _) (Value.int _ _)) _ _ _); refine listItem (by k_asm) (by assumption) (by assumption) (by assumption) (by omega) (by omega) (by decide) ?_; intro _))
local macro_rules | `(tactic| walk_at "binaryOp Mult str int") => `(tactic| (k_here; (with_reducible show wpAny _ _ (binaryOp Operator.Mult (Value.str _ _) (Value.int _ _)) _ _ _); refine mulS (by exact getD_len (by assumption) _) (by omega) (by omega) ?_; intro _ _))
local macro_rules | `(tactic| kt_len) => `(tactic| exact len_mul (getD_len (by assumption) _) (by omega))

theorem turnW {g : Heap} {L : Addr} {s : Shared} {nx : List (Addr × Obj)} {ws ks : List Str} {place net : Int} {pre : List Nat} {c : Nat} {Q : Flow → Shared → Prop} {h' : Heap} {tk : Nat} {m' m : Str → Option Value} {y : Str} {t : Tok}
    (F : Fr g L h' m') (N : News g L h' nx) (h1 : m' "written" = some (.str y t)) (h2 : ∀ y : Str, y ≠ "written" → ¬ (y = "sign" ∨ y = "j" ∨ y = "more") → m' y = m y) (e : y = encAll ws ks place net pre ++ encC ws ks place net c) :
    TurnEnd g L s nx (fun m' => ∃ t u, m' = canonW (encAll ws ks place net (pre ++ [c])) t u m) Q .next { s with heap := h', toks := tk } := by
  refine ⟨h', tk, m', rfl, F, N, t, m', canonW_of ?_ h2⟩
  rw [h1, encAll_snoc, e]

theorem tWritten {w : World} {loose : List Str} {mean : ExcName → Option Value} {mg mb : Str → Option Value} {news : List (Addr × Obj)} {aS aC : Addr} {vS vC : List Value} {nS nC : Nat} {ws ks : List Str}
    (hS : (aS, listOf vS.toArray nS) ∈ news) (iS : StrsAre vS ws) (lS : ws.length = 4) (bS : ∀ y ∈ ws, y.length ≤ 1)
    (hC : (aC, listOf vC.toArray nC) ∈ news) (iC : StrsAre vC ks) (lC : ks.length = 4) (bC : ∀ y ∈ ks, y.length ≤ 4) (x : Str) (hx : x.length ≤ 128) (place net : Int) (hn0 : 0 ≤ net) (hn : net ≤ 3) (tx tp tn : Tok) :
    Tell PySem.Challenge.rw_mq0462_01.row.prog w (hd.heap_39 w.params) loose mean mg mb 40 news [.str x tx, .ref aS, .ref aC, .int place tp, .int net tn] (fun v => ∃ t, v = .str (encAll ws ks place net x.cps.toList) t) := by
  intro dp un gd cn cs a ccd cl outer A₀ base h₀ L m s Q E B F X N T hk hdp hun hret
  refine wpAny_call ?_
  k_dflt cell_enter
  rename_i g' L' h' FG' F' N' B' X' T'
  walk1
  walk1
  walk1
  walk1
  walk1
  walk1
  rename Fr g' L' _ _ => F₁
  rename News g' L' _ _ => N₁
  (with_unfolding_all refine For_invVF F₁ (by rfl) (by rfl) ?_)
  walk1
  (with_unfolding_all refine textLoop (fun m₀ pre m => ∃ t u, m = canonW (encAll ws ks place net pre) t u m₀) (by rfl) F₁ N₁ ?_ ?_ ?_)
  · exact ⟨_, _, canonW_of rfl fun _ _ _ => rfl⟩
  · rintro pre c post t m₁ h tk own hpre ⟨tw, u, rfl⟩ F₂ N₂
    have hS' := List.mem_append_left own hS
    have hC' := List.mem_append_left own hC
    clear F₁ N₁
    replace F₂ : Fr g' L' h _ := F₂
    replace N₂ : News g' L' h (news ++ own) := N₂
    have hlen : (encAll ws ks place net pre).length ≤ 8192 := by
      have h1 := encAll_len (place := place) bS bC hn pre
      have h2 : x.cps.toList.length = pre.length + (post.length + 1) := by rw [hpre]; simp
      have h3 : x.cps.toList.length ≤ 128 := by simpa [Str.length] using hx
      omega
    by_cases hin : (⟨#[c]⟩ : Str) ∈ ws
    · have hj : ws.idxOf (⟨#[c]⟩ : Str) < 4 := lS ▸ List.idxOf_lt_length_iff.mpr hin
      k_steps
      all_goals (rename Fr g' L' _ _ => kF; rename News g' L' _ _ => kN; (with_unfolding_all refine turnW kF kN (by rfl) ?_ ?_))
      all_goals (try (intro y h1 h2; simp only [not_or] at h2; obtain ⟨h3, h4, h5⟩ := h2; simp only [canonW, h1, h3, h4, h5, if_false, or_self]; done))
      all_goals (clear kF kN; simp only [encC, Str.append_assoc, Int.toNat_natCast, Int.toNat_zero]; (repeat' split) <;> first | (with_reducible rfl) | (exfalso; omega))
    · have hj : ws.idxOf (⟨#[c]⟩ : Str) = 4 := lS ▸ List.idxOf_eq_length hin
      k_steps
      all_goals (rename Fr g' L' _ _ => kF; rename News g' L' _ _ => kN; (with_unfolding_all refine turnW kF kN (by rfl) ?_ ?_))
      all_goals (try (intro y h1 h2; simp only [not_or] at h2; obtain ⟨h3, h4, h5⟩ := h2; simp only [canonW, h1, h3, h4, h5, if_false, or_self]; done))
      all_goals (clear kF kN; simp only [encC, Str.append_assoc, Int.toNat_natCast, Int.toNat_zero]; (repeat' split) <;> first | (with_reducible rfl) | (exfalso; omega))
  · rintro m₁ h tk ⟨tw, u, rfl⟩ F₂ N₂
    k_steps
    rename Fr h₀ L _ _ => kF
    rename News h₀ L _ _ => kN
    exact hret _ _ _ ⟨_, rfl⟩ kF kN
end Mine
end

section
open PySem PySem.W PyProof.Rows PySem.Calls PySem.SeqAt PySem.Builtin.Str
namespace Mine

theorem allNe {news : List (Addr × Obj)} {d L' : Nat} (l : ∀ p ∈ news, p.1 < L') (h : L' ≤ d) : ∀ p ∈ news, p.1 ≠ d := fun p hp e => by
  have h2 : @LT.lt Nat _ p.1 L' := l p hp
  have h3 : @Eq Nat p.1 d := e
  omega
local macro_rules | `(tactic| k_all) => `(tactic| (refine allNe (by assumption) ?_; omega))

local macro_rules | `(tactic| walk_at "exec Assign cons ListComp") => `(tactic| (k_here; k_dflt (refine LCg.Assign_ListComp_U (F₀ := by k_asm) (by rfl) (by with_unfolding_all rfl) (by rfl) (by decide) (by rfl) (by decide) (by rfl) (by rfl) (by rfl) ?_); k_dflt lcg_toSrc))
local macro_rules | `(tactic| walk_at "eval ListComp") => `(tactic| (k_here; k_dflt (refine LCg.ListComp_U (F₀ := by k_asm) (by rfl) (by decide) (by rfl) (by decide) (by rfl) ?_); k_dflt lcg_toSrc))
local macro_rules | `(tactic| walk_at "CompSrc") => `(tactic| (k_here; k_dflt (refine LCg.CompSrc.range (by rfl) (by k_asm) (by k_asm) (by assumption) (by first | decide | rfl) (by first | rfl | decide) (by first | size_fits | exact Nat.le_of_ble_eq_true rfl) ?_; intro g'; lcg_lit)))
local macro_rules | `(tactic| walk_at "CompRest") => `(tactic| (with_unfolding_all first
  | (refine LCg.CompRest.succ ?_; intro v' I' oI' C' oC' D' m' h' tk' E' hv' hC' hx' F' N' off' ne'; clear ne'; (obtain ⟨t9', hv9'⟩ := hv'; subst hv9'); (try k_fold))
  | refine LCg.CompRest.zero ?_))
local macro_rules | `(tactic| walk_at "CompEnd") => `(tactic| ((rename LCg.Off3 _ _ _ _ => kO9); (refine LCg.CompEnd.intro (by assumption) (by assumption) _ ?_ kO9 trivial ?_; first | exact fun p hp => hp | exact fun p hp => .tail _ hp | exact fun p hp => .tail _ (.tail _ hp)); clear kO9))
local macro_rules | `(tactic| walk_at "subscriptTail Name Name ref int") => `(tactic| (k_here; (with_reducible show wpAny _ _ (subscriptTail _ _ (Value.ref _) (Value.int _ _)) _ _ _); k_dflt (refine item_listL (News.isList (by k_asm) (by k_mem)) (by decide) (by decide) rfl ?_)))
section
variable {prog : Program} {w : World} {A : Around} {E : Value → Shared → Prop} {s : Shared} {h₀ : Heap} {L : Addr} {news : List (Addr × Obj)}
theorem tupStr {value slice : Expr} {a : Addr} {vs : List Value} {ws : List Str} {n : Nat} {k : Int} {u : Tok} {Q : Value → Shared → Prop} (N : News h₀ L s.heap news) (hm : (a, ({ cls := .type "tuple", data := .seq vs.toArray n } : Obj)) ∈ news) (hi : StrsAre vs ws)
    (h0 : 0 ≤ k) (hk : k < (ws.length : Int)) (hz : ws.length ≤ 1000) (h : ∀ t', Q (.str (ws.getD k.toNat Str.empty) t') s)
    (hs : subscripted slice false (.ref a) (.int k u) = operate [.ref a, .int k u] (getItem (.ref a) (.int k u)) := by with_unfolding_all rfl) :
    wpAny (model prog w) A (subscriptTail value slice (.ref a) (.int k u)) Q E s := by
  have hlt : k.toNat < ws.length := by omega
  have e : ws[k.toNat]? = some (ws.getD k.toNat Str.empty) := by simp [List.getD, hlt]
  obtain ⟨t, ht⟩ := hi.at e
  have hj : seqIndex? k vs.length = some k.toNat := by
    rw [hi.len_eq]
    exact StrLaws.seqIndex_nonneg h0 hk
  exact item_tupleT (isTupN N hm) (by omega) (by omega) hj ht (h t) hs
end
local macro_rules | `(tactic| walk_at "subscriptTail") => `(tactic| (k_here; (with_reducible show wpAny _ _ (subscriptTail _ _ (Value.ref _) (Value.int (Int.fmod _ _) _)) _ _ _); k_dflt (refine tupStr (by k_asm) (by k_mem) (.cons _ _ (.cons _ _ (.cons _ _ (.cons _ _ .nil)))) (fmod_lo _ (by decide)) (fmod_hi _ (by decide)) (by decide) ?_); intro _))
section
variable {prog : Program} {w : World} {A : Around} {E : Value → Shared → Prop} {s : Shared} {x y : Str} {t u : Tok} {Q : Value → Shared → Prop}
theorem addSm (hx : x.length ≤ 8) (hy : y.length ≤ 8) (h : ∀ t' tk, Q (.str (x ++ y) t') { s with toks := tk }) : wpAny (model prog w) A (binaryOp .Add (.str x t) (.str y u)) Q E s :=
  add_str h (Nat.le_trans (Nat.add_le_add hx hy) (by decide))
end
theorem leadLen (k : Nat) : ((["", "a", "d", "bc"] : List Str).getD k Str.empty).length ≤ 2 := getD_len (by decide) k
local macro_rules | `(tactic| walk_at "binaryOp Add str str") => `(tactic| (k_here; (with_reducible show wpAny _ _ (binaryOp Operator.Add (Value.str _ _) (Value.str _ _)) _ _ _); k_dflt (refine addSm ?_ ?_ ?_; (first | exact Nat.le_trans (leadLen _) (by decide) | exact Nat.le_trans (len_app (leadLen _) (Nat.le_refl 1)) (by decide)); (exact Nat.le_of_ble_eq_true rfl); intro _ _)))
def tellT : Str := Str.ofString "&<>\"' \n%\\=é🐍"
def sgn (x : Int) (j : Int) : Str := Txt.item tellT ((x + ([1, 5, 7, 11] : List Int).getD ((x.fdiv 12).fmod 4).toNat 0 * j).fmod 12)
def leadOf (x : Int) (j : Int) : Str := (["", "a", "d", "bc"] : List Str).getD (((x.fdiv 48).fdiv (4 ^ j.toNat)).fmod 4).toNat Str.empty
def cod (x : Int) (j : Int) : Str := leadOf x j ++ Txt.item (Str.ofString "abcd") j ++ Str.ofString ";"
abbrev j0 : Int := 0 + ((0 : Nat) : Int)
abbrev j1 : Int := 0 + ((0 + 1 : Nat) : Int)
abbrev j2 : Int := 0 + ((0 + 1 + 1 : Nat) : Int)
abbrev j3 : Int := 0 + ((0 + 1 + 1 + 1 : Nat) : Int)
theorem schemeEnd {h₀ h : Heap} {L : Addr} {p q r p1 p2 c1 c2 c3 c4 : Addr × Obj} {news : List (Addr × Obj)} (kN : News h₀ L h (p :: r :: p1 :: q :: p2 :: c1 :: c2 :: c3 :: c4 :: news)) : News h₀ L h (p :: q :: r :: news) :=
  cb_drop kN fun z hz => by
    simp only [List.mem_cons] at hz ⊢
    rcases hz with h | h | h | h <;> simp [h]
theorem tScheme {w : World} {loose : List Str} {mean : ExcName → Option Value} {mg mb : Str → Option Value} {news : List (Addr × Obj)} (x : Int) (tx : Tok)
   (dp un : Nat) (gd : Option (List Code)) (cn : Str) (cs : Scope) (a : Addr) (ccd : Value) (cl : List (Str × Addr)) (outer : List Env) (A₀ : Around) (base h₀ : Heap) (L : Addr) (m : Str → Option Value) (s : Shared) (Q E : Value → Shared → Prop)
   (B : Below A₀ base outer h₀) (F : Fr h₀ L s.heap m) (X : (hd.heap_39 w.params).In h₀) (N : News h₀ L s.heap news) (T : Top hd.view_39 loose mean mg mb h₀) (hk : cs.kind = .function) (hdp : dp + 2 < recursionLimit) (hun : un + 16 < cLine)
   (hret : ∀ aT aS aC vS vC h' tk', StrsAre vS [sgn x j0, sgn x j1, sgn x j2, sgn x j3] → StrsAre vC [cod x j0, cod x j1, cod x j2, cod x j3] → Fr h₀ L h' m →
      News h₀ L h' ((aT, { cls := .type "tuple", data := .seq #[.ref aS, .ref aC] }) :: (aS, LCg.lst vS) :: (aC, LCg.lst vC) :: news) → Q (.ref aT) { s with heap := h', toks := tk' }) :
    wpAny (model PySem.Challenge.rw_mq0462_01.row.prog w) (ktrTop dp un gd cn cs L a ccd cl outer) (call (.ref 26) [.int x tx]) Q E s := by
  refine wpAny_call ?_
  k_dflt (refine' code_defC ?k1 ?k2 ?k3 ?k4 ?k5 ?kA ?kF ?kK ?k6 ?k7 ?k8 ?k9 ?kB ?kD ?_ ?c2 ?c3 ?c4; (case kA => exact rfl); (case kF => exact rfl); (case kK => exact hk); (case k1 => k_asm); (case k2 => k_asm); (case k3 => k_asm); (case k4 => k_asm); (case k5 => k_asm); (case k6 => k_is); (case k7 => k_is); (case k8 => ktr_room); (case k9 => exact BindsTo.of_eq rfl); (case kB => exact rfl); (case kD => decide +kernel); (case c2 => exact rfl); (case c3 => exact rfl); (case c4 => exact rfl); k_whole; intro g' L' h' tk' cells' FG' F' N' Y' B' X' T' l1; (try k_lt l1); k_cells Y'; (try simp only [List.cons_append, List.nil_append] at N'); (try dsimp only); (try k_lift B'); (try k_fold))
  repeat' (first | (k_unfold; (try dsimp only)) | (k_end; wrow_close) | dsimp only | walk1)
  rename Fr h₀ L _ _ => kF
  rename News h₀ L _ _ => kN
  exact hret _ _ _ _ _ _ _ (.cons _ _ (.cons _ _ (.cons _ _ (.cons _ _ .nil)))) (.cons _ _ (.cons _ _ (.cons _ _ (.cons _ _ .nil)))) kF (schemeEnd kN)
end Mine
end

section
open PySem PySem.W PyProof.Rows PySem.Calls PySem.SeqAt PySem.Builtin.Str
namespace Mine
def TurnEndJ (h₀ : Heap) (L : Addr) (s : Shared) (q : Addr × Obj) (J : (Str → Option Value) → List (Addr × Obj) → Prop) (Q : Flow → Shared → Prop) (f : Flow) (s₂ : Shared) : Prop :=
  match f with
  | .ret v => Q (.ret v) s₂
  | .brk => Q .next s₂
  | _ => ∃ h' tk m' nx', s₂ = { s with heap := h', toks := tk } ∧ Fr h₀ L h' m' ∧ News h₀ L h' (q :: nx') ∧ J m' nx'
section
variable {prog : Program} {w : World} {A : Around} {E : Value → Shared → Prop} {s : Shared} {env : Env} {h₀ : Heap} {target : Expr} {body : List Stmt} {Q : Flow → Shared → Prop}
theorem itemsJ {I : Addr} {keep news : List (Addr × Obj)} (J : (Str → Option Value) → List (Addr × Obj) → Prop) (hI : ∀ p ∈ news, p.1 < I) (hadr : ∀ m nx, J m nx → nx.map (·.1) = news.map (·.1) ∧ SubL keep nx)
    (done : ∀ m nx h tk, J m nx → Fr h₀ env.locals h m → News h₀ env.locals h nx → Q .next { s with heap := h, toks := tk }) :
    ∀ (vs : List Value), (∀ v ∈ vs, ∀ m nx h tk oI, oI.cls = .type "tuple_iterator" → J m nx → Fr h₀ env.locals h m → News h₀ env.locals h ((I, oI) :: nx) →
      wpAny (model prog w) A (assign target env v) (fun _ s₂ => wpAny (model prog w) A (execs body env) (TurnEndJ h₀ env.locals s (I, oI) J Q) E s₂) E { s with heap := h, toks := tk }) →
      ∀ m nx, J m nx → ItemsRest prog w A E h₀ env target body Q s [(I, "tuple_iterator")] keep (vs.map .val) m nx := by
  intro vs
  induction vs with
  | nil => intro _ m nx hJ; exact ItemsRest.zero fun h tk F N => done m nx h tk hJ F N
  | cons v r ih =>
    intro turn m nx hJ
    refine ItemsRest.val fun h tk F => ?_
    intro oI hc
    show News h₀ env.locals h ((I, oI) :: nx) → _
    intro N
    refine wpAny_mono (turn v (.head _) m nx h tk oI hc hJ F N) (fun _ s₂ h₂ => wpAny_mono h₂ (fun f s₃ h₃ => ?_) fun _ _ e => e) fun _ _ e => e
    have fin : (∃ h' tk' m' nx', s₃ = { s with heap := h', toks := tk' } ∧ Fr h₀ env.locals h' m' ∧ News h₀ env.locals h' ((I, oI) :: nx') ∧ J m' nx') →
        UnrEndW h₀ env.locals { s with heap := h, toks := tk } [(I, oI)] (fun m' n' => SubL keep n' ∧ ItemsRest prog w A E h₀ env target body Q s [(I, "tuple_iterator")] keep (r.map .val) m' n') s₃ := by
      rintro ⟨h', tk', m', nx', rfl, F', N', hJ'⟩
      have ha := hadr m' nx' hJ'
      refine ⟨h', tk', m', nx', rfl, F', N', ?_, ha.2, ih (fun v hv => turn v (.tail _ hv)) m' nx' hJ'⟩
      intro p hp q hq
      rw [List.mem_singleton.mp hq]
      have : p.1 ∈ news.map (·.1) := ha.1 ▸ List.mem_map_of_mem hp
      obtain ⟨z, hz, e⟩ := List.mem_map.mp this
      rw [← e]
      exact Nat.ne_of_lt (hI z hz)
    cases f with
    | ret v => exact h₃
    | brk => exact h₃
    | next => exact fin h₃
    | cont => exact fin h₃
theorem tupJ {ax : Addr} {lo : Obj} {vs : List Value} {n : Nat} {m₀ : Str → Option Value} {news : List (Addr × Obj)} (J : (Str → Option Value) → List (Addr × Obj) → (Str → Option Value) → List (Addr × Obj) → Prop)
    (hh : A.handled = none) (F : Fr h₀ env.locals s.heap m₀) (N : News h₀ env.locals s.heap news) (hm : (ax, lo) ∈ news) (hc : lo.cls = .type "tuple") (hd : lo.data = .seq vs.toArray n) (hJ : J m₀ news m₀ news)
    (hadr : ∀ m nx, J m₀ news m nx → nx.map (·.1) = news.map (·.1) ∧ SubL [(ax, lo)] nx)
    (turn : ∀ I, (∀ p ∈ news, p.1 < I) → ∀ v ∈ vs, ∀ m nx h tk oI, oI.cls = .type "tuple_iterator" → J m₀ news m nx → Fr h₀ env.locals h m → News h₀ env.locals h ((I, oI) :: nx) →
      wpAny (model prog w) A (assign target env v) (fun _ s₂ => wpAny (model prog w) A (execs body env) (TurnEndJ h₀ env.locals s (I, oI) (J m₀ news) Q) E s₂) E { s with heap := h, toks := tk })
    (done : ∀ m nx h tk, J m₀ news m nx → Fr h₀ env.locals h m → News h₀ env.locals h nx → Q .next { s with heap := h, toks := tk }) :
    wpAny (model prog w) A (pyIter (.ref ax)) (fun it s₂ => TurnsAt prog w A h₀ env target body Q E it s₂) E s :=
  iter_tupTurns hh F N hm hc hd fun I hI => itemsJ (J m₀ news) hI hadr done vs (turn I hI) m₀ news hJ
end

def SrcTup (prog : Program) (w : World) (A : Around) (h₀ : Heap) (L : Addr) (m : Str → Option Value) (env : Env) (ct elt : Expr) (x : Str) (scope : Scope) (cl : List (Str × Addr)) (Q : Value → Shared → Prop) (xv : Value) (s₁ : Shared) : Prop :=
  ∃ (ax : Addr) (o : Obj) (its : Array Value) (news : List (Addr × Obj)), xv = .ref ax ∧ A.handled = none ∧ Fr h₀ L s₁.heap m ∧ News h₀ L s₁.heap news ∧ (ax, o) ∈ news ∧ o.cls = .type "tuple" ∧ (∃ n, o.data = .seq its n) ∧ its.size ≤ sizeLine ∧
    ∀ g, LCt.CompRestT prog w A h₀ L m env ct elt x scope cl { s₁ with heap := g } (fun nw => (ax, o) ∈ nw) (fun i v => its[i]? = some v) (LCg.FinE h₀ L m { s₁ with heap := g } Q) its.size 0 [] news
section
variable {prog : Program} {w : World} {A : Around} {E : Value → Shared → Prop} {s : Shared} {h₀ : Heap} {L : Addr} {m : Str → Option Value} {env : Env}
theorem SrcTup.intro {ct elt : Expr} {x : Str} {scope : Scope} {cl : List (Str × Addr)} {Q : Value → Shared → Prop} {ax : Addr} {o : Obj} {its : List Value} {n : Nat} {news : List (Addr × Obj)} {s₁ : Shared} (hh : A.handled = none) (F : Fr h₀ L s₁.heap m) (N : News h₀ L s₁.heap news) (hm : (ax, o) ∈ news) (hc : o.cls = .type "tuple") (hd : o.data = .seq its.toArray n) (hz : its.length ≤ 1000)
    (h : ∀ g, LCt.CompRestT prog w A h₀ L m env ct elt x scope cl { s₁ with heap := g } (fun nw => (ax, o) ∈ nw) (fun i v => its.toArray[i]? = some v) (LCg.FinE h₀ L m { s₁ with heap := g } Q) its.length 0 [] news) : SrcTup prog w A h₀ L m env ct elt x scope cl Q (.ref ax) s₁ :=
  ⟨ax, o, its.toArray, news, rfl, hh, F, N, hm, hc, ⟨n, hd⟩, by rw [List.size_toArray]; exact Nat.le_trans hz (by decide), fun g => by rw [List.size_toArray]; exact h g⟩
theorem compTup {ct elt iter : Expr} {x : Str} {px : Pos} {scope : Scope} {cl : List (Str × Addr)} {pos : Pos} {Q : Value → Shared → Prop}
    (_F₀ : Fr h₀ L s.heap m) (hclos : closureFor scope env = pure cl) (hcell : ∀ y ∈ scope.names, y.2 ≠ .cell) (hkind : scope.kind = .function)
    (hnames : ∀ y ∈ scope.names, y.2 = .local → scope.names.lookup y.1 = some .local) (hx : scope.names.lookup x = some .local)
    (h : wpAny (model prog w) A (eval iter env) (SrcTup prog w A h₀ L m env ct elt x scope cl Q) E s)
    (hs : ∀ x, foldedSetIterable iter env x = pure x := by intro _; rfl) :
    wpAny (model prog w) A (eval (.ListComp elt [⟨.Name x px, iter, [ct], 0⟩] scope pos) env) Q E s := by
  rw [eval_ListComp]
  refine wpAny_comprehension_free (use := none) rfl hs hclos hkind hnames (wpAny_mono h (fun xv s₁ h₁ => ?_) fun _ _ e => e)
  obtain ⟨ax, o, its, news, rfl, hh, F, N, hm, hc, ⟨nn, hd⟩, hsz, R⟩ := h₁
  have hl : s₁.heap.IsTuple ax its := ⟨o, (N _ hm).1, hc, nn, hd⟩
  have hlt : ax < s₁.heap.objs.size := Heap.lt_size (N _ hm).1
  refine wpAny_pyIter_tuple hl ?_
  refine LCt.block_T (S := fun nw => (ax, o) ∈ nw) (Walks.tuple hh s₁.heap.objs.size ax (Nat.ne_of_lt hlt) its) hsz (fun i h st => by obtain ⟨o', e, _⟩ := st.1; exact ⟨o', e⟩) ?_ hcell hkind hx ?_ (fun b hb => ?_)
    (F.keeps fun _ _ e => Heap.get?_push_of_some _ e) (N.grown fun _ _ e => Heap.get?_push_of_some _ e) (Nat.ne_of_lt F.ns.lt) (next_is_new F) (fun p hp => Nat.ne_of_lt (Heap.lt_size (N p hp).1)) hm (R _) ?_
  · intro i h h' o' nw st e1 e2 _ Nw hS
    refine ⟨?_, o, (Nw _ hS).1, hc, nn, hd⟩
    obtain ⟨o2, e3, r⟩ := st.1
    rw [e1] at e3
    cases e3
    exact ⟨o', e2, r⟩
  · exact ⟨⟨_, Heap.get?_push_size _ rfl, rfl, rfl⟩, hl.at fun o e => Heap.get?_push_of_some _ e⟩
  · show b < (s₁.heap.push _).objs.size
    rw [Heap.size_push]
    rcases List.mem_cons.mp hb with rfl | hb
    · exact Nat.lt_succ_self _
    · rw [List.mem_singleton.mp hb]; exact Nat.lt_succ_of_lt hlt
  · intro D C h tk m' ys news' F' N' o1 hn hC₀ hD₀ hCL hDL hCD offC fin
    refine ⟨m', hn, fun h'' hs'' => fin D h'' tk (F'.change hs'' hCL hC₀) (fun p hp => ?_) o1⟩
    refine ⟨hs''.extBut _ _ ?_ (N' p hp).1, (N' p hp).2⟩
    rcases List.mem_cons.mp hp with rfl | hp
    · exact Ne.symm hCD
    · exact offC p hp
end
section
variable {prog : Program} {w : World} {A : Around} {E : Value → Shared → Prop} {s : Shared} {env : Env} {h₀ : Heap} {x : Str} {body : List Stmt} {Q : Flow → Shared → Prop}
theorem rangeLoop {r : Addr} {a b c : Int} {t u v : Tok} {n : Nat} {m₀ : Str → Option Value} {news : List (Addr × Obj)} (J : (Str → Option Value) → Nat → (Str → Option Value) → Prop)
    (hh : A.handled = none) (hr : IsRange s.heap r a b c t u v) (hsmall : Builtin.Range.small a b c = true) (hn : Builtin.Range.rangeSize a b c = (n : Int)) (F : Fr h₀ env.locals s.heap m₀) (N : News h₀ env.locals s.heap news) (hj : J m₀ 0 m₀)
    (turn : ∀ i t m₁ h tk own, i < n → J m₀ i m₁ → Fr h₀ env.locals h (fun y => if y = x then some (.int (a + (i : Nat) * c) t) else m₁ y) → News h₀ env.locals h (news ++ own) →
      wpAny (model prog w) A (execs body env) (TurnEnd h₀ env.locals s (news ++ own) (J m₀ (i + 1)) Q) E { s with heap := h, toks := tk })
    (done : ∀ m₁ h tk, J m₀ n m₁ → Fr h₀ env.locals h m₁ → News h₀ env.locals h news → Q .next { s with heap := h, toks := tk }) :
    wpAny (model prog w) A (pyIter (.ref r)) (fun it s₂ => LoopAtV prog w A h₀ env x body Q E it s₂) E s := by
  refine wpAny_pyIter_range hr hsmall ?_
  refine loopFix (s := { s with heap := s.heap.push _ }) (fun i m => J m₀ i m) (Walks.range hh _ a c n) ?_ ?_ ?_ ?_ ?_ (F.push _) (fun p hp => ⟨Heap.get?_push_of_some _ (N p hp).1, (N p hp).2⟩) hj ?_ ?_
  · intro hm
    exact absurd F.ns.lt ((List.mem_singleton.mp hm) ▸ Nat.lt_irrefl _)
  · intro b' hb
    rw [List.mem_singleton.mp hb]
    exact next_is_new F
  · intro p hp hI
    exact absurd (Heap.lt_size (N p hp).1) ((List.mem_singleton.mp hI) ▸ Nat.lt_irrefl _)
  · intro p hp hI
    exact absurd (Heap.lt_size (N p hp).1) ((List.mem_singleton.mp hI) ▸ Nat.lt_irrefl _)
  · show IsRangeIter _ _ _ _ _
    rw [hn]; simpa using Heap.get?_push_size _ rfl
  · rintro i v m₁ h tk own hi ⟨t, rfl⟩ hJ F₁ N₁
    exact turn i t m₁ h tk own hi hJ F₁ N₁
  · intro m₁ h tk hJ F₁ N₁
    exact done m₁ h tk hJ F₁ N₁
end
end Mine
end

section
open PySem PySem.W PyProof.Rows PySem.Calls PySem.SeqAt PySem.Builtin.Str PySem.StrLaws
namespace Mine
/-- u is t with every a (from the left, none within another) replaced by b -/
inductive Rep (a b : List Nat) : List Nat → List Nat → Prop
  | nil : Rep a b [] []
  | hit {t t' : List Nat} : Rep a b t t' → Rep a b (a ++ t) (b ++ t')
  | miss {c : Nat} {t t' : List Nat} : ¬ a <+: (c :: t) → Rep a b t t' → Rep a b (c :: t) (c :: t')

theorem Rep.unique {a b : List Nat} (ha : a ≠ []) : ∀ {t u v : List Nat}, Rep a b t u → Rep a b t v → u = v := by
  intro t u v h
  induction h generalizing v with
  | nil =>
    intro h2
    generalize e : ([] : List Nat) = x at h2
    cases h2 with
    | nil => rfl
    | hit h => exact absurd (List.append_eq_nil_iff.mp e.symm).1 ha
    | miss _ _ => cases e
  | @hit t t' h ih =>
    intro h2
    generalize e : a ++ t = x at h2
    cases h2 with
    | nil => exact absurd (List.append_eq_nil_iff.mp e).1 ha
    | @hit t2 t2' h2 =>
      have : t = t2 := List.append_cancel_left e
      subst this
      rw [ih h2]
    | miss hn _ => exact absurd (e ▸ List.prefix_append a t) hn
  | @miss c t t' hn h ih =>
    intro h2
    generalize e : c :: t = x at h2
    cases h2 with
    | nil => cases e
    | hit h2 => exact absurd (e ▸ List.prefix_append a _) hn
    | miss _ h2 => cases e; rw [ih h2]

theorem Rep.same {a b : List Nat} : ∀ (t : List Nat), (∀ k, ¬ a <+: t.drop k ∨ t.length ≤ k) → Rep a b t t
  | [], _ => .nil
  | c :: t, h => by
    refine .miss ?_ (Rep.same t fun k => ?_)
    · rcases h 0 with h | h
      · simpa using h
      · simp at h
    · rcases h (k + 1) with h | h
      · exact .inl (by simpa using h)
      · exact .inr (by simp at h; omega)
theorem Rep.skip {a b : List Nat} : ∀ (n : Nat) (t u : List Nat), (∀ k, k < n → ¬ a <+: t.drop k) → n ≤ t.length → Rep a b (t.drop n) u → Rep a b t (t.take n ++ u)
  | 0, t, u, _, _, h => by simpa using h
  | n + 1, [], u, _, hl, _ => by simp at hl
  | n + 1, c :: t, u, hn, hl, h => by
    have h0 := hn 0 (by omega)
    refine .miss (by simpa using h0) (Rep.skip n t u (fun k hk => by simpa using hn (k + 1) (by omega)) (by simpa using hl) (by simpa using h))

theorem at_iff (x y : Str) (i : Nat) (hy : 1 ≤ y.length) : At x y x.length i ↔ y.cps.toList <+: x.cps.toList.drop i := by
  unfold At
  rw [subAt_eq, beq_iff_eq]
  have hx : x.cps.toList.length = x.length := by simp [Str.length]
  have hyl : y.cps.toList.length = y.length := by simp [Str.length]
  constructor
  · rintro ⟨h1, h2⟩
    rw [← h2]
    exact List.take_prefix _ _
  · intro h
    have hl := h.length_le
    rw [List.length_drop, hx, hyl] at hl
    refine ⟨by omega, ?_⟩
    have := List.prefix_iff_eq_take.mp h
    rw [hyl] at this
    exact this.symm

theorem join_cons2 (z p : Str) (q : List Str) (hq : q ≠ []) : (Str.join z (p :: q)).cps.toList = p.cps.toList ++ z.cps.toList ++ (Str.join z q).cps.toList := by
  cases q with
  | nil => exact absurd rfl hq
  | cons q r =>
    show (p ++ z ++ Str.join z (q :: r)).cps.toList = _
    simp only [Str.cps_append, Array.toList_append]

theorem rep_parts (x y z : Str) (hy : 1 ≤ y.length) : ∀ (cuts : List Nat) (a f : Nat), ChainG x y x.length a cuts f → (∀ k, f ≤ k → ¬ At x y x.length k) → a ≤ x.length →
    Rep y.cps.toList z.cps.toList (x.cps.toList.drop a) (Str.join z (partsFrom x y.length a cuts)).cps.toList
  | [], a, f, h, hn, ha => by
    have e : f = a := h
    subst e
    show Rep _ _ _ (strSub x f x.length).cps.toList
    rw [strSub_toList]
    have hx : x.cps.toList.length = x.length := by simp [Str.length]
    rw [List.take_of_length_le (by rw [List.length_drop, hx]; omega)]
    refine Rep.same _ fun k => ?_
    left
    rw [List.drop_drop]
    exact fun hp => hn (f + k) (by omega) ((at_iff x y (f + k) hy).mpr hp)
  | c :: r, a, f, h, hn, ha => by
    obtain ⟨hac, hA, hno, hr⟩ := h
    have hx : x.cps.toList.length = x.length := by simp [Str.length]
    have hc := hA.1
    have ih := rep_parts x y z hy r (c + y.length) f hr hn (by omega)
    have hp := (at_iff x y c hy).mp hA
    obtain ⟨t, ht⟩ := hp
    have htd : t = x.cps.toList.drop (c + y.length) := by
      have hyl : y.cps.toList.length = y.length := by simp [Str.length]
      rw [← List.drop_drop, ← ht, ← hyl, List.drop_left]
    obtain ⟨p, q, e⟩ := partsFrom_ne x y.length (c + y.length) r
    have hq : partsFrom x y.length (c + y.length) r ≠ [] := by rw [e]; exact List.cons_ne_nil _ _
    show Rep _ _ _ (Str.join z (strSub x a c :: partsFrom x y.length (c + y.length) r)).cps.toList
    rw [join_cons2 _ _ _ hq, strSub_toList, List.append_assoc]
    refine Rep.skip (c - a) _ _ (fun k hk => ?_) (by rw [List.length_drop, hx]; omega) ?_
    · rw [List.drop_drop]
      exact fun hp => hno (a + k) (by omega) (by omega) ((at_iff x y (a + k) hy).mpr hp)
    · rw [List.drop_drop, show a + (c - a) = c from by omega, ← ht, htd]
      exact .hit ih

theorem kind_le {x y : Str} (h : ∀ c ∈ y.cps.toList, c ∈ x.cps.toList) : Builtin.Str.strKind y ≤ Builtin.Str.strKind x := by
  have hall : ∀ B : Nat, x.cps.all (· < B) = true → y.cps.all (· < B) = true := fun B hB => by
    rw [← Array.all_toList] at hB ⊢
    exact List.all_eq_true.mpr fun c hc => List.all_eq_true.mp hB c (h c hc)
  unfold Builtin.Str.strKind
  by_cases a1 : x.cps.all (· < 256) = true
  · rw [if_pos a1, if_pos (hall _ a1)]; exact Nat.le_refl _
  · rw [if_neg a1]
    by_cases a2 : x.cps.all (· < 65536) = true
    · rw [if_pos a2]
      split
      · omega
      · rw [if_pos (hall _ a2)]; exact Nat.le_refl _
    · rw [if_neg a2]
      split
      · omega
      · split <;> omega

theorem rep_one (x y z : Str) (hy : 1 ≤ y.length) : Rep y.cps.toList z.cps.toList x.cps.toList (replOne x y z).cps.toList := by
  have hx : x.cps.toList.length = x.length := by simp [Str.length]
  have hyl : y.cps.toList.length = y.length := by simp [Str.length]
  obtain ⟨f, hch, hno⟩ := occ_tight x y hy
  unfold replOne Txt.join
  rw [glued_eq_join]
  unfold Txt.split
  split
  · next h =>
    refine Rep.same _ fun k => .inl fun hp => ?_
    simp only [Bool.or_eq_true, decide_eq_true_eq] at h
    rcases h with h | h
    · have := hp.length_le
      rw [List.length_drop, hx, hyl] at this
      omega
    · have := kind_le (x := x) (y := y) fun c hc => List.mem_of_mem_drop (hp.subset hc)
      omega
  · split
    · next h =>
      have he : occurrences x y 0 x.length (x.length + 1) = [] := List.isEmpty_iff.mp h
      rw [he] at hch
      have e : f = 0 := hch
      subst e
      refine Rep.same _ fun k => .inl fun hp => ?_
      exact hno k (Nat.zero_le _) ((at_iff x y k hy).mpr hp)
    · rw [partsBetween_eq]
      have := rep_parts x y z hy _ 0 f hch hno (Nat.zero_le _)
      simpa using this

theorem repl_eq {x y z u : Str} (hy : 1 ≤ y.length) (h : Rep y.cps.toList z.cps.toList x.cps.toList u.cps.toList) : replOne x y z = u := by
  have hne : y.cps.toList ≠ [] := by
    intro e
    have : y.cps.toList.length = y.length := by simp [Str.length]
    rw [e] at this
    simp at this
    omega
  exact Str.ext' (Array.toList_inj.mp (Rep.unique hne (rep_one x y z hy) h))
end Mine
end

section
open PySem PySem.W PyProof.Rows PySem.Calls PySem.SeqAt PySem.Builtin.Str PySem.StrLaws
namespace Mine
/-- one sign for a text -/
def sub1 (c : Nat) (b : List Nat) (d : Nat) : List Nat := if d = c then b else [d]
theorem rep_sign (c : Nat) (b : List Nat) : ∀ (t : List Nat), Rep [c] b t (t.flatMap (sub1 c b))
  | [] => .nil
  | d :: t => by
    have ih := rep_sign c b t
    rw [List.flatMap_cons]
    unfold sub1
    by_cases h : d = c
    · rw [if_pos h, h]
      exact Rep.hit (a := [c]) ih
    · rw [if_neg h]
      refine .miss (fun hp => h ?_) ih
      have := List.prefix_iff_eq_take.mp hp
      simp at this
      exact this.symm
theorem sub1_free {c : Nat} {b : List Nat} : ∀ {t : List Nat}, c ∉ t → t.flatMap (sub1 c b) = t
  | [], _ => rfl
  | d :: t, h => by
    rw [List.flatMap_cons, sub1_free (fun m => h (.tail _ m))]
    unfold sub1
    have hd : ¬ d = c := fun e => h (e ▸ List.Mem.head _)
    rw [if_neg hd]
    rfl
theorem sub1_self (c : Nat) (b : List Nat) : sub1 c b c = b := if_pos rfl
theorem sub1_ne {c d : Nat} (b : List Nat) (h : d ≠ c) : sub1 c b d = [d] := if_neg h

/-- signs none of which opens the pattern are passed over -/
theorem rep_pass {e : Nat} {K b : List Nat} {u v : List Nat} : ∀ (r : List Nat), e ∉ r → Rep (e :: K) b u v → Rep (e :: K) b (r ++ u) (r ++ v)
  | [], _, h => h
  | c :: r, hn, h => by
    refine .miss (fun hp => hn ?_) (rep_pass r (fun m => hn (.tail _ m)) h)
    have := List.prefix_iff_eq_take.mp hp
    simp at this
    rw [this.1]
    exact .head _
/-- a block: hit at its head, or passed over -/
inductive Blk (e : Nat) (K b : List Nat) : List Nat → List Nat → Prop
  | hit {r : List Nat} : e ∉ r → Blk e K b (e :: K ++ r) (b ++ r)
  | other {r : List Nat} : e ∉ r → (∀ u, ¬ K <+: r ++ u) → Blk e K b (e :: r) (e :: r)
  | free {r : List Nat} : e ∉ r → Blk e K b r r
theorem rep_blocks {e : Nat} {K b : List Nat} {f g : Nat → List Nat} : ∀ (l : List Nat), (∀ d ∈ l, Blk e K b (f d) (g d)) → Rep (e :: K) b (l.flatMap f) (l.flatMap g)
  | [], _ => .nil
  | d :: l, h => by
    have ih := rep_blocks (e := e) (K := K) (b := b) (f := f) (g := g) l fun x hx => h x (.tail _ hx)
    rw [List.flatMap_cons, List.flatMap_cons]
    have hd := h d (.head _)
    generalize f d = fd at hd
    generalize g d = gd at hd
    cases hd with
    | hit hr =>
      rw [List.append_assoc, List.append_assoc]
      exact Rep.hit (rep_pass _ hr ih)
    | other hr hn =>
      refine .miss (fun hp => ?_) (rep_pass _ hr ih)
      have := (List.cons_prefix_cons.mp hp).2
      exact hn _ this
    | free hr => exact rep_pass _ hr ih

/-- codes: a body and the end sign -/
structure Codes (k : Nat → List Nat) : Prop where
  body : ∀ j, j < 4 → ∃ b, k j = b ++ [59] ∧ 59 ∉ b
  diff : ∀ i j, i < 4 → j < 4 → k i = k j → i = j
theorem end_prefix {b b' u : List Nat} (hb : 59 ∉ b) (hb' : 59 ∉ b') (h : (b ++ [59]) <+: (b' ++ [59]) ++ u) : b = b' := by
  induction b generalizing b' with
  | nil =>
    cases b' with
    | nil => rfl
    | cons c r =>
      have := (List.cons_prefix_cons.mp h).1
      exact absurd (this ▸ List.Mem.head _) hb'
  | cons c r ih =>
    cases b' with
    | nil =>
      have := (List.cons_prefix_cons.mp h).1
      exact absurd (this ▸ List.Mem.head _) hb
    | cons c' r' =>
      obtain ⟨e, h2⟩ := List.cons_prefix_cons.mp h
      rw [e, ih (fun m => hb (.tail _ m)) (fun m => hb' (.tail _ m)) h2]
theorem Codes.apart {k : Nat → List Nat} (C : Codes k) {i j : Nat} (hi : i < 4) (hj : j < 4) (hij : i ≠ j) (u : List Nat) : ¬ k j <+: k i ++ u := by
  intro h
  obtain ⟨b, eb, hb⟩ := C.body j hj
  obtain ⟨b', eb', hb'⟩ := C.body i hi
  rw [eb, eb'] at h
  have := end_prefix hb hb' h
  exact hij (C.diff i j hi hj (by rw [eb, eb', this]))
end Mine
end

section
open PySem PySem.W PyProof.Rows PySem.Calls PySem.SeqAt PySem.Builtin.Str PySem.StrLaws
namespace Mine
/-- four signs and four codes -/
structure Sch (a : Nat → Nat) (k : Nat → List Nat) : Prop where
  codes : Codes k
  dist : ∀ i j, i < 4 → j < 4 → a i = a j → i = j
  free : ∀ i j, i < 4 → j < 4 → a i ∉ k j
  short : ∀ j, j < 4 → (k j).length ≤ 4

def rp (k : Nat → List Nat) (n : Nat) : List Nat := (List.replicate n (k 0)).flatten
theorem rp_succ (k : Nat → List Nat) (n : Nat) : rp k (n + 1) = k 0 ++ rp k n := by unfold rp; rw [List.replicate_succ, List.flatten_cons]
theorem rp_zero (k : Nat → List Nat) : rp k 0 = [] := rfl
def blk (a : Nat → Nat) (k : Nat → List Nat) (p n j : Nat) : List Nat := if j ≤ p then a 0 :: (rp k n ++ k j) else if n = 0 then [a j] else a 0 :: (rp k (n - 1) ++ k j)
def encL (a : Nat → Nat) (k : Nat → List Nat) (p n d : Nat) : List Nat :=
  if d = a 0 then a 0 :: rp k n else if d = a 1 then blk a k p n 1 else if d = a 2 then blk a k p n 2 else if d = a 3 then blk a k p n 3 else [d]
def fwdL (a : Nat → Nat) (k : Nat → List Nat) (p n d : Nat) : List Nat := if n = 0 then [d] else encL a k p n d

section
variable {a : Nat → Nat} {k : Nat → List Nat} (H : Sch a k)
include H
theorem rp_free (i : Nat) (hi : i < 4) : ∀ n, a i ∉ rp k n
  | 0 => by simp [rp_zero]
  | n + 1 => by
    rw [rp_succ]
    intro h
    rcases List.mem_append.mp h with h | h
    · exact H.free i 0 hi (by decide) h
    · exact rp_free i hi n h
theorem rp_len : ∀ n, (rp k n).length ≤ 4 * n
  | 0 => by simp [rp_zero]
  | n + 1 => by
    rw [rp_succ, List.length_append]
    have h1 := H.short 0 (by decide)
    have h2 := rp_len n
    omega
theorem rpk_free (i j n : Nat) (hi : i < 4) (hj : j < 4) : a i ∉ rp k n ++ k j := by
  intro h
  rcases List.mem_append.mp h with h | h
  · exact rp_free H i hi n h
  · exact H.free i j hi hj h
theorem ne_of (i j : Nat) (hi : i < 4) (hj : j < 4) (hij : i ≠ j) : a i ≠ a j := fun e => hij (H.dist i j hi hj e)
theorem blk_len (p n j : Nat) (hj : j < 4) (hn : n ≤ 3) : (blk a k p n j).length ≤ 17 := by
  unfold blk
  have h1 := H.short j hj
  have h2 := rp_len H n
  have h3 := rp_len H (n - 1)
  split
  · simp only [List.length_cons, List.length_append]; omega
  · split
    · simp
    · simp only [List.length_cons, List.length_append]; omega
theorem encL_len (p n d : Nat) (hn : n ≤ 3) : (encL a k p n d).length ≤ 17 := by
  unfold encL
  have h2 := rp_len H n
  split
  · simp only [List.length_cons]; omega
  · split
    · exact blk_len H p n 1 (by decide) hn
    · split
      · exact blk_len H p n 2 (by decide) hn
      · split
        · exact blk_len H p n 3 (by decide) hn
        · simp

-- what the four pairs make of one sign
def Sg (a : Nat → Nat) (k : Nat → List Nat) (j : Nat) : Nat → List Nat := sub1 (a j) (a 0 :: k j)
omit H in
theorem Sg_def (j : Nat) : Sg a k j = sub1 (a j) (a 0 :: k j) := rfl
theorem s_head (j : Nat) (hj : j < 4) (h0 : j ≠ 0) {r : List Nat} (hr : ∀ i, i < 4 → a i ∉ r) : (a 0 :: r).flatMap (Sg a k j) = a 0 :: r := by
  refine sub1_free fun h => ?_
  rcases List.mem_cons.mp h with h | h
  · exact ne_of H j 0 hj (by decide) h0 h
  · exact hr j hj h
theorem s_esc {r : List Nat} (hr : ∀ i, i < 4 → a i ∉ r) : (a 0 :: r).flatMap (Sg a k 0) = a 0 :: (k 0 ++ r) := by
  rw [List.flatMap_cons, Sg_def, sub1_self, sub1_free (hr 0 (by decide))]; rfl
omit H in
theorem s_own (j : Nat) : [a j].flatMap (Sg a k j) = a 0 :: k j := by
  rw [List.flatMap_cons, Sg_def, sub1_self]; simp
theorem s_one (i j : Nat) (hi : i < 4) (hj : j < 4) (hij : i ≠ j) : [a i].flatMap (Sg a k j) = [a i] :=
  sub1_free fun h => ne_of H j i hj hi (Ne.symm hij) (List.mem_singleton.mp h)
omit H in
theorem s_oth {d j : Nat} (h : d ≠ a j) : [d].flatMap (Sg a k j) = [d] := sub1_free fun m => h (List.mem_singleton.mp m).symm

def ord : Nat → List Nat
  | 0 => [0, 1, 2, 3]
  | 1 => [1, 0, 2, 3]
  | 2 => [1, 2, 0, 3]
  | _ => [1, 2, 3, 0]
def runS (a : Nat → Nat) (k : Nat → List Nat) : List Nat → List Nat → List Nat
  | [], t => t
  | j :: r, t => runS a k r (t.flatMap (Sg a k j))
omit H in
theorem runS_flat (o : List Nat) : ∀ (l : List Nat) (f : Nat → List Nat), runS a k o (l.flatMap f) = l.flatMap fun d => runS a k o (f d) := by
  induction o with
  | nil => intro l f; rfl
  | cons j r ih =>
    intro l f
    show runS a k r ((l.flatMap f).flatMap (Sg a k j)) = _
    rw [List.flatMap_assoc, ih]
    rfl
theorem run_head {p : Nat} (hp : p < 4) {r : List Nat} (hr : ∀ i, i < 4 → a i ∉ r) : runS a k (ord p) (a 0 :: r) = a 0 :: (k 0 ++ r) := by
  have hr' : ∀ i, i < 4 → a i ∉ k 0 ++ r := fun i hi h => (List.mem_append.mp h).elim (H.free i 0 hi (by decide)) (hr i hi)
  have e1 := s_head H 1 (by decide) (by decide) hr
  have e2 := s_head H 2 (by decide) (by decide) hr
  have e3 := s_head H 3 (by decide) (by decide) hr
  have e0 := s_esc H hr
  have f1 := s_head H 1 (by decide) (by decide) hr'
  have f2 := s_head H 2 (by decide) (by decide) hr'
  have f3 := s_head H 3 (by decide) (by decide) hr'
  have hp' : p = 0 ∨ p = 1 ∨ p = 2 ∨ p = 3 := by omega
  rcases hp' with rfl | rfl | rfl | rfl <;> simp only [ord, runS, e0, e1, e2, e3, f1, f2, f3]
theorem run_sign {p j : Nat} (hp : p < 4) (hj : j < 4) : runS a k (ord p) [a j] = encL a k p 1 (a j) := by
  have kf : ∀ j, j < 4 → ∀ i, i < 4 → a i ∉ k j := fun j hj i hi => H.free i j hi hj
  have hp' : p = 0 ∨ p = 1 ∨ p = 2 ∨ p = 3 := by omega
  have hj' : j = 0 ∨ j = 1 ∨ j = 2 ∨ j = 3 := by omega
  have n10 := ne_of H 1 0 (by decide) (by decide) (by decide)
  have n20 := ne_of H 2 0 (by decide) (by decide) (by decide)
  have n30 := ne_of H 3 0 (by decide) (by decide) (by decide)
  have n21 := ne_of H 2 1 (by decide) (by decide) (by decide)
  have n31 := ne_of H 3 1 (by decide) (by decide) (by decide)
  have n32 := ne_of H 3 2 (by decide) (by decide) (by decide)
  have hd : ∀ j i, i < 4 → i ≠ 0 → j < 4 → (a 0 :: k j).flatMap (Sg a k i) = a 0 :: k j := fun j i hi h0 hj => s_head H i hi h0 (kf j hj)
  have he : ∀ j, j < 4 → (a 0 :: k j).flatMap (Sg a k 0) = a 0 :: (k 0 ++ k j) := fun j hj => s_esc H (kf j hj)
  have hf : ∀ j i, i < 4 → i ≠ 0 → j < 4 → (a 0 :: (k 0 ++ k j)).flatMap (Sg a k i) = a 0 :: (k 0 ++ k j) := fun j i hi h0 hj => s_head H i hi h0 fun i hi h => (List.mem_append.mp h).elim (kf 0 (by decide) i hi) (kf j hj i hi)
  have ho : ∀ i j, i < 4 → j < 4 → i ≠ j → [a i].flatMap (Sg a k j) = [a i] := s_one H
  have rp1 : rp k 1 = k 0 := by rw [rp_succ, rp_zero, List.append_nil]
  have hw : ∀ j, [a j].flatMap (Sg a k j) = a 0 :: k j := fun j => s_own j
  have so : ∀ j, Sg a k j (a j) = a 0 :: k j := fun j => sub1_self _ _
  have sn : ∀ i j, i < 4 → j < 4 → i ≠ j → Sg a k j (a i) = [a i] := fun i j hi hj hij => sub1_ne _ (ne_of H i j hi hj hij)
  rcases hp' with rfl | rfl | rfl | rfl <;> rcases hj' with rfl | rfl | rfl | rfl <;>
    simp [ord, runS, encL, blk, rp1, rp_zero, n10, n20, n30, n21, n31, n32, so, sn, hd, he, hf, hw, ho, -List.flatMap_cons, -List.flatMap_singleton]
theorem run_other {p d : Nat} (h : ∀ i, i < 4 → d ≠ a i) : runS a k (ord p) [d] = [d] := by
  have h0 := h 0 (by decide)
  have h1 := h 1 (by decide)
  have h2 := h 2 (by decide)
  have h3 := h 3 (by decide)
  have hp' : p = 0 ∨ p = 1 ∨ p = 2 ∨ ord p = [1, 2, 3, 0] := by
    match p with
    | 0 => exact .inl rfl
    | 1 => exact .inr (.inl rfl)
    | 2 => exact .inr (.inr (.inl rfl))
    | _ + 3 => exact .inr (.inr (.inr rfl))
  rcases hp' with rfl | rfl | rfl | e
  · simp only [ord, runS, s_oth h0, s_oth h1, s_oth h2, s_oth h3]
  · simp only [ord, runS, s_oth h0, s_oth h1, s_oth h2, s_oth h3]
  · simp only [ord, runS, s_oth h0, s_oth h1, s_oth h2, s_oth h3]
  · rw [e]; simp only [runS, s_oth h0, s_oth h1, s_oth h2, s_oth h3]
end
end Mine
end

section
open PySem PySem.W PyProof.Rows PySem.Calls PySem.SeqAt PySem.Builtin.Str PySem.StrLaws
namespace Mine
section
variable {a : Nat → Nat} {k : Nat → List Nat} (H : Sch a k)
include H
theorem cls (d : Nat) : d = a 0 ∨ d = a 1 ∨ d = a 2 ∨ d = a 3 ∨ (∀ i, i < 4 → d ≠ a i) := by
  by_cases h0 : d = a 0
  · exact .inl h0
  by_cases h1 : d = a 1
  · exact .inr (.inl h1)
  by_cases h2 : d = a 2
  · exact .inr (.inr (.inl h2))
  by_cases h3 : d = a 3
  · exact .inr (.inr (.inr (.inl h3)))
  refine .inr (.inr (.inr (.inr fun i hi => ?_)))
  have : i = 0 ∨ i = 1 ∨ i = 2 ∨ i = 3 := by omega
  rcases this with rfl | rfl | rfl | rfl <;> assumption
theorem encL0 (p n : Nat) : encL a k p n (a 0) = a 0 :: rp k n := if_pos rfl
theorem encLj {j : Nat} (p n : Nat) (h1 : 1 ≤ j) (h4 : j < 4) : encL a k p n (a j) = blk a k p n j := by
  have n10 := ne_of H 1 0 (by decide) (by decide) (by decide)
  have n20 := ne_of H 2 0 (by decide) (by decide) (by decide)
  have n30 := ne_of H 3 0 (by decide) (by decide) (by decide)
  have n21 := ne_of H 2 1 (by decide) (by decide) (by decide)
  have n31 := ne_of H 3 1 (by decide) (by decide) (by decide)
  have n32 := ne_of H 3 2 (by decide) (by decide) (by decide)
  have : j = 1 ∨ j = 2 ∨ j = 3 := by omega
  rcases this with rfl | rfl | rfl <;> simp [encL, n10, n20, n30, n21, n31, n32]
theorem encLo {d : Nat} (p n : Nat) (h : ∀ i, i < 4 → d ≠ a i) : encL a k p n d = [d] := by
  simp [encL, h 0 (by decide), h 1 (by decide), h 2 (by decide), h 3 (by decide)]
theorem fwd_sign {p j : Nat} (hp : p < 4) (h1 : 1 ≤ j) (h4 : j < 4) (n : Nat) (hn : n ≠ 0) : runS a k (ord p) (blk a k p n j) = blk a k p (n + 1) j := by
  have _ := h1
  obtain ⟨m, rfl⟩ : ∃ m, n = m + 1 := ⟨n - 1, by omega⟩
  unfold blk
  by_cases hj : j ≤ p
  · simp only [if_pos hj]
    rw [run_head H hp (fun i hi => rpk_free H i j (m + 1) hi h4), rp_succ k (m + 1), List.append_assoc]
  · simp only [if_neg hj, if_neg (Nat.succ_ne_zero m), if_neg (Nat.succ_ne_zero (m + 1)), Nat.add_sub_cancel]
    rw [run_head H hp (fun i hi => rpk_free H i j m hi h4), rp_succ, List.append_assoc]
theorem fwd_step {p : Nat} (hp : p < 4) (n d : Nat) : runS a k (ord p) (fwdL a k p n d) = encL a k p (n + 1) d := by
  unfold fwdL
  by_cases hn : n = 0
  · subst hn
    rw [if_pos rfl]
    rcases cls H d with rfl | rfl | rfl | rfl | h
    · exact run_sign H hp (by decide)
    · exact run_sign H hp (by decide)
    · exact run_sign H hp (by decide)
    · exact run_sign H hp (by decide)
    · rw [run_other H h, encLo H _ _ h]
  · rw [if_neg hn]
    rcases cls H d with rfl | rfl | rfl | rfl | h
    · rw [encL0 H, encL0 H, run_head H hp (fun i hi => rp_free H i hi n), rp_succ]
    · rw [encLj H _ _ (by decide) (by decide), encLj H _ _ (by decide) (by decide)]; exact fwd_sign H hp (by decide) (by decide) n hn
    · rw [encLj H _ _ (by decide) (by decide), encLj H _ _ (by decide) (by decide)]; exact fwd_sign H hp (by decide) (by decide) n hn
    · rw [encLj H _ _ (by decide) (by decide), encLj H _ _ (by decide) (by decide)]; exact fwd_sign H hp (by decide) (by decide) n hn
    · rw [encLo H _ _ h, encLo H _ _ h, run_other H h]
omit H in
theorem len_flat (j : Nat) : ∀ (t : List Nat), t.length ≤ (t.flatMap (Sg a k j)).length
  | [] => Nat.le_refl _
  | d :: t => by
    have := len_flat j t
    rw [List.flatMap_cons, List.length_append, List.length_cons]
    have h1 : 1 ≤ (Sg a k j d).length := by
      unfold Sg sub1
      split <;> simp
    omega
omit H in
theorem len_run (o : List Nat) : ∀ (t : List Nat), t.length ≤ (runS a k o t).length := by
  induction o with
  | nil => intro t; exact Nat.le_refl _
  | cons j r ih => intro t; exact Nat.le_trans (len_flat j t) (ih _)

def PairsOf (a : Nat → Nat) (k : Nat → List Nat) : List Nat → List (Str × Str) → Prop
  | [], [] => True
  | j :: o, q :: ps => j < 4 ∧ q.1.cps.toList = [a j] ∧ q.2.cps.toList = a 0 :: k j ∧ PairsOf a k o ps
  | _, _ => False
omit H in
theorem strlen (x : Str) : x.length = x.cps.toList.length := by simp [Str.length]
theorem runs_of : ∀ (o : List Nat) (ps : List (Str × Str)) (x y : Str), PairsOf a k o ps → y.cps.toList = runS a k o x.cps.toList → y.length ≤ 2048 → Runs x ps y
  | [], [], x, y, _, hy, _ => by
    have : x = y := Str.ext' (Array.toList_inj.mp hy.symm)
    subst this
    exact .nil x
  | [], _ :: _, _, _, h, _, _ => h.elim
  | _ :: _, [], _, _, h, _, _ => h.elim
  | j :: o, (s, t) :: ps, x, y, h, hy, hl => by
    obtain ⟨hj, hs, ht, hr⟩ := h
    dsimp only at hs ht
    have hs1 : s.length = 1 := by rw [strlen, hs]; rfl
    have hlen : x.length ≤ y.length := by rw [strlen x, strlen y, hy]; exact len_run _ _
    have e : replOne x s t = ⟨(x.cps.toList.flatMap (Sg a k j)).toArray⟩ := by
      refine repl_eq (by omega) ?_
      rw [hs, ht]
      exact rep_sign (a j) (a 0 :: k j) x.cps.toList
    refine .cons (by rw [hs1]; rfl) (by omega) ?_ ?_
    · rw [strlen, ht, List.length_cons]
      have := H.short j hj
      omega
    · rw [e]
      exact runs_of o ps _ y hr hy hl

-- the way back
def und (a : Nat → Nat) (k : Nat → List Nat) (p n J d : Nat) : List Nat :=
  if n = 0 ∧ ((d = a 1 ∧ J ≤ 1 ∧ p < 1) ∨ (d = a 2 ∧ J ≤ 2 ∧ p < 2) ∨ (d = a 3 ∧ J ≤ 3 ∧ p < 3)) then [d] else encL a k p (n + 1) d
theorem und_o {d : Nat} (p n J : Nat) (h : ∀ i, i < 4 → d ≠ a i) : und a k p n J d = [d] := by
  unfold und
  split
  · rfl
  · exact encLo H _ _ h
theorem und_0 (p n J : Nat) : und a k p n J (a 0) = a 0 :: (k 0 ++ rp k n) := by
  unfold und
  have n10 := ne_of H 0 1 (by decide) (by decide) (by decide)
  have n20 := ne_of H 0 2 (by decide) (by decide) (by decide)
  have n30 := ne_of H 0 3 (by decide) (by decide) (by decide)
  rw [if_neg (by simp [n10, n20, n30]), encL0 H, rp_succ]
theorem und_j {i : Nat} (p n J : Nat) (h1 : 1 ≤ i) (h4 : i < 4) : und a k p n J (a i) = if n = 0 ∧ J ≤ i ∧ p < i then [a i] else blk a k p (n + 1) i := by
  unfold und
  have n21 := ne_of H 2 1 (by decide) (by decide) (by decide)
  have n31 := ne_of H 3 1 (by decide) (by decide) (by decide)
  have n32 := ne_of H 3 2 (by decide) (by decide) (by decide)
  rw [encLj H p (n + 1) h1 h4]
  have : i = 1 ∨ i = 2 ∨ i = 3 := by omega
  rcases this with rfl | rfl | rfl <;> simp [n21, n31, n32, Ne.symm n21, Ne.symm n31, Ne.symm n32]
theorem blk_open {i : Nat} (p n : Nat) : blk a k p (n + 1) i = a 0 :: ((if i ≤ p then k 0 ++ rp k n else rp k n) ++ k i) := by
  unfold blk
  split
  · rw [rp_succ]
  · rw [if_neg (Nat.succ_ne_zero n)]; rfl
theorem back_j {p n J : Nat} (hJ1 : 1 ≤ J) (hJ4 : J < 4) (d : Nat) : Blk (a 0) (k J) [a J] (und a k p n (J + 1) d) (und a k p n J d) := by
  have apart0 : ∀ r u, ¬ k J <+: (k 0 ++ r) ++ u := fun r u => by rw [List.append_assoc]; exact H.codes.apart (by decide) hJ4 (by omega) _
  have sgn : ∀ i, 1 ≤ i → i < 4 → Blk (a 0) (k J) [a J] (und a k p n (J + 1) (a i)) (und a k p n J (a i)) := by
    intro i h1 h4
    rw [und_j H p n (J + 1) h1 h4, und_j H p n J h1 h4, blk_open H]
    by_cases hip : i ≤ p
    · have c1 : ¬ (n = 0 ∧ J + 1 ≤ i ∧ p < i) := by omega
      have c2 : ¬ (n = 0 ∧ J ≤ i ∧ p < i) := by omega
      simp only [if_neg c1, if_neg c2, if_pos hip]
      refine .other ?_ (fun u => ?_)
      · rw [← rp_succ]
        exact rpk_free H 0 i _ (by decide) h4
      · rw [List.append_assoc, List.append_assoc]
        exact H.codes.apart (by decide) hJ4 (by omega) _
    · by_cases hn : n = 0
      · subst hn
        by_cases hi : i = J
        · subst hi
          have c1 : ¬ (0 = 0 ∧ i + 1 ≤ i ∧ p < i) := by omega
          have c2 : (0 = 0 ∧ i ≤ i ∧ p < i) := by omega
          rw [if_neg c1, if_pos c2, if_neg hip, rp_zero, List.nil_append]
          have := Blk.hit (e := a 0) (K := k i) (b := [a i]) (r := []) (by simp)
          simpa using this
        · by_cases hlt : J < i
          · have c1 : (0 = 0 ∧ J + 1 ≤ i ∧ p < i) := by omega
            have c2 : (0 = 0 ∧ J ≤ i ∧ p < i) := by omega
            rw [if_pos c1, if_pos c2]
            exact .free fun h => ne_of H 0 i (by decide) h4 (by omega) (List.mem_singleton.mp h)
          · have c1 : ¬ (0 = 0 ∧ J + 1 ≤ i ∧ p < i) := by omega
            have c2 : ¬ (0 = 0 ∧ J ≤ i ∧ p < i) := by omega
            rw [if_neg c1, if_neg c2, if_neg hip, rp_zero, List.nil_append]
            exact .other (H.free 0 i (by decide) h4) (fun u => H.codes.apart h4 hJ4 hi u)
      · obtain ⟨m, rfl⟩ : ∃ m, n = m + 1 := ⟨n - 1, by omega⟩
        have c1 : ¬ (m + 1 = 0 ∧ J + 1 ≤ i ∧ p < i) := by omega
        have c2 : ¬ (m + 1 = 0 ∧ J ≤ i ∧ p < i) := by omega
        simp only [if_neg c1, if_neg c2, if_neg hip]
        refine .other (rpk_free H 0 i _ (by decide) h4) (fun u => ?_)
        rw [rp_succ, List.append_assoc, List.append_assoc]
        exact H.codes.apart (by decide) hJ4 (by omega) _
  rcases cls H d with rfl | rfl | rfl | rfl | h
  · rw [und_0 H, und_0 H]
    refine .other ?_ (apart0 _)
    rw [← rp_succ]
    exact rp_free H 0 (by decide) _
  · exact sgn 1 (by decide) (by decide)
  · exact sgn 2 (by decide) (by decide)
  · exact sgn 3 (by decide) (by decide)
  · rw [und_o H _ _ _ h, und_o H _ _ _ h]
    exact .free (by simpa using Ne.symm (h 0 (by decide)))
theorem back_0 {p n : Nat} (d : Nat) : Blk (a 0) (k 0) [a 0] (und a k p n 1 d) (encL a k p n d) := by
  have sgn : ∀ i, 1 ≤ i → i < 4 → Blk (a 0) (k 0) [a 0] (und a k p n 1 (a i)) (encL a k p n (a i)) := by
    intro i h1 h4
    rw [und_j H p n 1 h1 h4, encLj H p n h1 h4, blk_open H]
    by_cases hip : i ≤ p
    · have c1 : ¬ (n = 0 ∧ 1 ≤ i ∧ p < i) := by omega
      unfold blk
      simp only [if_neg c1, if_pos hip]
      rw [List.append_assoc]
      exact Blk.hit (e := a 0) (K := k 0) (b := [a 0]) (rpk_free H 0 i n (by decide) h4)
    · unfold blk
      by_cases hn : n = 0
      · subst hn
        have c1 : (0 = 0 ∧ 1 ≤ i ∧ p < i) := by omega
        rw [if_pos c1, if_neg hip, if_pos rfl]
        exact .free fun h => ne_of H 0 i (by decide) h4 (by omega) (List.mem_singleton.mp h)
      · obtain ⟨m, rfl⟩ : ∃ m, n = m + 1 := ⟨n - 1, by omega⟩
        have c1 : ¬ (m + 1 = 0 ∧ 1 ≤ i ∧ p < i) := by omega
        simp only [if_neg c1, if_neg hip, if_neg hn, Nat.add_sub_cancel]
        rw [rp_succ, List.append_assoc]
        exact Blk.hit (e := a 0) (K := k 0) (b := [a 0]) (rpk_free H 0 i m (by decide) h4)
  rcases cls H d with rfl | rfl | rfl | rfl | h
  · rw [und_0 H, encL0 H]
    exact Blk.hit (e := a 0) (K := k 0) (b := [a 0]) (rp_free H 0 (by decide) n)
  · exact sgn 1 (by decide) (by decide)
  · exact sgn 2 (by decide) (by decide)
  · exact sgn 3 (by decide) (by decide)
  · rw [und_o H _ _ _ h, encLo H _ _ h]
    exact .free (by simpa using Ne.symm (h 0 (by decide)))
theorem und_top (p n d : Nat) : und a k p n 4 d = encL a k p (n + 1) d := by
  unfold und
  rw [if_neg (by omega)]
theorem und_len (p n J d : Nat) (hn : n + 1 ≤ 3) : (und a k p n J d).length ≤ 17 := by
  unfold und
  split
  · simp
  · exact encL_len H p (n + 1) d hn
end
end Mine
end

section
open PySem PySem.W PyProof.Rows PySem.Calls PySem.SeqAt PySem.Builtin.Str PySem.StrLaws
namespace Mine
def wsX (x : Int) : List Str := [sgn x j0, sgn x j1, sgn x j2, sgn x j3]
def ksX (x : Int) : List Str := [cod x j0, cod x j1, cod x j2, cod x j3]
def backP (x : Int) : List (Str × Str) := [(sgn x j0 ++ cod x j3, sgn x j3), (sgn x j0 ++ cod x j2, sgn x j2), (sgn x j0 ++ cod x j1, sgn x j1), (sgn x j0 ++ cod x j0, sgn x j0)]
def fwd (x p : Int) (text : Str) (i : Nat) : Str := if i = 0 then text else encAll (wsX x) (ksX x) p i text.cps.toList
def pr (x : Int) (j : Int) : Str × Str := (sgn x j, sgn x j0 ++ cod x j)
def thereP (x p : Int) : List (Str × Str) := if p = 0 then [pr x j0, pr x j1, pr x j2, pr x j3] else if p = 1 then [pr x j1, pr x j0, pr x j2, pr x j3] else if p = 2 then [pr x j1, pr x j2, pr x j0, pr x j3] else [pr x j1, pr x j2, pr x j3, pr x j0]

def jn : Nat → Int
  | 0 => j0
  | 1 => j1
  | 2 => j2
  | _ => j3
def chR (r q j : Nat) : Nat := (Txt.charAt tellT (((r : Int) + ([1, 5, 7, 11] : List Int).getD q 0 * jn j).fmod 12)).getD 0
def aX (x : Int) (j : Nat) : Nat := (Txt.charAt tellT ((x + ([1, 5, 7, 11] : List Int).getD ((x.fdiv 12).fmod 4).toNat 0 * jn j).fmod 12)).getD 0
def kX (x : Int) (j : Nat) : List Nat := (cod x (jn j)).cps.toList
theorem aX_red (x : Int) (j : Nat) : aX x j = chR (x.fmod 12).toNat ((x.fdiv 12).fmod 4).toNat j := by
  unfold aX chR
  have h0 := fmod_lo x (n := 12) (by decide)
  have e : ∀ z : Int, (x + z).fmod 12 = (((x.fmod 12).toNat : Int) + z).fmod 12 := by
    intro z
    rw [Int.toNat_of_nonneg h0]
    simp only [Int.fmod_eq_emod_of_nonneg _ (show (0 : Int) ≤ 12 by decide)]
    omega
  rw [e]
def goodR (r q : Nat) : Bool :=
  ([0, 1, 2, 3] : List Nat).all (fun i => ([0, 1, 2, 3] : List Nat).all fun j => i == j || chR r q i != chR r q j) && ([0, 1, 2, 3] : List Nat).all fun i => !([97, 98, 99, 100, 59] : List Nat).contains (chR r q i)
theorem goodAll : ((List.range 12).all fun r => (List.range 4).all fun q => goodR r q) = true := by decide +kernel
theorem goodX (x : Int) : goodR (x.fmod 12).toNat ((x.fdiv 12).fmod 4).toNat = true := by
  have h1 := fmod_lo x (n := 12) (by decide)
  have h2 := fmod_hi x (n := 12) (by decide)
  have h3 := fmod_lo (x.fdiv 12) (n := 4) (by decide)
  have h4 := fmod_hi (x.fdiv 12) (n := 4) (by decide)
  exact List.all_eq_true.mp (List.all_eq_true.mp goodAll _ (List.mem_range.mpr (by omega))) _ (List.mem_range.mpr (by omega))
theorem lt4 {i : Nat} (h : i < 4) : i ∈ ([0, 1, 2, 3] : List Nat) := by
  have : i = 0 ∨ i = 1 ∨ i = 2 ∨ i = 3 := by omega
  rcases this with rfl | rfl | rfl | rfl <;> simp
theorem aX_dist (x : Int) (i j : Nat) (hi : i < 4) (hj : j < 4) (e : aX x i = aX x j) : i = j := by
  have g := goodX x
  unfold goodR at g
  rw [Bool.and_eq_true] at g
  have := List.all_eq_true.mp (List.all_eq_true.mp g.1 i (lt4 hi)) j (lt4 hj)
  rw [aX_red, aX_red] at e
  simpa [e] using this
theorem aX_letters (x : Int) (i : Nat) (hi : i < 4) : aX x i ∉ ([97, 98, 99, 100, 59] : List Nat) := by
  have g := goodX x
  unfold goodR at g
  rw [Bool.and_eq_true] at g
  have := List.all_eq_true.mp g.2 i (lt4 hi)
  rw [aX_red]
  simpa using this
theorem lead_in (n : Nat) : ((["", "a", "d", "bc"] : List Str).getD n Str.empty).cps.toList ∈ ([[], [97], [100], [98, 99]] : List (List Nat)) := by
  match n with
  | 0 => decide
  | 1 => decide
  | 2 => decide
  | 3 => decide
  | n + 4 => simp [List.getD, Str.empty]
theorem kX_eq (x : Int) (j : Nat) (hj : j < 4) : ∃ l, l ∈ ([[], [97], [100], [98, 99]] : List (List Nat)) ∧ kX x j = (l ++ [97 + j]) ++ [59] := by
  refine ⟨(leadOf x (jn j)).cps.toList, lead_in _, ?_⟩
  unfold kX cod
  simp only [Str.cps_append, Array.toList_append]
  have : j = 0 ∨ j = 1 ∨ j = 2 ∨ j = 3 := by omega
  rcases this with rfl | rfl | rfl | rfl <;> rfl
theorem schX (x : Int) : Sch (aX x) (kX x) where
  dist := aX_dist x
  codes := {
    body := fun j hj => by
      obtain ⟨l, hl, e⟩ := kX_eq x j hj
      refine ⟨l ++ [97 + j], e, ?_⟩
      simp only [List.mem_cons, List.not_mem_nil, or_false] at hl
      rcases hl with rfl | rfl | rfl | rfl <;> simp <;> omega
    diff := fun i j hi hj e => by
      obtain ⟨l, hl, e1⟩ := kX_eq x i hi
      obtain ⟨l', hl', e2⟩ := kX_eq x j hj
      rw [e1, e2] at e
      have e3 := List.append_cancel_right e
      have e4 := congrArg List.getLast? e3
      simp at e4
      omega }
  free := fun i j hi hj h => by
    obtain ⟨l, hl, e⟩ := kX_eq x j hj
    have hn := aX_letters x i hi
    rw [e] at h
    apply hn
    have hj' : j = 0 ∨ j = 1 ∨ j = 2 ∨ j = 3 := by omega
    simp only [List.mem_cons, List.not_mem_nil, or_false] at hl
    rcases hl with rfl | rfl | rfl | rfl <;> rcases hj' with rfl | rfl | rfl | rfl <;> simp at h ⊢ <;> omega
  short := fun j hj => by
    obtain ⟨l, hl, e⟩ := kX_eq x j hj
    rw [e]
    simp only [List.mem_cons, List.not_mem_nil, or_false] at hl
    rcases hl with rfl | rfl | rfl | rfl <;> simp
end Mine
end

section
open PySem PySem.W PyProof.Rows PySem.Calls PySem.SeqAt PySem.Builtin.Str PySem.StrLaws
namespace Mine
theorem sgnX (x : Int) (j : Nat) : sgn x (jn j) = ⟨#[aX x j]⟩ := rfl
theorem ws_eq (x : Int) : wsX x = [⟨#[aX x 0]⟩, ⟨#[aX x 1]⟩, ⟨#[aX x 2]⟩, ⟨#[aX x 3]⟩] := rfl
theorem one_beq (u v : Nat) : ((⟨#[u]⟩ : Str) == ⟨#[v]⟩) = decide (u = v) := by
  by_cases h : u = v
  · subst h; simp
  · have : (⟨#[u]⟩ : Str) ≠ ⟨#[v]⟩ := fun e => h (by injection e with e; injection e with e; injection e)
    simp [h, this]
theorem idx_sign (x : Int) (j : Nat) (hj : j < 4) : (wsX x).idxOf (⟨#[aX x j]⟩ : Str) = j := by
  have H := schX x
  have n10 := ne_of H 0 1 (by decide) (by decide) (by decide)
  have n20 := ne_of H 0 2 (by decide) (by decide) (by decide)
  have n30 := ne_of H 0 3 (by decide) (by decide) (by decide)
  have n21 := ne_of H 1 2 (by decide) (by decide) (by decide)
  have n31 := ne_of H 1 3 (by decide) (by decide) (by decide)
  have n32 := ne_of H 2 3 (by decide) (by decide) (by decide)
  rw [ws_eq]
  have : j = 0 ∨ j = 1 ∨ j = 2 ∨ j = 3 := by omega
  rcases this with rfl | rfl | rfl | rfl <;> simp [List.idxOf_cons, one_beq, n10, n20, n30, n21, n31, n32]
theorem idx_other (x : Int) (d : Nat) (h : ∀ i, i < 4 → d ≠ aX x i) : (wsX x).idxOf (⟨#[d]⟩ : Str) = 4 := by
  rw [ws_eq]
  have h0 := Ne.symm (h 0 (by decide))
  have h1 := Ne.symm (h 1 (by decide))
  have h2 := Ne.symm (h 2 (by decide))
  have h3 := Ne.symm (h 3 (by decide))
  simp [List.idxOf_cons, one_beq, h0, h1, h2, h3]
theorem mul_rp (x : Int) (n : Nat) : (Txt.mul ((ksX x).getD 0 Str.empty) (n : Int)).cps.toList = rp (kX x) n := by
  rw [mul_list]
  rfl
theorem encC_list (x : Int) (P n d : Nat) : (encC (wsX x) (ksX x) (P : Int) (n : Int) d).cps.toList = encL (aX x) (kX x) P n d := by
  have H := schX x
  have sgnc : ∀ j, 1 ≤ j → j < 4 → (encC (wsX x) (ksX x) (P : Int) (n : Int) (aX x j)).cps.toList = encL (aX x) (kX x) P n (aX x j) := by
    intro j h1 h4
    rw [encLj H P n h1 h4]
    unfold encC blk
    dsimp only
    rw [idx_sign x j h4]
    have hk : ((ksX x).getD j Str.empty).cps.toList = kX x j := by
      have : j = 1 ∨ j = 2 ∨ j = 3 := by omega
      rcases this with rfl | rfl | rfl <;> rfl
    by_cases hp : j ≤ P
    · have c1 : ((j : Nat) : Int) ≤ (P : Int) := by omega
      rw [if_pos c1, if_neg (by omega), if_neg (by omega), if_pos hp]
      simp only [Str.cps_append, Array.toList_append, mul_rp, hk]
      rfl
    · have c1 : ¬ ((j : Nat) : Int) ≤ (P : Int) := by omega
      rw [if_neg c1, if_neg hp]
      by_cases hn : n = 0
      · subst hn
        rw [if_pos (by omega), if_pos rfl]
      · have e : (n : Int) - 1 = ((n - 1 : Nat) : Int) := by omega
        rw [if_neg (by omega), if_neg (by omega), if_neg hn, e]
        simp only [Str.cps_append, Array.toList_append, mul_rp, hk]
        rfl
  rcases cls H d with rfl | rfl | rfl | rfl | h
  · rw [encL0 H]
    unfold encC
    dsimp only
    rw [idx_sign x 0 (by decide)]
    have c1 : ((0 : Nat) : Int) ≤ (P : Int) := by omega
    have c2 : ¬ (0 = 4 ∨ (n : Int) < 0) := by omega
    rw [if_pos c1, if_neg c2, if_pos rfl]
    simp only [Str.cps_append, Array.toList_append, mul_rp]
    rfl
  · exact sgnc 1 (by decide) (by decide)
  · exact sgnc 2 (by decide) (by decide)
  · exact sgnc 3 (by decide) (by decide)
  · rw [encLo H _ _ h]
    unfold encC
    dsimp only
    rw [idx_other x d h, if_pos (.inl rfl)]
theorem encAll_list (x : Int) (P n : Nat) (l : List Nat) : (encAll (wsX x) (ksX x) (P : Int) (n : Int) l).cps.toList = l.flatMap (encL (aX x) (kX x) P n) := by
  have key : ∀ (l : List Nat) (s : Str), (l.foldl (fun a c => a ++ encC (wsX x) (ksX x) (P : Int) (n : Int) c) s).cps.toList = s.cps.toList ++ l.flatMap (encL (aX x) (kX x) P n) := by
    intro l
    induction l with
    | nil => intro s; simp
    | cons c r ih =>
      intro s
      rw [List.foldl_cons, ih, List.flatMap_cons]
      simp only [Str.cps_append, Array.toList_append, encC_list, List.append_assoc]
  have := key l Str.empty
  simpa [encAll, Str.empty] using this
theorem flat_len {f : Nat → List Nat} {b : Nat} (h : ∀ d, (f d).length ≤ b) : ∀ l : List Nat, (l.flatMap f).length ≤ l.length * b
  | [] => by simp
  | d :: l => by
    have h1 := h d
    have h2 := flat_len h l
    rw [List.flatMap_cons, List.length_append, List.length_cons, Nat.succ_mul]
    omega
theorem pairs_there (x : Int) {P : Nat} (hP : P < 4) : PairsOf (aX x) (kX x) (ord P) (thereP x (P : Int)) := by
  have q : ∀ j, j < 4 → (pr x (jn j)).1.cps.toList = [aX x j] ∧ (pr x (jn j)).2.cps.toList = aX x 0 :: kX x j := fun j _ => ⟨rfl, by
    show (sgn x j0 ++ cod x (jn j)).cps.toList = _
    rw [Str.cps_append, Array.toList_append]
    rfl⟩
  have q0 := q 0 (by decide)
  have q1 := q 1 (by decide)
  have q2 := q 2 (by decide)
  have q3 := q 3 (by decide)
  have : P = 0 ∨ P = 1 ∨ P = 2 ∨ P = 3 := by omega
  rcases this with rfl | rfl | rfl | rfl
  · exact ⟨by decide, q0.1, q0.2, by decide, q1.1, q1.2, by decide, q2.1, q2.2, by decide, q3.1, q3.2, trivial⟩
  · exact ⟨by decide, q1.1, q1.2, by decide, q0.1, q0.2, by decide, q2.1, q2.2, by decide, q3.1, q3.2, trivial⟩
  · exact ⟨by decide, q1.1, q1.2, by decide, q2.1, q2.2, by decide, q0.1, q0.2, by decide, q3.1, q3.2, trivial⟩
  · exact ⟨by decide, q1.1, q1.2, by decide, q2.1, q2.2, by decide, q3.1, q3.2, by decide, q0.1, q0.2, trivial⟩
theorem fwd_list (x : Int) (P i : Nat) (text : Str) : (fwd x (P : Int) text i).cps.toList = text.cps.toList.flatMap (fwdL (aX x) (kX x) P i) := by
  unfold fwd fwdL
  by_cases h : i = 0
  · subst h
    simp
  · rw [if_neg h, encAll_list]
    simp only [if_neg h]
theorem goThere (x p : Int) (text : Str) (ht : text.length ≤ 90) (hp : p = 0 ∨ p = 1 ∨ p = 2 ∨ p = 3) (i : Nat) (hi : i < 3) : Runs (fwd x p text i) (thereP x p) (encAll (wsX x) (ksX x) p ((i + 1 : Nat) : Int) text.cps.toList) := by
  obtain ⟨P, hP, rfl⟩ : ∃ P : Nat, P < 4 ∧ p = (P : Int) := ⟨p.toNat, by omega, by omega⟩
  have H := schX x
  refine runs_of H (ord P) _ _ _ (pairs_there x hP) ?_ ?_
  · rw [encAll_list, fwd_list, runS_flat]
    congr 1
    funext d
    exact (fwd_step H hP i d).symm
  · rw [strlen, encAll_list]
    have h1 := flat_len (f := encL (aX x) (kX x) P (i + 1)) (fun d => encL_len H P (i + 1) d (by omega)) text.cps.toList
    rw [strlen] at ht
    omega
theorem back_step {x : Int} {l : List Nat} {s t : Str} {K b : List Nat} {f g : Nat → List Nat} {y : Str} {r : List (Str × Str)} (hs : s.cps.toList = aX x 0 :: K) (ht : t.cps.toList = b) (hb : b.length = 1)
    (hB : ∀ d ∈ l, Blk (aX x 0) K b (f d) (g d)) (hl : (l.flatMap f).length ≤ 2048) (h : Runs ⟨(l.flatMap g).toArray⟩ r y) : Runs ⟨(l.flatMap f).toArray⟩ ((s, t) :: r) y := by
  have hs1 : 1 ≤ s.length := by rw [strlen, hs]; simp
  have e : replOne ⟨(l.flatMap f).toArray⟩ s t = ⟨(l.flatMap g).toArray⟩ := by
    refine repl_eq hs1 ?_
    rw [hs, ht]
    exact rep_blocks l hB
  refine .cons ?_ ?_ ?_ (e ▸ h)
  · have : s.length ≠ 0 := by omega
    simpa using this
  · rw [strlen]; exact hl
  · rw [strlen, ht, hb]; decide
theorem goBack (x p : Int) (text : Str) (ht : text.length ≤ 90) (hp : p = 0 ∨ p = 1 ∨ p = 2 ∨ p = 3) (n : Nat) (hn : n < 3) : Runs (encAll (wsX x) (ksX x) p ((n + 1 : Nat) : Int) text.cps.toList) (backP x) (encAll (wsX x) (ksX x) p (n : Int) text.cps.toList) := by
  obtain ⟨P, hP, rfl⟩ : ∃ P : Nat, P < 4 ∧ p = (P : Int) := ⟨p.toNat, by omega, by omega⟩
  have H := schX x
  rw [strlen] at ht
  have start : encAll (wsX x) (ksX x) (P : Int) ((n + 1 : Nat) : Int) text.cps.toList = ⟨(text.cps.toList.flatMap (und (aX x) (kX x) P n 4)).toArray⟩ := by
    refine Str.ext' (Array.toList_inj.mp ?_)
    rw [encAll_list]
    show _ = text.cps.toList.flatMap _
    congr 1
    funext d
    exact (und_top H P n d).symm
  have fin : encAll (wsX x) (ksX x) (P : Int) (n : Int) text.cps.toList = ⟨(text.cps.toList.flatMap (encL (aX x) (kX x) P n)).toArray⟩ :=
    Str.ext' (Array.toList_inj.mp (encAll_list x P n _))
  have lenJ : ∀ J, (text.cps.toList.flatMap (und (aX x) (kX x) P n J)).length ≤ 2048 := fun J => by
    have h1 := flat_len (f := und (aX x) (kX x) P n J) (fun d => und_len H P n J d (by omega)) text.cps.toList
    omega
  have cs : ∀ j, (sgn x j0 ++ cod x (jn j)).cps.toList = aX x 0 :: kX x j := fun j => by
    rw [Str.cps_append, Array.toList_append]
    rfl
  rw [start, fin]
  refine back_step (cs 3) (b := [aX x 3]) rfl rfl (fun d _ => back_j H (p := P) (n := n) (J := 3) (by decide) (by decide) d) (lenJ 4) ?_
  refine back_step (cs 2) (b := [aX x 2]) rfl rfl (fun d _ => back_j H (p := P) (n := n) (J := 2) (by decide) (by decide) d) (lenJ 3) ?_
  refine back_step (cs 1) (b := [aX x 1]) rfl rfl (fun d _ => back_j H (p := P) (n := n) (J := 1) (by decide) (by decide) d) (lenJ 2) ?_
  refine back_step (cs 0) (b := [aX x 0]) rfl rfl (fun d _ => back_0 H (p := P) (n := n) d) (lenJ 1) ?_
  exact .nil _
end Mine
end

section
open PySem PySem.W PyProof.Rows PySem.Calls PySem.SeqAt PySem.Builtin.Str
namespace Mine
theorem joinInt {M : Model} {A : Around} {E : Value → Shared → Prop} {s : Shared} {t : Sem Value} {Q : Value → Shared → Prop} (h1 : wpAny M A t (fun v s' => ∃ x u tk, v = Value.int x u ∧ s' = { s with toks := tk }) E s) (h2 : ∀ x u tk, Q (.int x u) { s with toks := tk }) : wpAny M A t Q E s :=
  wpAny_mono h1 (by rintro v s' ⟨x, u, tk, rfl, rfl⟩; exact h2 x u tk) (fun _ _ e => e)
theorem newsNe {h₀ h : Heap} {L a b : Addr} {o1 o2 : Obj} {news : List (Addr × Obj)} (N : News h₀ L h news) (h1 : (a, o1) ∈ news) (h2 : (b, o2) ∈ news) (hd : o1.data ≠ o2.data) : @Ne Nat a b := fun e => by
  have e1 := (N _ h1).1
  have e2 := (N _ h2).1
  have e' : a = b := e
  subst e'
  rw [e1] at e2
  exact hd (congrArg Obj.data (Option.some.inj e2))
theorem schemeNe {h₀ h : Heap} {L aT aS aC c1 c2 c3 : Addr} {o1 o2 o3 : Obj} {vs vS vC : List Value} (N : News h₀ L h [(aT, { cls := .type "tuple", data := .seq vs.toArray }), (aS, LCg.lst vS), (aC, LCg.lst vC), (c1, o1), (c2, o2), (c3, o3)])
    (d1 : ∃ v, o1.data = .cell v) (d2 : ∃ v, o2.data = .cell v) (d3 : ∃ v, o3.data = .cell v) :
    ((@Ne Nat aT c1) ∧ (@Ne Nat aT c2) ∧ (@Ne Nat aT c3)) ∧ ((@Ne Nat aS c1) ∧ (@Ne Nat aS c2) ∧ (@Ne Nat aS c3)) ∧ ((@Ne Nat aC c1) ∧ (@Ne Nat aC c2) ∧ (@Ne Nat aC c3)) := by
  obtain ⟨v1, d1⟩ := d1
  obtain ⟨v2, d2⟩ := d2
  obtain ⟨v3, d3⟩ := d3
  have m1 : (c1, o1) ∈ [(aT, ({ cls := .type "tuple", data := .seq vs.toArray } : Obj)), (aS, LCg.lst vS), (aC, LCg.lst vC), (c1, o1), (c2, o2), (c3, o3)] := by simp
  have m2 : (c2, o2) ∈ [(aT, ({ cls := .type "tuple", data := .seq vs.toArray } : Obj)), (aS, LCg.lst vS), (aC, LCg.lst vC), (c1, o1), (c2, o2), (c3, o3)] := by simp
  have m3 : (c3, o3) ∈ [(aT, ({ cls := .type "tuple", data := .seq vs.toArray } : Obj)), (aS, LCg.lst vS), (aC, LCg.lst vC), (c1, o1), (c2, o2), (c3, o3)] := by simp
  refine ⟨⟨newsNe N (.head _) m1 ?_, newsNe N (.head _) m2 ?_, newsNe N (.head _) m3 ?_⟩, ⟨newsNe N (.tail _ (.head _)) m1 ?_, newsNe N (.tail _ (.head _)) m2 ?_, newsNe N (.tail _ (.head _)) m3 ?_⟩, newsNe N (.tail _ (.tail _ (.head _))) m1 ?_, newsNe N (.tail _ (.tail _ (.head _))) m2 ?_, newsNe N (.tail _ (.tail _ (.head _))) m3 ?_⟩ <;> simp only [d1, d2, d3] <;> intro e <;> cases e
theorem ints_at : ∀ {vs : List Value} {ns : List Int}, IntsAre vs ns → ∀ (i : Nat) (h : i < ns.length), ∃ t, vs[i]? = some (.int ns[i] t)
  | _, _, .cons n t r, 0, _ => ⟨t, rfl⟩
  | _, _, .cons n t r, i + 1, h => ints_at r i (Nat.lt_of_succ_lt_succ h)
theorem join_len (b : Nat) : ∀ (zs : List Str), (∀ z ∈ zs, z.length ≤ b) → (Str.join (Str.ofString "") zs).length ≤ zs.length * b
  | [], _ => Nat.zero_le _
  | [z], h => by
    have := h z (.head _)
    show z.length ≤ _
    simp only [List.length_cons, List.length_nil]; omega
  | z :: y :: r, h => by
    have h1 := h z (.head _)
    have h2 := join_len b (y :: r) fun a ha => h a (.tail _ ha)
    have h3 : (Str.ofString "").length = 0 := rfl
    show (z ++ Str.ofString "" ++ Str.join (Str.ofString "") (y :: r)).length ≤ _
    rw [Str.length_append, Str.length_append]
    simp only [List.length_cons, Nat.succ_mul] at h2 ⊢
    omega
section
variable {prog : Program} {w : World} {A : Around} {E : Value → Shared → Prop} {s : Shared} {D : Addr} {t : Tok} {Q : Value → Shared → Prop}
theorem joinE {ys : List Value} {zs : List Str} {b n : Nat} (hl : s.heap.IsList D ys.toArray) (hs : StrsAre ys zs) (hb : ∀ z ∈ zs, z.length ≤ b) (hn : zs.length ≤ n) (hbn : n * b ≤ 1000)
    (h : ∀ y t' k, y.length ≤ n * b → Q (.str y t') { s with toks := k }) : wpAny (model prog w) A (call (.builtin "str.join") [.str (Str.ofString "") t, .ref D]) Q E s := by
  have h1 := StrLaws.sumLen_le zs hb
  have h2 : zs.length * b ≤ n * b := Nat.mul_le_mul hn (Nat.le_refl _)
  have h3 : (Str.ofString "").length = 0 := rfl
  refine join_list hl hs (by rw [h3]; omega) fun t' k => h _ t' k ?_
  unfold Txt.join
  rw [StrLaws.glued_eq_join]
  exact Nat.le_trans (join_len b zs hb) h2
end
section
variable {prog : Program} {w : World} {A : Around} {s : Shared} {h₀ : Heap} {L : Addr} {m : Str → Option Value} {env : Env}
theorem compTexts {elt : Expr} {x : Str} {scope : Scope} {cl : List (Str × Addr)} {S : List (Addr × Obj) → Prop} {ws : List Value} {ns : List Int} {news : List (Addr × Obj)} {Fin : List Value → List (Addr × Obj) → Prop} (b : Nat) (hi : IntsAre ws ns) (hS : S news)
    (elem : ∀ n t I oI C oC D ys m₂ h tk (E' : Value → Shared → Prop), LCg.NsObj oC m₂ → m₂ x = some (.int n t) → Fr h₀ L h m → News h₀ L h ((I, oI) :: (C, oC) :: (D, LCg.lst ys) :: news) →
      wpAny (model prog w) A (eval elt (compEnvC scope cl C env)) (fun y s' => ∃ z u h' tk', y = Value.str z u ∧ z.length ≤ b ∧ s' = { s with heap := h', toks := tk' } ∧ Fr h₀ L h' m ∧ News h₀ L h' ((I, oI) :: (C, oC) :: (D, LCg.lst ys) :: news)) E' { s with heap := h, toks := tk })
    (fin : ∀ ys zs, StrsAre ys zs → (∀ z ∈ zs, z.length ≤ b) → zs.length = ns.length → Fin ys news) :
    LCg.CompRest prog w A h₀ L m env elt x scope cl s S (fun i v => ws.toArray[i]? = some v) Fin ws.toArray.size 0 [] news := by
  have key : ∀ k i ys zs, k + i = ns.length → zs.length = i → StrsAre ys zs → (∀ z ∈ zs, z.length ≤ b) → LCg.CompRest prog w A h₀ L m env elt x scope cl s S (fun i v => ws.toArray[i]? = some v) Fin k i ys news := by
    intro k
    induction k with
    | zero => intro i ys zs hk hz hs hb; exact LCg.CompRest.zero (fin ys zs hs hb (by omega))
    | succ k ih =>
      intro i ys zs hk hz hs hb
      refine LCg.CompRest.succ ?_
      intro v I oI C oC D m₂ h tk E' hv hC hx F N off ne
      have hlt : i < ns.length := by omega
      obtain ⟨t, ht⟩ := ints_at hi i hlt
      have hv' : v = .int ns[i] t := by
        have h1 : ws.toArray[i]? = some v := hv
        rw [List.getElem?_toArray, ht] at h1
        exact (Option.some.inj h1).symm
      subst hv'
      refine wpAny_mono (elem _ _ I oI C oC D ys m₂ h tk E' hC hx F N) (fun y s' hq => ?_) fun _ _ e => e
      obtain ⟨z, u, h', tk', rfl, hzb, rfl, F', N'⟩ := hq
      refine LCg.CompEnd.intro F' N' news (fun p hp => hp) off hS ?_
      refine ih (i + 1) _ (zs ++ [z]) (by omega) (by simp [hz]) (hs.append' (.cons _ _ .nil)) ?_
      intro z' hz'
      rcases List.mem_append.mp hz' with h1 | h1
      · exact hb z' h1
      · rw [List.mem_singleton.mp h1]; exact hzb
  have hsz : ws.toArray.size = ns.length := by rw [List.size_toArray]; exact hi.length
  rw [hsz]
  exact key _ 0 [] [] (by omega) rfl .nil (fun _ h => nomatch h)
end
theorem sgn_len (x j : Int) : (sgn x j).length = 1 := rfl
theorem cod_len (x j : Int) : (cod x j).length ≤ 4 := by
  have h1 : (leadOf x j).length ≤ 2 := leadLen _
  have h2 : (Txt.item (Str.ofString "abcd") j).length = 1 := rfl
  have h3 : (Str.ofString ";").length = 1 := rfl
  unfold cod
  rw [Str.length_append, Str.length_append]; omega
theorem sgn_all (x : Int) : ∀ y ∈ [sgn x j0, sgn x j1, sgn x j2, sgn x j3], y.length ≤ 1 := by
  intro y hy
  simp only [List.mem_cons, List.not_mem_nil, or_false] at hy
  rcases hy with rfl | rfl | rfl | rfl <;> exact Nat.le_of_eq (sgn_len _ _)
theorem cod_all (x : Int) : ∀ y ∈ [cod x j0, cod x j1, cod x j2, cod x j3], y.length ≤ 4 := by
  intro y hy
  simp only [List.mem_cons, List.not_mem_nil, or_false] at hy
  rcases hy with rfl | rfl | rfl | rfl <;> exact cod_len _ _
theorem getLen4 (x : Int) (k : Nat) : ([cod x j0, cod x j1, cod x j2, cod x j3].getD k Str.empty).length ≤ 8 := Nat.le_trans (getD_len (cod_all x) k) (by decide)
theorem getLen1 (x : Int) (k : Nat) : ([sgn x j0, sgn x j1, sgn x j2, sgn x j3].getD k Str.empty).length ≤ 8 := Nat.le_trans (getD_len (sgn_all x) k) (by decide)
theorem News.keep3 {h₀ h : Heap} {L : Addr} {b p1 p2 p3 p4 p5 q1 q2 c1 c2 c3 : Addr × Obj} (N : News h₀ L h [b, p1, p2, p3, p4, p5, q1, q2, c1, c2, c3]) : News h₀ L h [b, q1, q2, c1, c2, c3] :=
  cb_drop N fun z hz => by
    simp only [List.mem_cons, List.not_mem_nil, or_false] at hz ⊢
    rcases hz with h | h | h | h | h | h <;> simp [h]
theorem News.ends {h₀ h : Heap} {L : Addr} {news : List (Addr × Obj)} (N : News h₀ L h news) : News h₀ L h (news.take 1 ++ news.drop (news.length - 5)) :=
  cb_drop N fun z hz => by
    rcases List.mem_append.mp hz with h | h
    · exact List.mem_of_mem_take h
    · exact List.mem_of_mem_drop h

def canonP (u m : Str → Option Value) : Str → Option Value := fun y => if y = "there" ∨ y = "j" ∨ y = "word" ∨ y = "net" then u y else m y
theorem canonP_of {m' m : Str → Option Value} (h : ∀ y : Str, ¬ (y = "there" ∨ y = "j" ∨ y = "word" ∨ y = "net") → m' y = m y) : m' = canonP m' m := by
  funext y
  unfold canonP
  split
  · rfl
  · next h' => exact h y h'

def set4 (o : Obj) : List (Addr × Obj) → List (Addr × Obj)
  | p0 :: p1 :: p2 :: p3 :: c :: r => p0 :: p1 :: p2 :: p3 :: (c.1, o) :: r
  | l => l
theorem placeIn {v : Value} {n t0 t1 : Nat} (h : v ∈ [Value.int 0 t0, Value.int (1 + ((n : Nat) : Int).fmod 3) t1]) : ∃ p t, v = .int p t ∧ (p = 0 ∨ p = 1 ∨ p = 2 ∨ p = 3) := by
  simp only [List.mem_cons, List.not_mem_nil, or_false] at h
  rcases h with rfl | rfl
  · exact ⟨_, _, rfl, .inl rfl⟩
  · have h1 := fmod_lo (n : Int) (n := 3) (by decide)
    have h2 := fmod_hi (n : Int) (n := 3) (by decide)
    exact ⟨_, _, rfl, by omega⟩

def canonT (D : Addr) (u m : Str → Option Value) : Str → Option Value := fun y => if y = "there" then some (.ref D) else if y = "j" then u y else m y
def ThereEnd (h₀ : Heap) (L : Addr) (m : Str → Option Value) (news : List (Addr × Obj)) (s : Shared) (P : List (Str × Str)) (f : Flow) (s' : Shared) : Prop :=
  f = .next ∧ ∃ D vT e h' tk' u, s' = { s with heap := h', toks := tk' } ∧ Fr h₀ L h' (canonT D u m) ∧ News h₀ L h' ((D, listOf vT.toArray e) :: news) ∧ PairsAre vT P ∧ vT.length ≤ 8
theorem cutFor {M : Model} {A : Around} {E : Value → Shared → Prop} {s : Shared} {t : Sem Flow} {Q : Flow → Shared → Prop} {h₀ h : Heap} {L : Addr} {m : Str → Option Value} {b : Addr × Obj} {news : List (Addr × Obj)} (_F : Fr h₀ L h m) (_N : News h₀ L h (b :: news)) {vS : List Value} {x : Int} (_i : StrsAre vS [sgn x j0, sgn x j1, sgn x j2, sgn x j3]) (p : Int)
    (h1 : wpAny M A t (ThereEnd h₀ L m news s (thereP x p)) E s)
    (h2 : ∀ D vT e h' tk' u, Fr h₀ L h' (canonT D u m) → News h₀ L h' ((D, listOf vT.toArray e) :: news) → PairsAre vT (thereP x p) → vT.length ≤ 8 → Q .next { s with heap := h', toks := tk' }) : wpAny M A t Q E s :=
  wpAny_mono h1 (by rintro f s' ⟨rfl, D, vT, e, h', tk', u, rfl, F', N', hP, hl⟩; exact h2 D vT e h' tk' u F' N' hP hl) fun _ _ e => e

theorem canonT_of {m' m : Str → Option Value} {D : Addr} (h1 : m' "there" = some (.ref D)) (h2 : ∀ y : Str, y ≠ "there" → y ≠ "j" → m' y = m y) : m' = canonT D m' m := by
  funext y
  unfold canonT
  split
  · next h => subst h; exact h1
  · split
    · rfl
    · next h h' => exact h2 y h h'
theorem thereEnd {h₀ h' : Heap} {L D : Addr} {m' m : Str → Option Value} {all news : List (Addr × Obj)} {s : Shared} {P : List (Str × Str)} {vT : List Value} {e tk : Nat} (F : Fr h₀ L h' m') (N : News h₀ L h' all) (h1 : m' "there" = some (.ref D)) (h2 : ∀ y : Str, y ≠ "there" → y ≠ "j" → m' y = m y)
    (hD : (D, listOf vT.toArray e) ∈ all) (hs : SubL news all) (hP : PairsAre vT P) (hl : vT.length ≤ 8) : ThereEnd h₀ L m news s P .next { s with heap := h', toks := tk } :=
  ⟨rfl, D, vT, e, h', tk, m', rfl, canonT_of h1 h2 ▸ F, cb_drop N (fun p hp => by
    rcases List.mem_cons.mp hp with rfl | hp
    · exact hD
    · exact hs.mem p hp), hP, hl⟩

def canonN (wd : Str) (t : Tok) (u m : Str → Option Value) : Str → Option Value := fun y => if y = "word" then some (.str wd t) else if y = "net" then u y else m y
theorem canonN_of {m' m : Str → Option Value} {wd : Str} {t : Tok} (h1 : m' "word" = some (.str wd t)) (h2 : ∀ y : Str, y ≠ "word" → y ≠ "net" → m' y = m y) : m' = canonN wd t m' m := by
  funext y
  unfold canonN
  split
  · next h => subst h; exact h1
  · split
    · rfl
    · next h h' => exact h2 y h h'

def tmN (n : Nat) : Nat := (1 + ((n : Int).fdiv 4 + 1).fmod 3).toNat
theorem tm_cast (n : Nat) : 1 + ((n : Int).fdiv 4 + 1).fmod 3 = (tmN n : Int) := by
  have h1 := fmod_lo ((n : Int).fdiv 4 + 1) (n := 3) (by decide)
  unfold tmN; omega
theorem tm_in (n : Nat) : tmN n = 1 ∨ tmN n = 2 ∨ tmN n = 3 := by
  have h1 := fmod_lo ((n : Int).fdiv 4 + 1) (n := 3) (by decide)
  have h2 := fmod_hi ((n : Int).fdiv 4 + 1) (n := 3) (by decide)
  unfold tmN; omega
theorem up_small (n : Nat) : Builtin.Range.small 1 (1 + ((n : Int).fdiv 4 + 1).fmod 3 + 1) 1 = true := by
  rw [tm_cast]
  rcases tm_in n with h | h | h <;> rw [h] <;> decide
theorem up_size (n : Nat) : Builtin.Range.rangeSize 1 (1 + ((n : Int).fdiv 4 + 1).fmod 3 + 1) 1 = (tmN n : Int) := by
  rw [tm_cast]
  rcases tm_in n with h | h | h <;> rw [h] <;> decide
theorem down_small (n : Nat) : Builtin.Range.small (1 + ((n : Int).fdiv 4 + 1).fmod 3 - 1) (-1) (-1) = true := by
  rw [tm_cast]
  rcases tm_in n with h | h | h <;> rw [h] <;> decide
theorem down_size (n : Nat) : Builtin.Range.rangeSize (1 + ((n : Int).fdiv 4 + 1).fmod 3 - 1) (-1) (-1) = (tmN n : Int) := by
  rw [tm_cast]
  rcases tm_in n with h | h | h <;> rw [h] <;> decide
theorem tm_lt {n i : Nat} (h : i < tmN n) : i < 3 := by rcases tm_in n with e | e | e <;> omega
theorem starFit {vT : List Value} (h : vT.length ≤ 8) : vT.toArray.size ≤ sizeLine := by rw [List.size_toArray]; exact Nat.le_trans h (by decide)

theorem ne_self (a : Str) : ¬ ((a != a) = true) := by simp
theorem turnN {g : Heap} {L : Addr} {s : Shared} {nx : List (Addr × Obj)} {Q : Flow → Shared → Prop} {h' : Heap} {tk : Nat} {m' m : Str → Option Value} {y z : Str} {t : Tok}
    (F : Fr g L h' m') (N : News g L h' nx) (h1 : m' "word" = some (.str y t)) (h2 : ∀ y : Str, y ≠ "word" → y ≠ "net" → m' y = m y) (e : y = z) :
    TurnEnd g L s nx (fun m' => ∃ t u, m' = canonN z t u m) Q .next { s with heap := h', toks := tk } :=
  ⟨h', tk, m', rfl, F, N, t, m', canonN_of (e ▸ h1) h2⟩
theorem fwd_pos (x p : Int) (text : Str) {i : Nat} (h : i ≠ 0) : fwd x p text i = encAll (wsX x) (ksX x) p i text.cps.toList := if_neg h

theorem endJ {g h' : Heap} {L : Addr} {s : Shared} {b q : Addr × Obj} {nx nw : List (Addr × Obj)} {m' m : Str → Option Value} {o : Obj} {Q : Flow → Shared → Prop} {tk : Nat} (F : Fr g L h' m') (N : News g L h' (b :: q :: nx))
    (hm : ∀ y : Str, ¬ (y = "there" ∨ y = "j" ∨ y = "word" ∨ y = "net") → m' y = m y) (hd : ∃ v, o.data = .cell v) (e : nx = set4 o nw) :
    TurnEndJ g L s q (fun m' nx => ∃ u o' v, m' = canonP u m ∧ o'.data = Data.cell v ∧ nx = set4 o' nw) Q .next { s with heap := h', toks := tk } :=
  let ⟨v, hv⟩ := hd
  ⟨h', tk, m', nx, rfl, F, cb_drop N (fun p hp => .tail _ hp), m', o, v, canonP_of hm, hv, e⟩

local macro_rules | `(tactic| walk_at "CompSrc") => `(tactic| (k_here; k_dflt (refine LCg.CompSrc.ledger (by rfl) (by k_asm) (by k_asm) (by k_mem) (by first | size_fits | exact Nat.le_of_ble_eq_true rfl | kmk_size) ?_; intro g')))
local macro_rules | `(tactic| walk_at "subscriptTail Name Slice ref ref") => `(tactic| (k_here; (with_reducible show wpAny _ _ (subscriptTail _ (PySem.Expr.Slice _ _ none _) (Value.ref _) (Value.ref _)) _ _ _); k_dflt (refine' kmk_slice_ints (s := ⟨_, _, _, _, _⟩) ?F ?N ?l ?p ?q ?i ?m ?c ?_ ?s ?t ?z; (case F => k_asm); (case N => k_asm); (case l => kmk_list); (case p => kmk_part); (case q => kmk_part); (case i => l_ints); (case m => kmk_nums); (case c => kmk_len); (case s => with_unfolding_all rfl); (case t => kmk_pure); (case z => kmk_size)); intro D' ws' h' F' N' l1 hI' hC' hL'; (try simp only [Int.reduceNeg, Int.neg_neg, Int.reduceToNat] at hI' hC' hL'); (try k_lt l1); (try k_sweep)))
local macro_rules | `(tactic| walk_at "subscriptTail Name Constant ref int") => `(tactic| (k_here; (with_reducible show wpAny _ _ (subscriptTail _ _ (Value.ref _) (Value.int _ _)) _ _ _); k_dflt (refine listItem (nn := 4) (by k_asm) (by k_mem) (by assumption) (by rfl) (by decide) (by decide) (by decide) ?_); intro _))
local macro_rules | `(tactic| walk_at "subscriptTail Name Name ref int") => `(tactic| (k_here; (with_reducible show wpAny _ _ (subscriptTail _ _ (Value.ref _) (Value.int _ _)) _ _ _); k_dflt (refine listItem (nn := 4) (by k_asm) (by k_mem) (by assumption) (by rfl) (by decide) (by decide) (by decide) ?_); intro _))
local macro_rules | `(tactic| walk_at "binaryOp Add str str") => `(tactic| (k_here; (with_reducible show wpAny _ _ (binaryOp Operator.Add (Value.str _ _) (Value.str _ _)) _ _ _); k_dflt (refine addSm ?_ ?_ ?_; (exact getLen1 _ _); (exact getLen4 _ _); intro _ _)))
local macro_rules | `(tactic| walk_at "CompRestT") => `(tactic| (with_unfolding_all first
  | (refine LCt.CompRestT.succ ?_; intro v' I' oI' C' oC' D' m' h' tk' E' hv' hC' hx' F' N' off' ne'; clear ne'; lcg_open hv'; (try k_fold))
  | refine LCt.CompRestT.zero ?_))
local macro_rules | `(tactic| walk_at "CompEnd") => `(tactic| ((rename LCg.Off3 _ _ _ _ => kO9); (k_dflt (refine LCg.CompEnd.intro (by assumption) (by assumption) _ ?_ kO9 (.head _) ?_; first | exact fun p hp => hp | exact fun p hp => .tail _ hp)); clear kO9))
local macro_rules | `(tactic| walk_at "FinE") => `(tactic| ((unfold LCg.FinE); intro D' h' tk' F' N' o1'; clear o1'; (try simp only [List.nil_append, List.cons_append] at N'); (try dsimp only)))
local macro_rules | `(tactic| walk_at "StarOf ref") => `(tactic| (k_here; k_dflt (refine' star_seq ?k1 ?k2 ?m ?c ?d ?T ?e ?z ?_; (case k1 => k_asm); (case k2 => k_asm); (case m => k_mem); (case c => exact rfl); (case d => exact rfl); (case T => first | exact .inl rfl | exact .inr rfl); (case e => exact rfl); (case z => exact starFit (by assumption)); k_whole); intro h' F' N'; (try k_sweep); try dsimp only [List.nil_append, List.cons_append]))
local macro_rules | `(tactic| k_steps) => `(tactic| repeat' (first | (k_unfold; (try dsimp only)) | (k_end; wrow_close) | dsimp only | ((fail_if_success (with_reducible show wpAny _ _ (eval (Expr.IfExp _ _ _ _) _) _ _ _)); (fail_if_success (with_reducible show wpAny _ _ (eval (Expr.ListComp _ _ _ _) _) _ _ _)); (fail_if_success (with_reducible show wpAny _ _ (exec (Stmt.For _ _ _ _ _) _) _ _ _)); (fail_if_success (with_reducible show wpAny _ _ (call (Value.ref _) _) _ _ _)); (fail_if_success (with_reducible show wpAny _ _ (pyIter _) _ _ _)); walk1)))
theorem main01 : PySem.Challenge.rw_mq0462_01.Holds := hd (by
  k_go0
  (all_goals try k_fold)
  k_steps
  refine joinInt ?_ ?_
  · walk1
    k_steps
    all_goals exact ⟨_, _, _, rfl, rfl⟩
  intro x u tk
  dsimp only
  k_steps
  k_dflt (refine' tScheme _ _ _ _ _ _ _ _ _ _ _ _ _ _ _ _ _ _ _ ?k1 ?k2 ?k3 ?k4 ?k5 ?k6 ?k7 ?k8 ?_; (case k2 => k_asm); (case k1 => k_asm); (case k3 => k_asm); (case k4 => k_asm); (case k5 => k_asm); (case k6 => exact rfl); (case k7 => ktr_room); (case k8 => ktr_units))
  intro aT aS aC vS vC h9 tk9 iS iC F9 N9
  have hne := schemeNe N9 ⟨_, by assumption⟩ ⟨_, by assumption⟩ ⟨_, by assumption⟩
  have hneH := PySem.Flt.Hid.mk hne
  dsimp only
  k_steps
  clear hne
  k_dflt (refine LCg.ListComp_U (F₀ := by k_asm) (by rfl) (by decide) (by rfl) (by decide) (by rfl) ?_)
  k_steps
  refine compTexts 5 (by l_ints) ?_ ?_ ?_
  · exact Or.inr ⟨_, by k_mem, rfl, _, rfl⟩
  · intro n t I oI C oC D ys m₂ h tk E' hC' hx' F' N'
    k_steps
    k_dflt (refine' tPiece (vS := vS) (vC := vC) ?q1 iS ?q2 ?q3 ?q4 iC ?q5 ?q6 _ _ _ _ _ _ _ _ _ _ _ _ _ _ _ _ _ _ _ ?k1 ?k2 ?k3 ?k4 ?k5 ?k6 ?k7 ?k8 ?_; (case k2 => k_asm); (case k4 => k_asm); (case k1 => k_asm); (case k3 => k_asm);  (case k5 => k_asm); (case k6 => exact rfl); (case k7 => ktr_room); (case k8 => ktr_units); (case q1 => k_mem); (case q2 => rfl); (case q3 => exact sgn_all x); (case q4 => k_mem); (case q5 => rfl); (case q6 => exact cod_all x))
    rintro v h9 tk9 ⟨y, u, rfl, hy⟩ F9 N9
    k_unfold
    exact ⟨y, u, h9, tk9, rfl, hy, rfl, F9, N9⟩
  intro ys zs hs hb hl
  replace hl : zs.length ≤ 18 := by rw [hl]; simp only [List.length_append, List.length_take, List.length_cons, List.length_nil]; omega
  unfold LCg.FinE
  intro D5 h5 tk5 F5 N5 o5
  clear o5
  dsimp only
  k_steps
  k_dflt (refine' joinE (n := 18) (News.isList N5 (.head _)) hs hb hl (by decide) ?_)
  intro text tt tk6 htext
  clear hs hb hl
  dsimp only
  k_steps
  rename Fr _ _ _ _ => F6
  rename News _ _ _ _ => N6
  replace N6 := News.keep3 N6
  walk1
  repeat' (first | (k_unfold; (try dsimp only)) | (k_end; wrow_close) | dsimp only | ((fail_if_success (with_reducible show wpAny _ _ (eval (Expr.IfExp _ _ _ _) _) _ _ _)); (fail_if_success (with_reducible show wpAny _ _ (eval (Expr.ListComp _ _ _ _) _) _ _ _)); (fail_if_success (with_reducible show wpAny _ _ (exec (Stmt.For _ _ _ _ _) _) _ _ _)); (fail_if_success (with_reducible show wpAny _ _ (call (Value.ref _) _) _ _ _)); walk1))
  rename Fr _ _ _ _ => F7
  rename News _ _ _ _ => N7
  have N8 := News.ends N7
  simp only [List.length_cons, List.length_nil, Nat.reduceAdd, Nat.reduceSub, List.drop_succ_cons, List.drop_zero, List.take_succ_cons, List.take_zero, List.cons_append, List.nil_append] at N8
  clear N7
  (with_unfolding_all refine For_turns F7 ?_)
  k_steps
  (with_unfolding_all refine tupJ (fun m₀ nw m nx => ∃ u o' v, m = canonP u m₀ ∧ o'.data = Data.cell v ∧ nx = set4 o' nw) (by rfl) (by k_asm) (by k_asm) (.head _) (by rfl) (by rfl) ?_ ?_ ?_ ?_)
  · exact ⟨_, _, _, canonP_of fun _ _ => rfl, by assumption, rfl⟩
  · rintro m nx ⟨u, o', v, rfl, hd, rfl⟩
    exact ⟨rfl, .head _, trivial⟩
  · rintro I hI v hv m nx h tk oI hcI ⟨u, oP, vP, rfl, hdP, rfl⟩ F9 N9
    obtain ⟨p, tp, rfl, hp⟩ := placeIn hv
    k_lt hI
    dsimp only [set4] at N9
    rename Flt.Hid _ => hneH
    have hne1 := hneH.out.2.1.1
    have hne2 := hneH.out.2.2.1
    clear hv
    (try k_fold)
    dsimp only
    k_steps
    clear hne1 hne2 F9 N9
    rename Fr _ _ _ _ => F10
    rename News _ _ _ _ => N10
    rename StrsAre _ [sgn _ _, _, _, _] => iS
    refine cutFor F10 N10 iS p ?_ ?_
    · rcases hp with rfl | rfl | rfl | rfl
      all_goals (
        (with_unfolding_all refine For_turns F10 ?_)
        k_steps
        k_dflt (refine compTup (by k_asm) (by rfl) (by decide) (by rfl) (by decide) (by rfl) ?_)
        k_steps
        k_dflt (refine SrcTup.intro (by rfl) (by k_asm) (by k_asm) (.head _) rfl rfl (Nat.le_of_ble_eq_true rfl) ?_)
        intro g'
        k_steps
        k_dflt (refine compTup (by k_asm) (by rfl) (by decide) (by rfl) (by decide) (by rfl) ?_)
        k_steps
        k_dflt (refine SrcTup.intro (by rfl) (by k_asm) (by k_asm) (.head _) rfl rfl (Nat.le_of_ble_eq_true rfl) ?_)
        intro g'
        k_steps
        walk1
        k_steps
        k_dflt (refine thereEnd (by k_asm) (by k_asm) rfl ?_ (.head _) (by k_subL) ?_ (Nat.le_of_ble_eq_true rfl)))
      · intro y h1 h2; simp only [h1, h2, if_false]
      · show PairsAre _ [pr _ j0, pr _ j1, pr _ j2, pr _ j3]
        exact .cons _ _ _ _ (.cons _ _ _ _ (.cons _ _ _ _ (.cons _ _ _ _ .nil)))
      · intro y h1 h2; simp only [h1, h2, if_false]
      · show PairsAre _ [pr _ j1, pr _ j0, pr _ j2, pr _ j3]
        exact .cons _ _ _ _ (.cons _ _ _ _ (.cons _ _ _ _ (.cons _ _ _ _ .nil)))
      · intro y h1 h2; simp only [h1, h2, if_false]
      · show PairsAre _ [pr _ j1, pr _ j2, pr _ j0, pr _ j3]
        exact .cons _ _ _ _ (.cons _ _ _ _ (.cons _ _ _ _ (.cons _ _ _ _ .nil)))
      · intro y h1 h2; simp only [h1, h2, if_false]
      · show PairsAre _ [pr _ j1, pr _ j2, pr _ j3, pr _ j0]
        exact .cons _ _ _ _ (.cons _ _ _ _ (.cons _ _ _ _ (.cons _ _ _ _ .nil)))
    · clear F10 N10
      intro D vT e h' tk' u' F11 N11 hPT hlT
      rename PairsAre _ (thereP _ _) => hPT
      rename StrsAre _ [sgn _ _, _, _, _] => iS
      rename StrsAre _ [cod _ _, _, _, _] => iC
      rename (Str.length _ ≤ 18 * 5) => htext
      rename List Int => scr
      dsimp only
      k_steps
      rename Fr _ _ _ _ => F12
      (with_unfolding_all refine For_invVF F12 (by rfl) (by rfl) ?_)
      k_steps
      (with_unfolding_all refine rangeLoop (n := tmN _) (fun m₀ i m => ∃ t u, m = canonN (fwd x p text i) t u m₀) (by rfl) (by assumption) (up_small _) (up_size _) (by assumption) (by assumption) ?_ ?_ ?_)
      · exact ⟨_, _, canonN_of rfl fun _ _ _ => rfl⟩
      · rintro i ti m₁ h13 tk13 own hi ⟨tw, u13, rfl⟩ F13 N13
        have hi3 := tm_lt hi
        have ei : (1 + ((i : Nat) : Int) * 1) = ((i + 1 : Nat) : Int) := by omega
        rw [ei] at F13
        simp only [List.cons_append, List.nil_append] at N13
        (try k_fold)
        dsimp only
        k_steps
        simp only [List.append_nil]
        k_dflt (refine' tReplace hPT ?z _ _ _ (goThere x p text htext hp i hi3) _ _ _ _ _ _ _ _ _ _ _ _ _ _ _ _ _ ?k1 ?k2 ?k3 ?k4 ?k5 ?k6 ?k7 ?k8 ?_; (case k2 => k_asm); (case k4 => k_asm); (case k1 => k_asm); (case k3 => k_asm);  (case k5 => k_asm); (case k6 => exact rfl); (case k7 => ktr_room); (case k8 => ktr_units); (case z => omega))
        rintro v14 h14 tk14 ⟨t14, rfl⟩ F14 N14
        dsimp only
        k_steps
        k_dflt (refine' tWritten (vS := vS) (vC := vC) ?q1 iS ?q2 ?q3 ?q4 iC ?q5 ?q6 _ ?q7 _ _ ?q8 ?q9 _ _ _ _ _ _ _ _ _ _ _ _ _ _ _ _ _ _ _ _ ?k1 ?k2 ?k3 ?k4 ?k5 ?k6 ?k7 ?k8 ?_; (case k2 => k_asm); (case k4 => k_asm); (case k1 => k_asm); (case k3 => k_asm);  (case k5 => k_asm); (case k6 => exact rfl); (case k7 => ktr_room); (case k8 => ktr_units); (case q1 => k_mem); (case q2 => rfl); (case q3 => exact sgn_all x); (case q4 => k_mem); (case q5 => rfl); (case q6 => exact cod_all x); (case q7 => omega); (case q8 => omega); (case q9 => omega))
        rintro v15 h15 tk15 ⟨t15, rfl⟩ F15 N15
        dsimp only
        k_steps
        · rename ((_ != _) = true) => hc
          exact absurd hc (ne_self _)
        · (with_unfolding_all refine turnN F15 N15 (by rfl) ?_ (fwd_pos x p text (Nat.succ_ne_zero i)).symm)
          intro y h1 h2
          simp only [canonN, h1, h2, if_false]
      · rintro m₁ h13 tk13 ⟨tw, u13, rfl⟩ F13 N13
        rw [fwd_pos x p text (by rcases tm_in scr.length with e | e | e <;> omega)] at F13
        dsimp only
        k_steps
        rename Fr _ _ _ _ => F16
        (with_unfolding_all refine For_invVF F16 (by rfl) (by rfl) ?_)
        k_steps
        (with_unfolding_all refine rangeLoop (n := tmN scr.length) (fun m₀ i m => ∃ t u, m = canonN (encAll (wsX x) (ksX x) p ((tmN scr.length - i : Nat) : Int) text.cps.toList) t u m₀) (by rfl) (by assumption) (down_small _) (down_size _) (by assumption) (by assumption) ?_ ?_ ?_)
        · exact ⟨_, _, canonN_of rfl fun _ _ _ => rfl⟩
        · rintro i ti m₁ h17 tk17 own hi ⟨tw', u17, rfl⟩ F17 N17
          have hi3 := tm_lt hi
          obtain ⟨k, hk⟩ : ∃ k, tmN scr.length - i = k + 1 := ⟨tmN scr.length - i - 1, by omega⟩
          have hk3 : k < 3 := by rcases tm_in scr.length with e | e | e <;> omega
          have ei : (1 + ((scr.length : Int).fdiv 4 + 1).fmod 3 - 1 + ((i : Nat) : Int) * (-1)) = (k : Int) := by rw [tm_cast]; omega
          rw [ei, hk] at F17
          have hk' : tmN scr.length - (i + 1) = k := by omega
          rw [hk']
          simp only [List.cons_append, List.nil_append] at N17
          (try k_fold)
          dsimp only
          k_steps
          k_dflt (refine' tReplace (ps := backP x) ?hb ?z _ _ _ (goBack x p text htext hp k hk3) _ _ _ _ _ _ _ _ _ _ _ _ _ _ _ _ _ ?k1 ?k2 ?k3 ?k4 ?k5 ?k6 ?k7 ?k8 ?_; (case k2 => k_asm); (case k4 => k_asm); (case k1 => k_asm); (case k3 => k_asm);  (case k5 => k_asm); (case k6 => exact rfl); (case k7 => ktr_room); (case k8 => ktr_units); (case hb => exact .cons _ _ _ _ (.cons _ _ _ _ (.cons _ _ _ _ (.cons _ _ _ _ .nil)))); (case z => exact Nat.le_of_ble_eq_true rfl))
          rintro v14 h14 tk14 ⟨t14, rfl⟩ F14 N14
          dsimp only
          k_steps
          k_dflt (refine' tWritten (vS := vS) (vC := vC) ?q1 iS ?q2 ?q3 ?q4 iC ?q5 ?q6 _ ?q7 _ _ ?q8 ?q9 _ _ _ _ _ _ _ _ _ _ _ _ _ _ _ _ _ _ _ _ ?k1 ?k2 ?k3 ?k4 ?k5 ?k6 ?k7 ?k8 ?_; (case k2 => k_asm); (case k4 => k_asm); (case k1 => k_asm); (case k3 => k_asm);  (case k5 => k_asm); (case k6 => exact rfl); (case k7 => ktr_room); (case k8 => ktr_units); (case q1 => k_mem); (case q2 => rfl); (case q3 => exact sgn_all x); (case q4 => k_mem); (case q5 => rfl); (case q6 => exact cod_all x); (case q7 => omega); (case q8 => omega); (case q9 => omega))
          rintro v15 h15 tk15 ⟨t15, rfl⟩ F15 N15
          dsimp only
          k_steps
          · rename ((_ != _) = true) => hc
            exact absurd hc (ne_self _)
          · (with_unfolding_all refine turnN F15 N15 (by rfl) ?_ rfl)
            intro y h1 h2
            simp only [canonN, h1, h2, if_false]
        · rintro m₁ h17 tk17 ⟨tw', u17, rfl⟩ F17 N17
          dsimp only
          k_steps
          (with_unfolding_all refine endJ F17 N17 ?_ ?_ rfl)
          · intro y hy
            have hy' := hy
            simp only [not_or] at hy
            obtain ⟨y1, y2, y3, y4⟩ := hy
            simp only [canonN, canonT, canonP, y1, y2, y3, y4, if_false, or_self]
          · exact ⟨_, by assumption⟩
  · rintro m nx h tk ⟨u, o', v, rfl, hd, rfl⟩ F9 N9
    dsimp only [set4] at N9
    k_steps)
end Mine
end

theorem PySem.Challenge.cw_mq0462_01_holds : PySem.Challenge.rw_mq0462_01.Holds :=
  Mine.main01
