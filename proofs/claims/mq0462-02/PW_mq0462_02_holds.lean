import PyProof.Rows.All
import Wide.All
import OpenK.AllK
import Wide.FinOn
import PySem.Challenge.RW_mq0462_02
set_option Elab.async false
set_option maxRecDepth 100000
set_option maxHeartbeats 60000000
set_option linter.all false

section
open PySem PySem.W PyProof.Rows
namespace Mine
open_top hd for PySem.Challenge.rw_mq0462_02
end Mine
end

section
open PySem PySem.W PyProof.Rows
namespace Mine
theorem offTop : True := by
  w_top off
  trivial
theorem warm : PySem.Challenge.rw_mq0462_02 = PySem.Challenge.rw_mq0462_02 ∧ hd.heap_39 = hd.heap_39 := by
  k_fill
  exact ⟨rfl, rfl⟩

inductive PairsAre : List Value → List (Str × Str) → Prop
  | nil : PairsAre [] []
  | cons {vs : List Value} {ps : List (Str × Str)} (a b : Str) (t u : Tok) : PairsAre vs ps → PairsAre (.str a t :: .str b u :: vs) ((a, b) :: ps)

def replOne (x a b : Str) : Str := Txt.join b (Txt.split x a)
def replAll : Str → List (Str × Str) → Str
  | x, [] => x
  | x, (a, b) :: r => replAll (replOne x a b) r

abbrev Tell (p : Program) (w : World) (K : Frag) (loose : List Str) (mean : ExcName → Option Value) (mg mb : Str → Option Value) (f : Addr) (news : List (Addr × Obj)) (vs : List Value) (R : Value → Prop) : Prop :=
  ∀ (dp un : Nat) (gd : Option (List Code)) (cn : Str) (cs : Scope) (a : Addr) (ccd : Value) (cl : List (Str × Addr)) (outer : List Env) (A₀ : Around) (base h₀ : Heap) (L : Addr) (m : Str → Option Value) (s : Shared) (Q E : Value → Shared → Prop),
    Below A₀ base outer h₀ → Fr h₀ L s.heap m → K.In h₀ → News h₀ L s.heap news → Top hd.view_39 loose mean mg mb h₀ → cs.kind = .function →
    dp + 2 < recursionLimit → un + 16 < cLine →
    (∀ v h' tk', R v → Fr h₀ L h' m → News h₀ L h' news → Q v { s with heap := h', toks := tk' }) →
    wpAny (model p w) (ktrTop dp un gd cn cs L a ccd cl outer) (call (.ref f) vs) Q E s

theorem bindRest {K : Frag} {S : Setting} {q n n2 : Str} {pos pos2 : Pos} {body : List Stmt} {scope : Scope} {dcl pm cd : Value} {v : Value} {vs : List Value} (hz : vs.length ≤ sizeLine) :
    peek1 K S (bindArgs (fnOf q q { posonlyargs := [], args := [{ arg := n, annotation := none, pos := pos }], vararg := some { arg := n2, annotation := none, pos := pos2 }, kwonlyargs := [], kw_defaults := [], kwarg := none, defaults := [] } body scope .none .none dcl pm none cd .none) ⟨v :: vs, []⟩)
      = some (({ cls := .type "tuple", data := .seq vs.toArray } : Obj), fun D => some [(n, v), (n2, .ref D)]) := by
  have e : bindArgs (fnOf q q { posonlyargs := [], args := [{ arg := n, annotation := none, pos := pos }], vararg := some { arg := n2, annotation := none, pos := pos2 }, kwonlyargs := [], kw_defaults := [], kwarg := none, defaults := [] } body scope .none .none dcl pm none cd .none) ⟨v :: vs, []⟩
    = (do let r ← newTuple vs; pure [(n, v), (n2, r)]) := by
    simp [bindArgs, seqItems?, List.lookup]
    rfl
  rw [e]
  unfold newTuple newObj
  have hz' : ¬ (vs.toArray.size > sizeLine) := by simpa using hz
  simp only [hz', if_false]
  rfl

def mRep (x : Str) (t : Tok) (D : Addr) : Str → Option Value := fun y => if y = "pairs" then some (.ref D) else if y = "text" then some (.str x t) else none
theorem mRep_start (x : Str) (t : Tok) (D : Addr) : (fun y => List.lookup y [(Str.ofString "text", Value.str x t), (Str.ofString "pairs", Value.ref D)].reverse) = mRep x t D := by
  funext y
  simp only [List.reverse_cons, List.reverse_nil, List.nil_append, List.cons_append, List.lookup, mRep]
  by_cases h1 : y = Str.ofString "pairs"
  · subst h1; rfl
  · by_cases h2 : y = Str.ofString "text"
    · subst h2; rfl
    · have e1 : (y == Str.ofString "pairs") = false := by simpa using h1
      have e2 : (y == Str.ofString "text") = false := by simpa using h2
      rw [e1, e2]; simp [h1, h2]


inductive Runs : Str → List (Str × Str) → Str → Prop
  | nil (x : Str) : Runs x [] x
  | cons {x a b y : Str} {r : List (Str × Str)} : (a.length == 0) = false → x.length ≤ 2048 → b.length ≤ 64 → Runs (replOne x a b) r y → Runs x ((a, b) :: r) y


section
variable {prog : Program} {w : World} {A : Around} {E : Value → Shared → Prop} {s : Shared} {D L : Addr} {h₀ : Heap} {m : Str → Option Value} {news : List (Addr × Obj)} {e : Nat}
theorem isTupN {vs : List Value} (N : News h₀ L s.heap news) (hm : (D, ({ cls := .type "tuple", data := .seq vs.toArray e } : Obj)) ∈ news) : IsTup s.heap D vs.toArray := ⟨_, News.get N hm, rfl, e, rfl⟩
theorem tupTrue {v : Value} {vs : List Value} {Q : Bool → Shared → Prop} (N : News h₀ L s.heap news) (hm : (D, ({ cls := .type "tuple", data := .seq (v :: vs).toArray e } : Obj)) ∈ news) (hz : (v :: vs).length ≤ 1000)
    (h : Q true { s with toks := s.toks + 1 + 1 }) : wpAny (model prog w) A (truthy (.ref D)) Q E s :=
  ktl_truthy (News.get N hm) (by simp only [List.size_toArray]; omega) h
theorem tupFalse {Q : Bool → Shared → Prop} (N : News h₀ L s.heap news) (hm : (D, ({ cls := .type "tuple", data := .seq ([] : List Value).toArray e } : Obj)) ∈ news)
    (h : Q false { s with toks := s.toks + 1 + 1 }) : wpAny (model prog w) A (truthy (.ref D)) Q E s :=
  ktl_truthy (News.get N hm) (by decide) h
theorem tupItem0 {value slice : Expr} {a : Value} {vs : List Value} {u : Tok} {Q : Value → Shared → Prop} (N : News h₀ L s.heap news) (hm : (D, ({ cls := .type "tuple", data := .seq (a :: vs).toArray e } : Obj)) ∈ news) (h : Q a s)
    (hs : subscripted slice false (.ref D) (.int 0 u) = operate [.ref D, .int 0 u] (getItem (.ref D) (.int 0 u)) := by with_unfolding_all rfl) :
    wpAny (model prog w) A (subscriptTail value slice (.ref D) (.int 0 u)) Q E s :=
  item_tupleT (isTupN N hm) (by decide) (by decide) (j := 0) (by simp [seqIndex?]) rfl h hs
theorem tupItem1 {value slice : Expr} {a b : Value} {vs : List Value} {u : Tok} {Q : Value → Shared → Prop} (N : News h₀ L s.heap news) (hm : (D, ({ cls := .type "tuple", data := .seq (a :: b :: vs).toArray e } : Obj)) ∈ news) (h : Q b s)
    (hs : subscripted slice false (.ref D) (.int 1 u) = operate [.ref D, .int 1 u] (getItem (.ref D) (.int 1 u)) := by with_unfolding_all rfl) :
    wpAny (model prog w) A (subscriptTail value slice (.ref D) (.int 1 u)) Q E s :=
  item_tupleT (isTupN N hm) (by decide) (by decide) (j := 1) (by simp [seqIndex?]; omega) rfl h hs
end
local macro_rules | `(tactic| walk_at "truthy ref") => `(tactic| (k_here; first | refine tupTrue (by k_asm) (by k_mem) (by k_asm) ?_ | refine tupFalse (by k_asm) (by k_mem) ?_))
local macro_rules | `(tactic| walk_at "subscriptTail Name Constant ref int") => `(tactic| (k_here; first
  | ((with_reducible show wpAny _ _ (subscriptTail _ _ (Value.ref _) (Value.int 0 _)) _ _ _); refine tupItem0 (by k_asm) (by k_mem) ?_)
  | ((with_reducible show wpAny _ _ (subscriptTail _ _ (Value.ref _) (Value.int 1 _)) _ _ _); refine tupItem1 (by k_asm) (by k_mem) ?_)))


theorem split_count (x y : Str) : (Txt.split x y).length ≤ x.length + 2 := by
  unfold Txt.split
  split
  · simp
  · split
    · simp
    · have e1 := StrLaws.occ_length_le x y 0 x.length (x.length + 1)
      rw [length_partsBetween]; omega
theorem join_fits {x a b : Str} {l : List (Str × Tok)} (e : l.map (·.1) = Txt.split x a) (hl : ∀ p ∈ l.map (·.1), p.length ≤ x.length) (hx : x.length ≤ 2048) (hb : b.length ≤ 64) :
    ((l.map (·.1)).map (·.length)).sum + (l.map (·.1)).length * b.length ≤ 16777216 := by
  have h1 := StrLaws.sumLen_le _ hl
  have h2 := split_count x a
  rw [← e] at h2
  have h3 : (l.map (·.1)).length * x.length ≤ 2050 * 2048 := Nat.mul_le_mul (by omega) hx
  have h4 : (l.map (·.1)).length * b.length ≤ 2050 * 64 := Nat.mul_le_mul (by omega) hb
  omega
section
variable {prog : Program} {w : World} {A : Around} {E : Value → Shared → Prop} {s : Shared} {D L : Addr} {h₀ : Heap} {m : Str → Option Value} {news : List (Addr × Obj)} {n : Nat}
theorem joinSplit {x a b : Str} {u : Tok} {l : List (Str × Tok)} {Q : Value → Shared → Prop} (e : l.map (·.1) = Txt.split x a) (hi : StrsAre (strValues l) (l.map (·.1))) (hl : ∀ p ∈ l.map (·.1), p.length ≤ x.length) (hL : s.heap.IsList D (strValues l).toArray) (hx : x.length ≤ 2048) (hb : b.length ≤ 64)
    (h : ∀ t' k, Q (.str (replOne x a b) t') { s with toks := k }) : wpAny (model prog w) A (call (.builtin "str.join") [.str b u, .ref D]) Q E s := by
  refine join_list hL hi (join_fits e hl hx hb) ?_
  intro t' k
  rw [e]
  exact h t' k
end
local macro_rules | `(tactic| walk_at "call builtin:str.join") => `(tactic| (k_here; (with_reducible show wpAny _ _ (call (Value.builtin "str.join") [Value.str _ _, Value.ref _]) _ _ _); refine joinSplit (by assumption) (by assumption) (by assumption) (by assumption) (by assumption) (by assumption) ?_; intro _ _))


section
variable {prog : Program} {w : World} {A : Around} {E : Value → Shared → Prop} {s : Shared} {h₀ : Heap} {L : Addr} {m : Str → Option Value} {news : List (Addr × Obj)}
theorem tupDrop2 {value slice : Expr} {t : Addr} {v1 v2 : Value} {vs : List Value} {e : Nat} {u : Tok} {Q : Value → Shared → Prop}
    (F : Fr h₀ L s.heap m) (N : News h₀ L s.heap news) (hm : (t, ({ cls := .type "tuple", data := .seq (v1 :: v2 :: vs).toArray e } : Obj)) ∈ news) (hz : (v1 :: v2 :: vs).length ≤ 1000)
    (h : ∀ D h', Fr h₀ L h' m → News h₀ L h' ((D, { cls := .type "tuple", data := .seq vs.toArray }) :: news) → Q (.ref D) { s with heap := h' })
    (hs : subscripted slice false (.ref t) (.ref s.heap.objs.size) = operate [.ref s.heap.objs.size, .ref t] (getItem (.ref t) (.ref s.heap.objs.size)) := by with_unfolding_all rfl)
    (hg : ∀ r, letTemporaryGo value (.ref t) r = pure () := by intro _; with_unfolding_all rfl) :
    wpAny (model prog w) A (subscriptTail value slice (.ref t) (.ref s.heap.objs.size)) Q E { s with heap := s.heap.push { cls := .type "slice", data := .fields #[.int 2 u, .none, .none] } } :=
  slice_tuple_from (a := 2) F N (isTupN N hm) (by decide) (by simp) (fun h' F' N' => h _ h' F' N') hs hg (by simp only [List.size_toArray]; exact Nat.le_trans hz (by decide))
end
local macro_rules | `(tactic| walk_at "subscriptTail Name Slice ref ref") => `(tactic| (k_here; (with_reducible show wpAny _ _ (subscriptTail _ _ (Value.ref _) (Value.ref _)) _ _ _); (with_unfolding_all refine tupDrop2 (by k_asm) (by k_asm) (by k_mem) (by k_asm) ?_ ?_ ?_); (rotate_left; (with_unfolding_all rfl); (intro _; with_unfolding_all rfl)); intro D' h' F' N'))

theorem mRep_set (x y : Str) (t u : Tok) (D D' : Addr) : (fun z => if z = Str.ofString "pairs" then some (Value.ref D') else if z = Str.ofString "text" then some (Value.str y u) else mRep x t D z) = mRep y u D' := by
  funext z
  simp only [mRep]
  split
  · rfl
  · split <;> rfl
theorem tReplace {w : World} {loose : List Str} {mean : ExcName → Option Value} {mg mb : Str → Option Value} {news : List (Addr × Obj)} {vs : List Value} {ps : List (Str × Str)} (hp : PairsAre vs ps) (hz : vs.length ≤ 1000) (x y : Str) (t : Tok) (hr : Runs x ps y) :
    Tell PySem.Challenge.rw_mq0462_02.row.prog w (hd.heap_39 w.params) loose mean mg mb 21 news (.str x t :: vs) (fun v => ∃ t', v = .str y t') := by
  intro dp un gd cn cs a ccd cl outer A₀ base h₀ L m s Q E B F X N T hk hdp hun hret
  refine wpAny_call ?_
  k_dflt (refine' kp_rest (vs := vs) ?k1 ?k2 ?k3 ?k4 ?k5 ?kA ?kF ?kK ?k6 ?k7 ?k8 ?kV ?kP ?kG ?kB ?_ ?c2 ?c3 ?c4 ?c5; (case kA => exact rfl); (case kF => exact rfl); (case kK => exact hk); (case k1 => k_asm); (case k2 => k_asm); (case k3 => k_asm); (case k4 => k_asm); (case k5 => k_asm); (case k6 => k_is); (case k7 => k_is); (case k8 => ktr_room); (case kV => exact rfl); (case kP => exact bindRest (Nat.le_trans hz (by decide))); (case kG => exact fun _ => rfl); (case kB => exact fun _ => locs rfl); (case c5 => decide); (case c2 => exact rfl); (case c3 => exact rfl); (case c4 => exact rfl); k_whole; intro D' g' L' h' l1 FG' F' N' B' X' T'; (try dsimp only); (try k_lift B'); (try k_fold))
  rw [mRep_start] at F'
  walk1
  walk1
  refine While_inv2 (fun n m nx => ∃ vs₁ ps₁ x₁ t₁ D e, n = List.length ps₁ ∧ PairsAre vs₁ ps₁ ∧ vs₁.length ≤ 1000 ∧ Runs x₁ ps₁ y ∧ m = mRep x₁ t₁ D ∧ nx = (D, { cls := .type "tuple", data := .seq vs₁.toArray e }) :: news) F' N' ⟨vs, ps, x, t, D', 0, rfl, hp, hz, hr, rfl, rfl⟩ ?_ (by with_unfolding_all passes_own)
  rintro n m₁ nx h tk F₁ N₁ ⟨vs₁, ps₁, x₁, t₁, D, e, hn, hp₁, hz₁, hr₁, rfl, rfl⟩
  have hf : ¬ (vs₁.toArray.size : Int) ≥ 2 ^ 63 := by simp only [List.size_toArray]; omega
  cases hp₁ with
  | nil =>
    cases hr₁
    k_steps
    all_goals (rename Fr h₀ L _ _ => kF; rename News h₀ L _ _ => kN; exact hret _ _ _ ⟨_, rfl⟩ kF (cb_drop kN fun p hp => .tail _ hp))
  | cons a b t u hq =>
    cases hr₁ with
    | cons ha hx hb hr₂ =>
    k_steps
    rename Fr g' L' _ _ => kF
    rename News g' L' _ _ => kN
    rw [mRep_set] at kF
    refine ⟨_, _, _, _, _, rfl, kF, cb_drop kN (fun p hp => ?_), ?_, _, _, _, _, _, 0, rfl, hq, ?_, hr₂, rfl, rfl⟩
    · rcases List.mem_cons.mp hp with rfl | hp
      · exact .head _
      · exact .tail _ (.tail _ (.tail _ hp))
    · subst hn; exact Nat.lt_succ_self _
    · simp only [List.length_cons] at hz₁ ⊢; omega
end Mine
end

section
open PySem PySem.W PyProof.Rows PySem.Calls PySem.SeqAt PySem.Builtin.Str
namespace Mine
local macro_rules | `(tactic| walk_at "no such key 0") => `(tactic| fail)

section
variable {prog : Program} {w : World} {A : Around} {E : Value → Shared → Prop} {s : Shared} {h₀ : Heap} {L : Addr} {news : List (Addr × Obj)}
theorem listItem {value slice : Expr} {a : Addr} {vs : List Value} {ws : List Str} {n nn : Nat} {k : Int} {u : Tok} {Q : Value → Shared → Prop} (N : News h₀ L s.heap news) (hm : (a, listOf vs.toArray n) ∈ news) (hi : StrsAre vs ws) (hl : ws.length = nn)
    (h0 : 0 ≤ k) (hk : k < (nn : Int)) (hz : nn ≤ 1000) (h : ∀ t', Q (.str (ws.getD k.toNat Str.empty) t') s)
    (hs : subscripted slice false (.ref a) (.int k u) = operate [.ref a, .int k u] (getItem (.ref a) (.int k u)) := by with_unfolding_all rfl) (hg : ∀ r, letTemporaryGo value (.ref a) r = pure () := by intro _; with_unfolding_all rfl) :
    wpAny (model prog w) A (subscriptTail value slice (.ref a) (.int k u)) Q E s :=
  item_strsA (News.isList N hm) hi h0 (by omega) (by omega) h hs hg
end
theorem getD_len {ws : List Str} {b : Nat} (hb : ∀ y ∈ ws, y.length ≤ b) (i : Nat) : (ws.getD i Str.empty).length ≤ b := by
  rcases Nat.lt_or_ge i ws.length with h | h
  · rw [List.getD_eq_getElem?_getD, List.getElem?_eq_getElem h]
    exact hb _ (List.getElem_mem h)
  · rw [List.getD_eq_getElem?_getD, List.getElem?_eq_none h]
    exact Nat.zero_le _
local macro_rules | `(tactic| walk_at "subscriptTail") => `(tactic| (k_here; (with_reducible show wpAny _ _ (subscriptTail _ _ (Value.ref _) (Value.int _ _)) _ _ _); refine listItem (by k_asm) (by assumption) (by assumption) (by assumption) (by first | decide | exact fmod_lo _ (by decide)) (by first | decide | exact fmod_hi _ (by decide)) (by decide) ?_; intro _))
local macro_rules | `(tactic| walk_at "subscriptTail Name Constant ref int") => `(tactic| (k_here; (with_reducible show wpAny _ _ (subscriptTail _ _ (Value.ref _) (Value.int _ _)) _ _ _); refine listItem (by k_asm) (by assumption) (by assumption) (by assumption) (by first | decide | exact fmod_lo _ (by decide)) (by first | decide | exact fmod_hi _ (by decide)) (by decide) ?_; intro _))
local macro_rules | `(tactic| walk_at "subscriptTail Name BinOp ref int") => `(tactic| (k_here; (with_reducible show wpAny _ _ (subscriptTail _ _ (Value.ref _) (Value.int _ _)) _ _ _); refine listItem (by k_asm) (by assumption) (by assumption) (by assumption) (by first | decide | exact fmod_lo _ (by decide)) (by first | decide | exact fmod_hi _ (by decide)) (by decide) ?_; intro _))

local macro_rules | `(tactic| kt_len) => `(tactic| exact getD_len (by assumption) _)
theorem mulOk_small {x : Str} {n : Int} (hx : x.length ≤ 4) (h0 : -1000 ≤ n) (h1 : n ≤ 5) : MulOk x n := by
  refine ⟨by simp; omega, fun h _ => ?_, fun h _ => ?_⟩
  · have hn : n = 1 ∨ n = 2 ∨ n = 3 ∨ n = 4 ∨ n = 5 := by omega
    rcases hn with rfl | rfl | rfl | rfl | rfl <;> simp only [gt_iff_lt, Int.not_lt] <;> omega
  · have : x.length * n.toNat ≤ 4 * 5 := Nat.mul_le_mul hx (by omega)
    unfold tooLong
    exact decide_eq_false (by rw [sizeLine_eq]; omega)
theorem mul_foldl (c : Array Nat) : ∀ (k : Nat) (a : Array Nat), (List.replicate k c).foldl (· ++ ·) a = a ++ ((List.replicate k c.toList).flatten).toArray
  | 0, a => by simp
  | k + 1, a => by
    rw [List.replicate_succ, List.foldl_cons, mul_foldl c k]
    rw [List.replicate_succ, List.flatten_cons, Array.append_assoc]
    congr 1
    simp
theorem mul_list (x : Str) (n : Int) : (Txt.mul x n).cps.toList = (List.replicate n.toNat x.cps.toList).flatten := by
  unfold Txt.mul
  split
  · next h =>
    have : n.toNat = 0 := by omega
    rw [this]; rfl
  · split
    · next h =>
      simp only [Bool.or_eq_true, beq_iff_eq] at h
      rcases h with rfl | h
      · simp
      · have hz : x.cps.toList = [] := by
          have : x.cps.toList.length = 0 := by simpa [Str.length] using h
          exact List.length_eq_zero_iff.mp this
        rw [hz]; simp
    · rw [mul_foldl]; simp
theorem len_mul {x : Str} {n : Int} (hx : x.length ≤ 1) (h1 : n ≤ 5) : (Txt.mul x n).length ≤ 5 := by
  have e : (Txt.mul x n).length = (Txt.mul x n).cps.toList.length := by simp [Str.length]
  rw [e, mul_list]
  have hl : x.cps.toList.length ≤ 1 := by simpa [Str.length] using hx
  have hk : n.toNat ≤ 5 := by omega
  simp only [List.length_flatten, List.map_replicate, List.sum_replicate_nat]
  exact Nat.le_trans (Nat.mul_le_mul hk hl) (by decide)
section
variable {prog : Program} {w : World} {A : Around} {E : Value → Shared → Prop} {s : Shared} {x : Str} {n : Int} {t u : Tok} {Q : Value → Shared → Prop}
theorem mulS (hx : x.length ≤ 1) (h0 : 0 ≤ n) (h1 : n < 5) (h : ∀ t' k, Q (.str (Txt.mul x (1 + n)) t') { s with toks := k }) : wpAny (model prog w) A (binaryOp .Mult (.str x t) (.int (1 + n) u)) Q E s := SB.mul (mulOk_small (by omega) (by omega) (by omega)) h
end
theorem len_app {x y : Str} {a b : Nat} (hx : x.length ≤ a) (hy : y.length ≤ b) : (x ++ y).length ≤ a + b := by rw [Str.length_append]; omega
local macro_rules | `(tactic| walk_at "binaryOp Mult str int") => `(tactic| (k_here; (with_reducible show wpAny _ _ (binaryOp Operator.Mult (Value.str _ _) (Value.int _ _)) _ _ _); k_dflt (refine mulS (by exact getD_len (by assumption) _) (fmod_lo _ (by decide)) (fmod_hi _ (by decide)) ?_; intro _ _)))
local macro_rules | `(tactic| kt_len) => `(tactic| (refine len_app ?_ ?_ <;> kt_len))
theorem tPiece {w : World} {loose : List Str} {mean : ExcName → Option Value} {mg mb : Str → Option Value} {news : List (Addr × Obj)} {aS : Addr} {vS : List Value} {nS : Nat} {ws : List Str}
    (hS : (aS, listOf vS.toArray nS) ∈ news) (iS : StrsAre vS ws) (lS : ws.length = 5) (bS : ∀ y ∈ ws, y.length ≤ 1) (x : Int) (tx : Tok) :
    Tell PySem.Challenge.rw_mq0462_02.row.prog w (hd.heap_39 w.params) loose mean mg mb 33 news [.int x tx, .ref aS] (fun v => ∃ y t, v = .str y t ∧ y.length ≤ 5) := by
  intro dp un gd cn cs a ccd cl outer A₀ base h₀ L m s Q E B F X N T hk hdp hun hret
  refine wpAny_call ?_
  k_dflt cell_enter
  k_steps
  all_goals (rename Fr h₀ L _ _ => kF; rename News h₀ L _ _ => kN; refine hret _ _ _ ⟨_, _, rfl, ?_⟩ kF kN)
  · exact Nat.le_trans (getD_len bS _) (by decide)
  · exact len_mul (getD_len bS _) (by have := fmod_hi (x.fdiv 6) (n := 5) (by decide); omega)
  · have h1 := getD_len bS (Int.toNat 4)
    have h2 := getD_len bS (Int.toNat 3)
    rw [Str.length_append, Str.length_append]; omega
  · omega
  · have h1 := getD_len bS (Int.toNat 0)
    rw [Str.length_append, Str.length_append]
    have h2 : (Str.ofString ";").length = 1 := by decide
    omega
  · exact Nat.le_of_ble_eq_true rfl
  · exact Nat.le_of_ble_eq_true rfl
end Mine
end

section
open PySem PySem.W PyProof.Rows PySem.Calls
namespace Mine

def TurnEnd (h₀ : Heap) (L : Addr) (s : Shared) (news : List (Addr × Obj)) (J : (Str → Option Value) → Prop) (Q : Flow → Shared → Prop) (f : Flow) (s₂ : Shared) : Prop :=
  match f with
  | .ret v => Q (.ret v) s₂
  | .brk => Q .next s₂
  | _ => ∃ h' tk m', s₂ = { s with heap := h', toks := tk } ∧ Fr h₀ L h' m' ∧ News h₀ L h' news ∧ J m'

section
variable {prog : Program} {w : World} {A : Around} {E : Value → Shared → Prop} {s : Shared} {env : Env} {h₀ : Heap} {x : Str} {body : List Stmt} {Q : Flow → Shared → Prop}
theorem loopFix {I : Addr} {fp wr : List Addr} {n : Nat} {P : Nat → Value → Prop} {St : Nat → Heap → Prop} {m₀ : Str → Option Value} {news : List (Addr × Obj)} (J : Nat → (Str → Option Value) → Prop)
    (W : Walks prog w A I fp wr n P St) (hLf : env.locals ∉ fp) (hwr : ∀ b ∈ wr, h₀.get? b = none) (hnw : ∀ p ∈ news, p.1 ∉ wr) (hfp : ∀ q ∈ news, q.1 ∉ fp) (hst : St 0 s.heap) (F : Fr h₀ env.locals s.heap m₀) (N : News h₀ env.locals s.heap news) (hj : J 0 m₀)
    (turn : ∀ i v m₁ h tk own, i < n → P i v → J i m₁ → Fr h₀ env.locals h (fun y => if y = x then some v else m₁ y) → News h₀ env.locals h (news ++ own) →
      wpAny (model prog w) A (execs body env) (TurnEnd h₀ env.locals s (news ++ own) (J (i + 1)) Q) E { s with heap := h, toks := tk })
    (done : ∀ m₁ h tk, J n m₁ → Fr h₀ env.locals h m₁ → News h₀ env.locals h news → Q .next { s with heap := h, toks := tk }) :
    LoopAtV prog w A h₀ env x body Q E (.ref I) s := by
  refine loop_invN (fun i m nx => nx = news ∧ J i m) W hLf hwr hnw hfp hst F N ⟨rfl, hj⟩ ?_ ?_
  · rintro i v m₁ nx h tk own hi hP _ _ ⟨rfl, hJ⟩ F₁ N₁
    refine wpAny_mono (turn i v m₁ h tk own hi hP hJ F₁ N₁) (fun f s₂ e => ?_) fun _ _ e => e
    have fin : (∃ h' tk m', s₂ = { s with heap := h', toks := tk } ∧ Fr h₀ env.locals h' m' ∧ News h₀ env.locals h' (nx ++ own) ∧ J (i + 1) m') →
        InvEndN h₀ env.locals (fun m nx' => nx' = nx ∧ J (i + 1) m) own (nx.map (·.1)) { s with heap := h, toks := tk } s₂ := by
      rintro ⟨h', tk', m', rfl, F', N', hJ'⟩
      exact ⟨h', tk', m', nx ++ own, nx, rfl, F', N', fun p hp => List.mem_append_left _ hp, fun p hp => List.mem_append_right _ hp, rfl, rfl, hJ'⟩
    cases f with
    | ret v => exact e
    | brk => exact e
    | next => exact fin e
    | cont => exact fin e
  · rintro m₁ nx h tk ⟨rfl, hJ⟩ F₁ N₁
    exact done m₁ h tk hJ F₁ N₁

theorem textLoop {xt : Str} {tx : Tok} {m₀ : Str → Option Value} {news : List (Addr × Obj)} (J : (Str → Option Value) → List Nat → (Str → Option Value) → Prop)
    (hh : A.handled = none) (F : Fr h₀ env.locals s.heap m₀) (N : News h₀ env.locals s.heap news) (hj : J m₀ [] m₀)
    (turn : ∀ pre c post t m₁ h tk own, xt.cps.toList = pre ++ c :: post → J m₀ pre m₁ → Fr h₀ env.locals h (fun y => if y = x then some (.str ⟨#[c]⟩ t) else m₁ y) → News h₀ env.locals h (news ++ own) →
      wpAny (model prog w) A (execs body env) (TurnEnd h₀ env.locals s (news ++ own) (J m₀ (pre ++ [c])) Q) E { s with heap := h, toks := tk })
    (done : ∀ m₁ h tk, J m₀ xt.cps.toList m₁ → Fr h₀ env.locals h m₁ → News h₀ env.locals h news → Q .next { s with heap := h, toks := tk }) :
    wpAny (model prog w) A (pyIter (.str xt tx)) (fun it s₂ => LoopAtV prog w A h₀ env x body Q E it s₂) E s := by
  refine wpAny_pyIter_str fun o St hW hst => ?_
  have W := hW A hh
  refine loopFix (s := { s with heap := s.heap.push o }) (fun i m => J m₀ (xt.cps.toList.take i) m) W ?_ ?_ ?_ ?_ hst (F.push _) (fun p hp => ⟨Heap.get?_push_of_some _ (N p hp).1, (N p hp).2⟩) hj ?_ ?_
  · intro hm
    exact absurd F.ns.lt ((List.mem_singleton.mp hm) ▸ Nat.lt_irrefl _)
  · intro b' hb
    rw [List.mem_singleton.mp hb]
    exact next_is_new F
  · intro p hp hI
    exact absurd (Heap.lt_size (N p hp).1) ((List.mem_singleton.mp hI) ▸ Nat.lt_irrefl _)
  · intro p hp hI
    exact absurd (Heap.lt_size (N p hp).1) ((List.mem_singleton.mp hI) ▸ Nat.lt_irrefl _)
  · rintro i v m₁ h tk own hi ⟨n, u, hn, rfl⟩ hJ F₁ N₁
    have hn' : xt.cps.toList[i]? = some n := by simpa using hn
    have hs : xt.cps.toList.take (i + 1) = xt.cps.toList.take i ++ [n] := by simp [List.take_add_one, hn']
    have e : xt.cps.toList = xt.cps.toList.take i ++ n :: xt.cps.toList.drop (i + 1) := by
      have ht := List.take_append_drop (i + 1) xt.cps.toList
      rw [hs, List.append_assoc] at ht
      exact ht.symm
    rw [hs]
    exact turn _ n _ u m₁ h tk own e hJ F₁ N₁
  · intro m₁ h tk hJ F₁ N₁
    have hl : xt.cps.size = xt.cps.toList.length := by simp
    rw [hl, List.take_length] at hJ
    exact done m₁ h tk hJ F₁ N₁
end
end Mine
end

section
open PySem PySem.W PyProof.Rows PySem.Calls PySem.SeqAt PySem.Builtin.Str
namespace Mine
local macro_rules | `(tactic| walk_at "no such key 0") => `(tactic| fail)
local macro_rules | `(tactic| walk_at "no such key 1") => `(tactic| fail)

theorem isStr_at (k : Str) : ∀ {vs : List Value} {ns : List Str}, StrsAre vs ns → ∀ (j : Nat) (h1 : j < vs.length) (h2 : j < ns.length), isStrOf k vs[j] = (ns[j] == k)
  | _, _, .cons n t _, 0, _, _ => rfl
  | _, _, .cons n t r, j + 1, h1, h2 => isStr_at k r j (Nat.lt_of_succ_lt_succ h1) (Nat.lt_of_succ_lt_succ h2)
theorem ne_lt_idx {k : Str} : ∀ {ns : List Str} {j : Nat}, j < ns.idxOf k → ∀ (h2 : j < ns.length), (ns[j] == k) = false
  | n :: r, 0, h, _ => by
    by_cases e : n = k
    · subst e; simp at h
    · simpa using e
  | n :: r, j + 1, h, h2 => by
    by_cases e : n = k
    · subst e; simp at h
    · have hb : (n == k) = false := by simpa using e
      have h' : j < r.idxOf k := by
        rw [List.idxOf_cons, hb] at h
        exact Nat.lt_of_succ_lt_succ h
      exact ne_lt_idx h' (Nat.lt_of_succ_lt_succ h2)
section
variable {prog : Program} {w : World} {A : Around} {E : Value → Shared → Prop} {s : Shared} {h₀ : Heap} {L : Addr} {m : Str → Option Value} {news : List (Addr × Obj)}
theorem index_strs {l : Addr} {vs : List Value} {ns : List Str} {k : Str} {t : Tok} {Q : Value → Shared → Prop} (hl : s.heap.IsList l vs.toArray) (hi : StrsAre vs ns)
    (hz : ns.length ≤ 1000) (hk : k ∈ ns) (h : Q (.int (ns.idxOf k : Nat) s.toks) { s with toks := s.toks + 1 }) :
    wpAny (model prog w) A (call (.builtin "list.index") [.ref l, .str k t]) Q E s := by
  obtain ⟨⟨cls, dd, data, sl⟩, ho, hc, n, hd⟩ := id hl
  simp only at hc hd
  subst hc hd
  have hlen := hi.len_eq
  have hj : ns.idxOf k < ns.length := List.idxOf_lt_length_iff.mpr hk
  refine call_meets PySem.F.slot_list_index ⟨_, ho, rfl⟩ PySem.F.entry_list_index (PySem.F.args_list_index_2 _ _)
    (list_indexAt l vs.toArray n dd sl (.str k t) (isStrOf k) (ns.idxOf k) (by simpa [hlen] using hj) (by omega) ?_ ?_) ⟨ho, fun y hy => (eq_isStrOf k t hi y (by simpa using hy)).at _ _, h⟩
  · show isStrOf k vs[ns.idxOf k] = true
    rw [isStr_at k hi _ (by omega) hj]
    simpa using List.getElem_idxOf hj
  · intro j hjs hlt
    show isStrOf k vs[j] = false
    rw [isStr_at k hi j (by simpa using hjs) (by omega)]
    exact ne_lt_idx hlt _
end

/-- what the law's walk lays for one sign, behind `ahead` line ends -/
def layC (ws ks : List Str) (ending : Str) (turns ahead : Int) (c : Nat) : Str :=
  if (⟨#[c]⟩ : Str) = ws.getD 4 Str.empty then
    (if 0 < ahead ∧ (1 < turns ∨ (turns = 1 ∧ ahead.fmod 2 = 1)) then ws.getD 0 Str.empty ++ ks.getD 3 Str.empty ++ ending else ending)
  else if (⟨#[c]⟩ : Str) ∈ ws then ws.getD 0 Str.empty ++ ks.getD (ws.idxOf (⟨#[c]⟩ : Str)) Str.empty else ⟨#[c]⟩
def nextA (ws : List Str) (ahead : Int) (c : Nat) : Int := if (⟨#[c]⟩ : Str) = ws.getD 4 Str.empty then ahead + 1 else 0
def layS (ws ks : List Str) (ending : Str) (turns : Int) (p : Str × Int) (c : Nat) : Str × Int := (p.1 ++ layC ws ks ending turns p.2 c, nextA ws p.2 c)
def layAll (ws ks : List Str) (ending : Str) (turns : Int) (l : List Nat) : Str × Int := l.foldl (layS ws ks ending turns) (Str.empty, 0)

def canonL (wr : Str) (t : Tok) (n : Int) (tn : Tok) (u m : Str → Option Value) : Str → Option Value := fun y => if y = "laid" then some (.str wr t) else if y = "ahead" then some (.int n tn) else if y = "sign" then u y else m y
theorem canonL_of {m' m : Str → Option Value} {wr : Str} {t : Tok} {n : Int} {tn : Tok} (h1 : m' "laid" = some (.str wr t)) (h3 : m' "ahead" = some (.int n tn)) (h2 : ∀ y : Str, y ≠ "laid" → y ≠ "ahead" → y ≠ "sign" → m' y = m y) : m' = canonL wr t n tn m' m := by
  funext y
  unfold canonL
  split
  · next h => subst h; exact h1
  · split
    · next h => subst h; exact h3
    · split
      · rfl
      · next a b c => exact h2 y a b c
section
variable {prog : Program} {w : World} {A : Around} {E : Value → Shared → Prop} {s : Shared} {h₀ : Heap} {L : Addr} {m : Str → Option Value} {news : List (Addr × Obj)} {a : Addr} {vs : List Value} {ws : List Str} {n : Nat} {k : Str} {t : Tok} {Q : Value → Shared → Prop}
theorem inYes (N : News h₀ L s.heap news) (hm : (a, listOf vs.toArray n) ∈ news) (hi : StrsAre vs ws) (hk : k ∈ ws) (h : Q (.bool true) s) : wpAny (model prog w) A (compareOp .In (.str k t) (.ref a)) Q E s := by
  refine in_list_strs (News.isList N hm) hi ?_
  have e : ws.any (· == k) = true := List.any_eq_true.mpr ⟨k, hk, by simp⟩
  rw [e]; exact h
theorem inNo (N : News h₀ L s.heap news) (hm : (a, listOf vs.toArray n) ∈ news) (hi : StrsAre vs ws) (hk : k ∉ ws) (h : Q (.bool false) s) : wpAny (model prog w) A (compareOp .In (.str k t) (.ref a)) Q E s := by
  refine in_list_strs (News.isList N hm) hi ?_
  have e : ws.any (· == k) = false := by
    rw [List.any_eq_false]
    intro y hy hc
    exact hk ((eq_of_beq hc) ▸ hy)
  rw [e]; exact h
theorem idxN {nn : Nat} (N : News h₀ L s.heap news) (hm : (a, listOf vs.toArray n) ∈ news) (hi : StrsAre vs ws) (hl : ws.length = nn) (hz : nn ≤ 1000) (hk : k ∈ ws) (h : Q (.int (ws.idxOf k : Nat) s.toks) { s with toks := s.toks + 1 }) :
    wpAny (model prog w) A (call (.builtin "list.index") [.ref a, .str k t]) Q E s := index_strs (News.isList N hm) hi (hl ▸ hz) hk h
end
local macro_rules | `(tactic| walk_at "compareOp In str ref") => `(tactic| (k_here; (with_reducible show wpAny _ _ (compareOp CmpOp.In (Value.str _ _) (Value.ref _)) _ _ _); first | refine inYes (by k_asm) (by assumption) (by assumption) (by assumption) ?_ | refine inNo (by k_asm) (by assumption) (by assumption) (by assumption) ?_))
local macro_rules | `(tactic| walk_at "call builtin:list.index") => `(tactic| (k_here; (with_reducible show wpAny _ _ (call (Value.builtin "list.index") [Value.ref _, Value.str _ _]) _ _ _); refine idxN (by k_asm) (by assumption) (by assumption) (by assumption) (by decide) (by assumption) ?_))
local macro_rules | `(tactic| kt_len) => `(tactic| exact getD_len (by assumption) _)
local macro_rules | `(tactic| kt_len) => `(tactic| (refine len_app ?_ ?_ <;> kt_len))


theorem layC_len {ws ks : List Str} {ending : Str} {turns ahead : Int} (lS : ∀ y ∈ ws, y.length ≤ 1) (lC : ∀ y ∈ ks, y.length ≤ 4) (hE : ending.length ≤ 5) (c : Nat) : (layC ws ks ending turns ahead c).length ≤ 10 := by
  have h0 := getD_len lS 0
  have h1 : (⟨#[c]⟩ : Str).length ≤ 1 := Nat.le_refl 1
  have h2 := getD_len lC (ws.idxOf (⟨#[c]⟩ : Str))
  have h3 := getD_len lC 3
  simp only [layC]
  (repeat' split) <;> (try simp only [Str.length_append]) <;> omega
theorem layAll_snoc (ws ks : List Str) (ending : Str) (turns : Int) (l : List Nat) (c : Nat) : layAll ws ks ending turns (l ++ [c]) = layS ws ks ending turns (layAll ws ks ending turns l) c := by
  unfold layAll; rw [List.foldl_append]; rfl
theorem layAll_len {ws ks : List Str} {ending : Str} {turns : Int} (lS : ∀ y ∈ ws, y.length ≤ 1) (lC : ∀ y ∈ ks, y.length ≤ 4) (hE : ending.length ≤ 5) (l : List Nat) :
    (layAll ws ks ending turns l).1.length ≤ l.length * 10 ∧ 0 ≤ (layAll ws ks ending turns l).2 ∧ (layAll ws ks ending turns l).2 ≤ l.length := by
  suffices key : ∀ (r : List Nat), (layAll ws ks ending turns r.reverse).1.length ≤ r.length * 10 ∧ 0 ≤ (layAll ws ks ending turns r.reverse).2 ∧ (layAll ws ks ending turns r.reverse).2 ≤ r.length by
    simpa using key l.reverse
  intro r
  induction r with
  | nil => simp [layAll, Str.empty, Str.length]
  | cons c r ih =>
    obtain ⟨i1, i2, i3⟩ := ih
    rw [List.reverse_cons, layAll_snoc]
    have h1 := layC_len (turns := turns) (ahead := (layAll ws ks ending turns r.reverse).2) lS lC hE c
    simp only [layS, nextA, List.length_cons, Str.length_append]
    refine ⟨by omega, ?_, ?_⟩ <;> split <;> omega

local macro_rules | `(tactic| walk_at "subscriptTail Name Constant ref int") => `(tactic| (k_here; (with_reducible show wpAny _ _ (subscriptTail _ _ (Value.ref _) (Value.int _ _)) _ _ _); refine listItem (by k_asm) (by assumption) (by assumption) (by assumption) (by decide) (by decide) (by decide) ?_; intro _))
local macro_rules | `(tactic| walk_at "subscriptTail") => `(tactic| (k_here; (with_reducible show wpAny _ _ (subscriptTail _ _ (Value.ref _) (Value.int _ _)) _ _ _); refine listItem (by k_asm) (by assumption) (by assumption) (by assumption) (by omega) (by omega) (by decide) ?_; intro _))

theorem turnL {g : Heap} {L : Addr} {s : Shared} {nx : List (Addr × Obj)} {ws ks : List Str} {ending : Str} {turns : Int} {pre : List Nat} {c : Nat} {Q : Flow → Shared → Prop} {h' : Heap} {tk : Nat} {m' m : Str → Option Value} {y : Str} {t : Tok} {n : Int} {tn : Tok}
    (F : Fr g L h' m') (N : News g L h' nx) (h1 : m' "laid" = some (.str y t)) (h3 : m' "ahead" = some (.int n tn)) (h2 : ∀ y : Str, y ≠ "laid" → y ≠ "ahead" → y ≠ "sign" → m' y = m y)
    (e : y = (layAll ws ks ending turns pre).1 ++ layC ws ks ending turns (layAll ws ks ending turns pre).2 c) (e2 : n = nextA ws (layAll ws ks ending turns pre).2 c) :
    TurnEnd g L s nx (fun m' => ∃ t tn u, m' = canonL (layAll ws ks ending turns (pre ++ [c])).1 t (layAll ws ks ending turns (pre ++ [c])).2 tn u m) Q .next { s with heap := h', toks := tk } := by
  refine ⟨h', tk, m', rfl, F, N, t, tn, m', canonL_of ?_ ?_ h2⟩
  · rw [h1, layAll_snoc, e]; rfl
  · rw [h3, layAll_snoc, e2]; rfl

theorem tLaid {w : World} {loose : List Str} {mean : ExcName → Option Value} {mg mb : Str → Option Value} {news : List (Addr × Obj)} {aS aC : Addr} {vS vC : List Value} {nS nC : Nat} {ws ks : List Str} {ending : Str}
    (hS : (aS, listOf vS.toArray nS) ∈ news) (iS : StrsAre vS ws) (lS : ws.length = 5) (bS : ∀ y ∈ ws, y.length ≤ 1)
    (hC : (aC, listOf vC.toArray nC) ∈ news) (iC : StrsAre vC ks) (lC : ks.length = 4) (bC : ∀ y ∈ ks, y.length ≤ 4) (hE : ending.length ≤ 5) (x : Str) (hx : x.length ≤ 128) (turns : Int) (hn0 : 0 ≤ turns) (hn : turns ≤ 3) (tx te tn : Tok) :
    Tell PySem.Challenge.rw_mq0462_02.row.prog w (hd.heap_39 w.params) loose mean mg mb 40 news [.str x tx, .ref aS, .ref aC, .str ending te, .int turns tn] (fun v => ∃ t, v = .str (layAll ws ks ending turns x.cps.toList).1 t) := by
  intro dp un gd cn cs a ccd cl outer A₀ base h₀ L m s Q E B F X N T hk hdp hun hret
  refine wpAny_call ?_
  k_dflt cell_enter
  rename_i g' L' h' FG' F' N' B' X' T'
  iterate 20 walk1
  rename Fr g' L' _ _ => F₁
  rename News g' L' _ _ => N₁
  replace N₁ : News g' L' _ news := cb_drop N₁ fun p hp => .tail _ hp
  (with_unfolding_all refine For_invVF F₁ (by rfl) (by rfl) ?_)
  walk1
  (with_unfolding_all refine textLoop (fun m₀ pre m => ∃ t tn u, m = canonL (layAll ws ks ending turns pre).1 t (layAll ws ks ending turns pre).2 tn u m₀) (by rfl) F₁ N₁ ?_ ?_ ?_)
  · exact ⟨_, _, _, canonL_of rfl rfl fun _ _ _ _ => rfl⟩
  · rintro pre c post t m₁ h tk own hpre ⟨tw, tq, u, rfl⟩ F₂ N₂
    have hS' := List.mem_append_left own hS
    have hC' := List.mem_append_left own hC
    clear F₁ N₁
    replace F₂ : Fr g' L' h _ := F₂
    replace N₂ : News g' L' h (news ++ own) := N₂
    have h0 := layAll_len (turns := turns) bS bC hE pre
    have h2 : x.cps.toList.length = pre.length + (post.length + 1) := by rw [hpre]; simp
    have h3 : x.cps.toList.length ≤ 128 := by simpa [Str.length] using hx
    have hlen : (layAll ws ks ending turns pre).1.length ≤ 8192 := by omega
    have ha0 : 0 ≤ (layAll ws ks ending turns pre).2 := h0.2.1
    have ha1 : (layAll ws ks ending turns pre).2 ≤ 128 := by omega
    clear h0
    k_steps
    rotate_right
    · have h4 : ¬ (⟨#[c]⟩ : Str) = ws.getD 4 Str.empty := by
        rename (⟨#[c]⟩ == ws.getD (Int.toNat 4) Str.empty) = false => hb
        intro e
        rw [show Int.toNat 4 = 4 from rfl, ← e] at hb
        simp at hb
      by_cases hin : (⟨#[c]⟩ : Str) ∈ ws
      · have hj : ws.idxOf (⟨#[c]⟩ : Str) < 4 := by
          have h5 : ws.idxOf (⟨#[c]⟩ : Str) < 5 := lS ▸ List.idxOf_lt_length_iff.mpr hin
          have h6 : ws.idxOf (⟨#[c]⟩ : Str) ≠ 4 := fun e => h4 (by
            have h7 := List.getElem_idxOf (List.idxOf_lt_length_iff.mpr hin)
            have h8 : ws[4]? = some (⟨#[c]⟩ : Str) := by rw [List.getElem?_eq_getElem (by omega)]; simp only [← e, h7]
            rw [List.getD_eq_getElem?_getD, h8]; rfl)
          omega
        k_steps
        all_goals (rename Fr g' L' _ _ => kF; rename News g' L' _ _ => kN; (with_unfolding_all refine turnL kF kN (by rfl) (by rfl) ?_ ?_ ?_))
        · intro y h1 h2 h3; simp only [canonL, h1, h2, h3, if_false]
        · clear kF kN; simp only [layC, if_neg h4, if_pos hin, Int.toNat_natCast]; rfl
        · clear kF kN; simp only [nextA, if_neg h4]
      · k_steps
        all_goals (rename Fr g' L' _ _ => kF; rename News g' L' _ _ => kN; (with_unfolding_all refine turnL kF kN (by rfl) (by rfl) ?_ ?_ ?_))
        · intro y h1 h2 h3; simp only [canonL, h1, h2, h3, if_false]
        · clear kF kN; simp only [layC, if_neg h4, if_neg hin]
        · clear kF kN; simp only [nextA, if_neg h4]
    all_goals (
      have h4 : (⟨#[c]⟩ : Str) = ws.getD 4 Str.empty := by
        rename (⟨#[c]⟩ == ws.getD (Int.toNat 4) Str.empty) = true => hb
        exact eq_of_beq hb
      rename Fr g' L' _ _ => kF; rename News g' L' _ _ => kN; (with_unfolding_all refine turnL kF kN (by rfl) (by rfl) ?_ ?_ ?_); clear kF kN)
    all_goals (try (intro y h1 h2 h3; simp only [canonL, h1, h2, h3, if_false]; done))
    all_goals (try (simp only [nextA, if_pos h4]; done))
    all_goals (simp only [layC, if_pos h4, Str.append_assoc]; (repeat' split) <;> first | (with_reducible rfl) | rfl | (exfalso; omega))
  · rintro m₁ h tk ⟨t, tn, u, rfl⟩ F₂ N₂
    replace F₂ : Fr g' L' h _ := F₂
    replace N₂ : News g' L' h news := N₂
    clear F₁ N₁
    k_steps
    rename Fr h₀ L _ _ => kF
    rename News h₀ L _ _ => kN
    exact hret _ _ _ ⟨_, rfl⟩ kF kN
end Mine
end

section
open PySem PySem.W PyProof.Rows PySem.Calls PySem.SeqAt PySem.Builtin.Str
namespace Mine

theorem allNe {news : List (Addr × Obj)} {d L' : Nat} (l : ∀ p ∈ news, p.1 < L') (h : L' ≤ d) : ∀ p ∈ news, p.1 ≠ d := fun p hp e => by
  have h2 : @LT.lt Nat _ p.1 L' := l p hp
  have h3 : @Eq Nat p.1 d := e
  omega
local macro_rules | `(tactic| k_all) => `(tactic| (refine allNe (by assumption) ?_; omega))

local macro_rules | `(tactic| walk_at "exec Assign cons ListComp") => `(tactic| (k_here; k_dflt (refine LCg.Assign_ListComp_U (F₀ := by k_asm) (by rfl) (by with_unfolding_all rfl) (by rfl) (by decide) (by rfl) (by decide) (by rfl) (by rfl) (by rfl) ?_); k_dflt lcg_toSrc))
local macro_rules | `(tactic| walk_at "eval ListComp") => `(tactic| (k_here; k_dflt (refine LCg.ListComp_U (F₀ := by k_asm) (by rfl) (by decide) (by rfl) (by decide) (by rfl) ?_); k_dflt lcg_toSrc))
local macro_rules | `(tactic| walk_at "CompSrc") => `(tactic| (k_here; k_dflt (refine LCg.CompSrc.range (by rfl) (by k_asm) (by k_asm) (by assumption) (by first | decide | rfl) (by first | rfl | decide) (by first | size_fits | exact Nat.le_of_ble_eq_true rfl) ?_; intro g'; lcg_lit)))
local macro_rules | `(tactic| walk_at "CompRest") => `(tactic| (with_unfolding_all first
  | (refine LCg.CompRest.succ ?_; intro v' I' oI' C' oC' D' m' h' tk' E' hv' hC' hx' F' N' off' ne'; clear ne'; (obtain ⟨t9', hv9'⟩ := hv'; subst hv9'); (try k_fold))
  | refine LCg.CompRest.zero ?_))
local macro_rules | `(tactic| walk_at "CompEnd") => `(tactic| ((rename LCg.Off3 _ _ _ _ => kO9); (refine LCg.CompEnd.intro (by assumption) (by assumption) _ ?_ kO9 trivial ?_; first | exact fun p hp => hp | exact fun p hp => .tail _ hp | exact fun p hp => .tail _ (.tail _ hp)); clear kO9))
local macro_rules | `(tactic| walk_at "subscriptTail Name Name ref int") => `(tactic| (k_here; (with_reducible show wpAny _ _ (subscriptTail _ _ (Value.ref _) (Value.int _ _)) _ _ _); k_dflt (refine item_listL (News.isList (by k_asm) (by k_mem)) (by decide) (by decide) rfl ?_)))
section
variable {prog : Program} {w : World} {A : Around} {E : Value → Shared → Prop} {s : Shared} {h₀ : Heap} {L : Addr} {news : List (Addr × Obj)}
theorem tupStr {value slice : Expr} {a : Addr} {vs : List Value} {ws : List Str} {n : Nat} {k : Int} {u : Tok} {Q : Value → Shared → Prop} (N : News h₀ L s.heap news) (hm : (a, ({ cls := .type "tuple", data := .seq vs.toArray n } : Obj)) ∈ news) (hi : StrsAre vs ws)
    (h0 : 0 ≤ k) (hk : k < (ws.length : Int)) (hz : ws.length ≤ 1000) (h : ∀ t', Q (.str (ws.getD k.toNat Str.empty) t') s)
    (hs : subscripted slice false (.ref a) (.int k u) = operate [.ref a, .int k u] (getItem (.ref a) (.int k u)) := by with_unfolding_all rfl) :
    wpAny (model prog w) A (subscriptTail value slice (.ref a) (.int k u)) Q E s := by
  have hlt : k.toNat < ws.length := by omega
  have e : ws[k.toNat]? = some (ws.getD k.toNat Str.empty) := by simp [List.getD, hlt]
  obtain ⟨t, ht⟩ := hi.at e
  have hj : seqIndex? k vs.length = some k.toNat := by
    rw [hi.len_eq]
    exact StrLaws.seqIndex_nonneg h0 hk
  exact item_tupleT (isTupN N hm) (by omega) (by omega) hj ht (h t) hs
end
local macro_rules | `(tactic| walk_at "subscriptTail") => `(tactic| (k_here; (with_reducible show wpAny _ _ (subscriptTail _ _ (Value.ref _) (Value.int (Int.fmod _ _) _)) _ _ _); k_dflt (refine tupStr (by k_asm) (by k_mem) (.cons _ _ (.cons _ _ (.cons _ _ (.cons _ _ .nil)))) (fmod_lo _ (by decide)) (fmod_hi _ (by decide)) (Nat.le_of_ble_eq_true rfl) ?_); intro _))
section
variable {prog : Program} {w : World} {A : Around} {E : Value → Shared → Prop} {s : Shared} {x y : Str} {t u : Tok} {Q : Value → Shared → Prop}
theorem addSm (hx : x.length ≤ 8) (hy : y.length ≤ 8) (h : ∀ t' tk, Q (.str (x ++ y) t') { s with toks := tk }) : wpAny (model prog w) A (binaryOp .Add (.str x t) (.str y u)) Q E s :=
  add_str h (Nat.le_trans (Nat.add_le_add hx hy) (by decide))
end
theorem leadLen (k : Nat) : ((["", "a", "d", "bc"] : List Str).getD k Str.empty).length ≤ 2 := getD_len (by decide) k
theorem itemLen (y : Str) (k : Int) : (Txt.item y k).length ≤ 1 := Nat.le_refl 1
theorem brLen : (Str.ofString "br").length ≤ 2 := Nat.le_of_ble_eq_true rfl
theorem semLen : (Str.ofString ";").length ≤ 1 := Nat.le_of_ble_eq_true rfl
local macro_rules | `(tactic| kt_len) => `(tactic| (first | (with_reducible refine Nat.le_trans (semLen) ?_; decide) | (with_reducible refine Nat.le_trans (brLen) ?_; decide) | (with_reducible refine Nat.le_trans (itemLen _ _) ?_; decide) | (with_reducible refine Nat.le_trans (leadLen _) ?_; decide) | (with_reducible refine Nat.le_trans (len_app (leadLen _) (itemLen _ _)) ?_; decide) | (with_reducible refine Nat.le_trans (len_app (itemLen _ _) (itemLen _ _)) ?_; decide) | (with_reducible refine Nat.le_trans (len_app (itemLen _ _) brLen) ?_; decide) | (with_reducible refine Nat.le_trans (len_app (len_app (itemLen _ _) brLen) (itemLen _ _)) ?_; decide)))
local macro_rules | `(tactic| walk_at "binaryOp Add str str") => `(tactic| (k_here; (with_reducible show wpAny _ _ (binaryOp Operator.Add (Value.str _ _) (Value.str _ _)) _ _ _); k_dflt (refine addSm ?_ ?_ ?_; kt_len; kt_len; intro _ _)))
local macro_rules | `(tactic| walk_at "subscriptTail Name Constant ref int") => `(tactic| (k_here; (with_reducible show wpAny _ _ (subscriptTail _ _ (Value.ref _) (Value.int _ _)) _ _ _); k_dflt (refine item_listL (News.isList (by k_asm) (by k_mem)) (by decide) (by decide) rfl ?_)))
local macro_rules | `(tactic| walk_at "subscriptTail Name BinOp ref int") => `(tactic| (k_here; (with_reducible show wpAny _ _ (subscriptTail _ _ (Value.ref _) (Value.int (Int.fmod _ _) _)) _ _ _); k_dflt (refine tupStr (by k_asm) (by k_mem) (.cons _ _ (.cons _ _ (.cons _ _ (.cons _ _ .nil)))) (fmod_lo _ (by decide)) (fmod_hi _ (by decide)) (Nat.le_of_ble_eq_true rfl) ?_); intro _))
def tellT : Str := Str.ofString "&<> \n\"'%\\=é🐍"
def sgn (x : Int) (j : Int) : Str := Txt.item tellT ((x + ([1, 5, 7, 11] : List Int).getD ((x.fdiv 12).fmod 4).toNat 0 * j).fmod 12)
def leadOf (x : Int) (j : Int) : Str := (["", "a", "d", "bc"] : List Str).getD (((x.fdiv 192).fdiv (4 ^ j.toNat)).fmod 4).toNat Str.empty
def cod (x : Int) (j : Int) : Str := leadOf x j ++ Txt.item (Str.ofString "abcd") j ++ Str.ofString ";"
abbrev j0 : Int := 0 + ((0 : Nat) : Int)
abbrev j1 : Int := 0 + ((0 + 1 : Nat) : Int)
abbrev j2 : Int := 0 + ((0 + 1 + 1 : Nat) : Int)
abbrev j3 : Int := 0 + ((0 + 1 + 1 + 1 : Nat) : Int)
abbrev j4 : Int := 0 + ((0 + 1 + 1 + 1 + 1 : Nat) : Int)
def endOf (x : Int) : Str := ([sgn x j1 ++ Str.ofString "br" ++ sgn x j2 ++ sgn x j4, sgn x j4 ++ sgn x j3 ++ sgn x j4, Str.ofString "", sgn x j4 ++ sgn x j4 ++ sgn x j0] : List Str).getD ((x.fdiv 48).fmod 4).toNat Str.empty
theorem schemeEnd {h₀ h : Heap} {L : Addr} {p q r e p1 p2 c1 c2 c3 c4 : Addr × Obj} {news : List (Addr × Obj)} (kN : News h₀ L h (p :: e :: r :: p1 :: q :: p2 :: c1 :: c2 :: c3 :: c4 :: news)) : News h₀ L h (p :: q :: r :: news) :=
  cb_drop kN fun z hz => by
    simp only [List.mem_cons] at hz ⊢
    rcases hz with h | h | h | h <;> simp [h]
theorem tScheme {w : World} {loose : List Str} {mean : ExcName → Option Value} {mg mb : Str → Option Value} {news : List (Addr × Obj)} (x : Int) (tx : Tok)
   (dp un : Nat) (gd : Option (List Code)) (cn : Str) (cs : Scope) (a : Addr) (ccd : Value) (cl : List (Str × Addr)) (outer : List Env) (A₀ : Around) (base h₀ : Heap) (L : Addr) (m : Str → Option Value) (s : Shared) (Q E : Value → Shared → Prop)
   (B : Below A₀ base outer h₀) (F : Fr h₀ L s.heap m) (X : (hd.heap_39 w.params).In h₀) (N : News h₀ L s.heap news) (T : Top hd.view_39 loose mean mg mb h₀) (hk : cs.kind = .function) (hdp : dp + 2 < recursionLimit) (hun : un + 16 < cLine)
   (hret : ∀ aT aS aC vS vC te h' tk', StrsAre vS [sgn x j0, sgn x j1, sgn x j2, sgn x j3, sgn x j4] → StrsAre vC [cod x j0, cod x j1, cod x j2, cod x j3] → Fr h₀ L h' m →
      News h₀ L h' ((aT, { cls := .type "tuple", data := .seq #[.ref aS, .ref aC, .str (endOf x) te] }) :: (aS, LCg.lst vS) :: (aC, LCg.lst vC) :: news) → Q (.ref aT) { s with heap := h', toks := tk' }) :
    wpAny (model PySem.Challenge.rw_mq0462_02.row.prog w) (ktrTop dp un gd cn cs L a ccd cl outer) (call (.ref 26) [.int x tx]) Q E s := by
  refine wpAny_call ?_
  k_dflt (refine' code_defC ?k1 ?k2 ?k3 ?k4 ?k5 ?kA ?kF ?kK ?k6 ?k7 ?k8 ?k9 ?kB ?kD ?_ ?c2 ?c3 ?c4; (case kA => exact rfl); (case kF => exact rfl); (case kK => exact hk); (case k1 => k_asm); (case k2 => k_asm); (case k3 => k_asm); (case k4 => k_asm); (case k5 => k_asm); (case k6 => k_is); (case k7 => k_is); (case k8 => ktr_room); (case k9 => exact BindsTo.of_eq rfl); (case kB => exact rfl); (case kD => decide +kernel); (case c2 => exact rfl); (case c3 => exact rfl); (case c4 => exact rfl); k_whole; intro g' L' h' tk' cells' FG' F' N' Y' B' X' T' l1; (try k_lt l1); k_cells Y'; (try simp only [List.cons_append, List.nil_append] at N'); (try dsimp only); (try k_lift B'); (try k_fold))
  repeat' (first | (k_unfold; (try dsimp only)) | (k_end; wrow_close) | dsimp only | walk1)
  rename Fr h₀ L _ _ => kF
  rename News h₀ L _ _ => kN
  exact hret _ _ _ _ _ _ _ _ (.cons _ _ (.cons _ _ (.cons _ _ (.cons _ _ (.cons _ _ .nil))))) (.cons _ _ (.cons _ _ (.cons _ _ (.cons _ _ .nil)))) kF (schemeEnd kN)
end Mine
end

section
open PySem PySem.W PyProof.Rows PySem.Calls PySem.SeqAt PySem.Builtin.Str
namespace Mine
section
variable {prog : Program} {w : World} {A : Around} {E : Value → Shared → Prop} {s : Shared} {env : Env} {h₀ : Heap} {x : Str} {body : List Stmt} {Q : Flow → Shared → Prop}
theorem rangeLoop {r : Addr} {a b c : Int} {t u v : Tok} {n : Nat} {m₀ : Str → Option Value} {news : List (Addr × Obj)} (J : (Str → Option Value) → Nat → (Str → Option Value) → Prop)
    (hh : A.handled = none) (hr : IsRange s.heap r a b c t u v) (hsmall : Builtin.Range.small a b c = true) (hn : Builtin.Range.rangeSize a b c = (n : Int)) (F : Fr h₀ env.locals s.heap m₀) (N : News h₀ env.locals s.heap news) (hj : J m₀ 0 m₀)
    (turn : ∀ i t m₁ h tk own, i < n → J m₀ i m₁ → Fr h₀ env.locals h (fun y => if y = x then some (.int (a + (i : Nat) * c) t) else m₁ y) → News h₀ env.locals h (news ++ own) →
      wpAny (model prog w) A (execs body env) (TurnEnd h₀ env.locals s (news ++ own) (J m₀ (i + 1)) Q) E { s with heap := h, toks := tk })
    (done : ∀ m₁ h tk, J m₀ n m₁ → Fr h₀ env.locals h m₁ → News h₀ env.locals h news → Q .next { s with heap := h, toks := tk }) :
    wpAny (model prog w) A (pyIter (.ref r)) (fun it s₂ => LoopAtV prog w A h₀ env x body Q E it s₂) E s := by
  refine wpAny_pyIter_range hr hsmall ?_
  refine loopFix (s := { s with heap := s.heap.push _ }) (fun i m => J m₀ i m) (Walks.range hh _ a c n) ?_ ?_ ?_ ?_ ?_ (F.push _) (fun p hp => ⟨Heap.get?_push_of_some _ (N p hp).1, (N p hp).2⟩) hj ?_ ?_
  · intro hm
    exact absurd F.ns.lt ((List.mem_singleton.mp hm) ▸ Nat.lt_irrefl _)
  · intro b' hb
    rw [List.mem_singleton.mp hb]
    exact next_is_new F
  · intro p hp hI
    exact absurd (Heap.lt_size (N p hp).1) ((List.mem_singleton.mp hI) ▸ Nat.lt_irrefl _)
  · intro p hp hI
    exact absurd (Heap.lt_size (N p hp).1) ((List.mem_singleton.mp hI) ▸ Nat.lt_irrefl _)
  · show IsRangeIter _ _ _ _ _
    rw [hn]; simpa using Heap.get?_push_size _ rfl
  · rintro i v m₁ h tk own hi ⟨t, rfl⟩ hJ F₁ N₁
    exact turn i t m₁ h tk own hi hJ F₁ N₁
  · intro m₁ h tk hJ F₁ N₁
    exact done m₁ h tk hJ F₁ N₁
end
end Mine
end

section
open PySem PySem.W PyProof.Rows PySem.Calls PySem.SeqAt PySem.Builtin.Str PySem.StrLaws
namespace Mine
/-- u is t with every a (from the left, none within another) replaced by b -/
inductive Rep (a b : List Nat) : List Nat → List Nat → Prop
  | nil : Rep a b [] []
  | hit {t t' : List Nat} : Rep a b t t' → Rep a b (a ++ t) (b ++ t')
  | miss {c : Nat} {t t' : List Nat} : ¬ a <+: (c :: t) → Rep a b t t' → Rep a b (c :: t) (c :: t')

theorem Rep.unique {a b : List Nat} (ha : a ≠ []) : ∀ {t u v : List Nat}, Rep a b t u → Rep a b t v → u = v := by
  intro t u v h
  induction h generalizing v with
  | nil =>
    intro h2
    generalize e : ([] : List Nat) = x at h2
    cases h2 with
    | nil => rfl
    | hit h => exact absurd (List.append_eq_nil_iff.mp e.symm).1 ha
    | miss _ _ => cases e
  | @hit t t' h ih =>
    intro h2
    generalize e : a ++ t = x at h2
    cases h2 with
    | nil => exact absurd (List.append_eq_nil_iff.mp e).1 ha
    | @hit t2 t2' h2 =>
      have : t = t2 := List.append_cancel_left e
      subst this
      rw [ih h2]
    | miss hn _ => exact absurd (e ▸ List.prefix_append a t) hn
  | @miss c t t' hn h ih =>
    intro h2
    generalize e : c :: t = x at h2
    cases h2 with
    | nil => cases e
    | hit h2 => exact absurd (e ▸ List.prefix_append a _) hn
    | miss _ h2 => cases e; rw [ih h2]

theorem Rep.same {a b : List Nat} : ∀ (t : List Nat), (∀ k, ¬ a <+: t.drop k ∨ t.length ≤ k) → Rep a b t t
  | [], _ => .nil
  | c :: t, h => by
    refine .miss ?_ (Rep.same t fun k => ?_)
    · rcases h 0 with h | h
      · simpa using h
      · simp at h
    · rcases h (k + 1) with h | h
      · exact .inl (by simpa using h)
      · exact .inr (by simp at h; omega)
theorem Rep.skip {a b : List Nat} : ∀ (n : Nat) (t u : List Nat), (∀ k, k < n → ¬ a <+: t.drop k) → n ≤ t.length → Rep a b (t.drop n) u → Rep a b t (t.take n ++ u)
  | 0, t, u, _, _, h => by simpa using h
  | n + 1, [], u, _, hl, _ => by simp at hl
  | n + 1, c :: t, u, hn, hl, h => by
    have h0 := hn 0 (by omega)
    refine .miss (by simpa using h0) (Rep.skip n t u (fun k hk => by simpa using hn (k + 1) (by omega)) (by simpa using hl) (by simpa using h))

theorem at_iff (x y : Str) (i : Nat) (hy : 1 ≤ y.length) : At x y x.length i ↔ y.cps.toList <+: x.cps.toList.drop i := by
  unfold At
  rw [subAt_eq, beq_iff_eq]
  have hx : x.cps.toList.length = x.length := by simp [Str.length]
  have hyl : y.cps.toList.length = y.length := by simp [Str.length]
  constructor
  · rintro ⟨h1, h2⟩
    rw [← h2]
    exact List.take_prefix _ _
  · intro h
    have hl := h.length_le
    rw [List.length_drop, hx, hyl] at hl
    refine ⟨by omega, ?_⟩
    have := List.prefix_iff_eq_take.mp h
    rw [hyl] at this
    exact this.symm

theorem join_cons2 (z p : Str) (q : List Str) (hq : q ≠ []) : (Str.join z (p :: q)).cps.toList = p.cps.toList ++ z.cps.toList ++ (Str.join z q).cps.toList := by
  cases q with
  | nil => exact absurd rfl hq
  | cons q r =>
    show (p ++ z ++ Str.join z (q :: r)).cps.toList = _
    simp only [Str.cps_append, Array.toList_append]

theorem rep_parts (x y z : Str) (hy : 1 ≤ y.length) : ∀ (cuts : List Nat) (a f : Nat), ChainG x y x.length a cuts f → (∀ k, f ≤ k → ¬ At x y x.length k) → a ≤ x.length →
    Rep y.cps.toList z.cps.toList (x.cps.toList.drop a) (Str.join z (partsFrom x y.length a cuts)).cps.toList
  | [], a, f, h, hn, ha => by
    have e : f = a := h
    subst e
    show Rep _ _ _ (strSub x f x.length).cps.toList
    rw [strSub_toList]
    have hx : x.cps.toList.length = x.length := by simp [Str.length]
    rw [List.take_of_length_le (by rw [List.length_drop, hx]; omega)]
    refine Rep.same _ fun k => ?_
    left
    rw [List.drop_drop]
    exact fun hp => hn (f + k) (by omega) ((at_iff x y (f + k) hy).mpr hp)
  | c :: r, a, f, h, hn, ha => by
    obtain ⟨hac, hA, hno, hr⟩ := h
    have hx : x.cps.toList.length = x.length := by simp [Str.length]
    have hc := hA.1
    have ih := rep_parts x y z hy r (c + y.length) f hr hn (by omega)
    have hp := (at_iff x y c hy).mp hA
    obtain ⟨t, ht⟩ := hp
    have htd : t = x.cps.toList.drop (c + y.length) := by
      have hyl : y.cps.toList.length = y.length := by simp [Str.length]
      rw [← List.drop_drop, ← ht, ← hyl, List.drop_left]
    obtain ⟨p, q, e⟩ := partsFrom_ne x y.length (c + y.length) r
    have hq : partsFrom x y.length (c + y.length) r ≠ [] := by rw [e]; exact List.cons_ne_nil _ _
    show Rep _ _ _ (Str.join z (strSub x a c :: partsFrom x y.length (c + y.length) r)).cps.toList
    rw [join_cons2 _ _ _ hq, strSub_toList, List.append_assoc]
    refine Rep.skip (c - a) _ _ (fun k hk => ?_) (by rw [List.length_drop, hx]; omega) ?_
    · rw [List.drop_drop]
      exact fun hp => hno (a + k) (by omega) (by omega) ((at_iff x y (a + k) hy).mpr hp)
    · rw [List.drop_drop, show a + (c - a) = c from by omega, ← ht, htd]
      exact .hit ih

theorem kind_le {x y : Str} (h : ∀ c ∈ y.cps.toList, c ∈ x.cps.toList) : Builtin.Str.strKind y ≤ Builtin.Str.strKind x := by
  have hall : ∀ B : Nat, x.cps.all (· < B) = true → y.cps.all (· < B) = true := fun B hB => by
    rw [← Array.all_toList] at hB ⊢
    exact List.all_eq_true.mpr fun c hc => List.all_eq_true.mp hB c (h c hc)
  unfold Builtin.Str.strKind
  by_cases a1 : x.cps.all (· < 256) = true
  · rw [if_pos a1, if_pos (hall _ a1)]; exact Nat.le_refl _
  · rw [if_neg a1]
    by_cases a2 : x.cps.all (· < 65536) = true
    · rw [if_pos a2]
      split
      · omega
      · rw [if_pos (hall _ a2)]; exact Nat.le_refl _
    · rw [if_neg a2]
      split
      · omega
      · split <;> omega

theorem rep_one (x y z : Str) (hy : 1 ≤ y.length) : Rep y.cps.toList z.cps.toList x.cps.toList (replOne x y z).cps.toList := by
  have hx : x.cps.toList.length = x.length := by simp [Str.length]
  have hyl : y.cps.toList.length = y.length := by simp [Str.length]
  obtain ⟨f, hch, hno⟩ := occ_tight x y hy
  unfold replOne Txt.join
  rw [glued_eq_join]
  unfold Txt.split
  split
  · next h =>
    refine Rep.same _ fun k => .inl fun hp => ?_
    simp only [Bool.or_eq_true, decide_eq_true_eq] at h
    rcases h with h | h
    · have := hp.length_le
      rw [List.length_drop, hx, hyl] at this
      omega
    · have := kind_le (x := x) (y := y) fun c hc => List.mem_of_mem_drop (hp.subset hc)
      omega
  · split
    · next h =>
      have he : occurrences x y 0 x.length (x.length + 1) = [] := List.isEmpty_iff.mp h
      rw [he] at hch
      have e : f = 0 := hch
      subst e
      refine Rep.same _ fun k => .inl fun hp => ?_
      exact hno k (Nat.zero_le _) ((at_iff x y k hy).mpr hp)
    · rw [partsBetween_eq]
      have := rep_parts x y z hy _ 0 f hch hno (Nat.zero_le _)
      simpa using this

theorem repl_eq {x y z u : Str} (hy : 1 ≤ y.length) (h : Rep y.cps.toList z.cps.toList x.cps.toList u.cps.toList) : replOne x y z = u := by
  have hne : y.cps.toList ≠ [] := by
    intro e
    have : y.cps.toList.length = y.length := by simp [Str.length]
    rw [e] at this
    simp at this
    omega
  exact Str.ext' (Array.toList_inj.mp (Rep.unique hne (rep_one x y z hy) h))
end Mine
end

section
open PySem PySem.W PyProof.Rows PySem.Calls PySem.SeqAt PySem.Builtin.Str PySem.StrLaws
namespace Mine
/-- one sign for a text -/
def sub1 (c : Nat) (b : List Nat) (d : Nat) : List Nat := if d = c then b else [d]
theorem rep_sign (c : Nat) (b : List Nat) : ∀ (t : List Nat), Rep [c] b t (t.flatMap (sub1 c b))
  | [] => .nil
  | d :: t => by
    have ih := rep_sign c b t
    rw [List.flatMap_cons]
    unfold sub1
    by_cases h : d = c
    · rw [if_pos h, h]
      exact Rep.hit (a := [c]) ih
    · rw [if_neg h]
      refine .miss (fun hp => h ?_) ih
      have := List.prefix_iff_eq_take.mp hp
      simp at this
      exact this.symm
theorem sub1_free {c : Nat} {b : List Nat} : ∀ {t : List Nat}, c ∉ t → t.flatMap (sub1 c b) = t
  | [], _ => rfl
  | d :: t, h => by
    rw [List.flatMap_cons, sub1_free (fun m => h (.tail _ m))]
    unfold sub1
    have hd : ¬ d = c := fun e => h (e ▸ List.Mem.head _)
    rw [if_neg hd]
    rfl
theorem sub1_self (c : Nat) (b : List Nat) : sub1 c b c = b := if_pos rfl
theorem sub1_ne {c d : Nat} (b : List Nat) (h : d ≠ c) : sub1 c b d = [d] := if_neg h

/-- signs none of which opens the pattern are passed over -/
theorem rep_pass {e : Nat} {K b : List Nat} {u v : List Nat} : ∀ (r : List Nat), e ∉ r → Rep (e :: K) b u v → Rep (e :: K) b (r ++ u) (r ++ v)
  | [], _, h => h
  | c :: r, hn, h => by
    refine .miss (fun hp => hn ?_) (rep_pass r (fun m => hn (.tail _ m)) h)
    have := List.prefix_iff_eq_take.mp hp
    simp at this
    rw [this.1]
    exact .head _
/-- a block: hit at its head, or passed over -/
inductive Blk (e : Nat) (K b : List Nat) : List Nat → List Nat → Prop
  | hit {r : List Nat} : e ∉ r → Blk e K b (e :: K ++ r) (b ++ r)
  | other {r : List Nat} : e ∉ r → (∀ u, ¬ K <+: r ++ u) → Blk e K b (e :: r) (e :: r)
  | free {r : List Nat} : e ∉ r → Blk e K b r r
theorem rep_blocks {e : Nat} {K b : List Nat} {f g : Nat → List Nat} : ∀ (l : List Nat), (∀ d ∈ l, Blk e K b (f d) (g d)) → Rep (e :: K) b (l.flatMap f) (l.flatMap g)
  | [], _ => .nil
  | d :: l, h => by
    have ih := rep_blocks (e := e) (K := K) (b := b) (f := f) (g := g) l fun x hx => h x (.tail _ hx)
    rw [List.flatMap_cons, List.flatMap_cons]
    have hd := h d (.head _)
    generalize f d = fd at hd
    generalize g d = gd at hd
    cases hd with
    | hit hr =>
      rw [List.append_assoc, List.append_assoc]
      exact Rep.hit (rep_pass _ hr ih)
    | other hr hn =>
      refine .miss (fun hp => ?_) (rep_pass _ hr ih)
      have := (List.cons_prefix_cons.mp hp).2
      exact hn _ this
    | free hr => exact rep_pass _ hr ih

/-- codes: a body and the end sign -/
structure Codes (k : Nat → List Nat) : Prop where
  body : ∀ j, j < 4 → ∃ b, k j = b ++ [59] ∧ 59 ∉ b
  diff : ∀ i j, i < 4 → j < 4 → k i = k j → i = j
theorem end_prefix {b b' u : List Nat} (hb : 59 ∉ b) (hb' : 59 ∉ b') (h : (b ++ [59]) <+: (b' ++ [59]) ++ u) : b = b' := by
  induction b generalizing b' with
  | nil =>
    cases b' with
    | nil => rfl
    | cons c r =>
      have := (List.cons_prefix_cons.mp h).1
      exact absurd (this ▸ List.Mem.head _) hb'
  | cons c r ih =>
    cases b' with
    | nil =>
      have := (List.cons_prefix_cons.mp h).1
      exact absurd (this ▸ List.Mem.head _) hb
    | cons c' r' =>
      obtain ⟨e, h2⟩ := List.cons_prefix_cons.mp h
      rw [e, ih (fun m => hb (.tail _ m)) (fun m => hb' (.tail _ m)) h2]
theorem Codes.apart {k : Nat → List Nat} (C : Codes k) {i j : Nat} (hi : i < 4) (hj : j < 4) (hij : i ≠ j) (u : List Nat) : ¬ k j <+: k i ++ u := by
  intro h
  obtain ⟨b, eb, hb⟩ := C.body j hj
  obtain ⟨b', eb', hb'⟩ := C.body i hi
  rw [eb, eb'] at h
  have := end_prefix hb hb' h
  exact hij (C.diff i j hi hj (by rw [eb, eb', this]))
end Mine
end

section
open PySem PySem.W PyProof.Rows PySem.Calls PySem.SeqAt PySem.Builtin.Str PySem.StrLaws
namespace Mine
/-- the text with a blank b ahead of those line ends e where c holds of the count of line ends directly ahead -/
def ins (e b : Nat) (c : Nat → Bool) : Nat → List Nat → List Nat
  | _, [] => []
  | m, d :: t => if d = e then (if c m then b :: e :: ins e b c (m + 1) t else e :: ins e b c (m + 1) t) else d :: ins e b c 0 t
def cOf (n m : Nat) : Bool := if n = 0 then false else if n = 1 then m % 2 == 1 else decide (0 < m)
section
variable {e b : Nat} (hb : b ≠ e)
theorem ins_nil (c : Nat → Bool) (m : Nat) : ins e b c m [] = [] := rfl
theorem ins_e (c : Nat → Bool) (m : Nat) (t : List Nat) : ins e b c m (e :: t) = if c m then b :: e :: ins e b c (m + 1) t else e :: ins e b c (m + 1) t := by
  rw [ins, if_pos rfl]
theorem ins_ne (c : Nat → Bool) (m : Nat) {d : Nat} (h : d ≠ e) (t : List Nat) : ins e b c m (d :: t) = d :: ins e b c 0 t := by
  rw [ins, if_neg h]
theorem ins_zero : ∀ (m : Nat) (t : List Nat), ins e b (cOf 0) m t = t
  | _, [] => rfl
  | m, d :: t => by
    by_cases h : d = e
    · rw [h, ins_e, ins_zero (m + 1) t]
      rfl
    · rw [ins_ne _ _ h, ins_zero 0 t]
theorem ins_pass (c : Nat → Bool) : ∀ (m : Nat) (r t : List Nat), r ≠ [] → e ∉ r → ins e b c m (r ++ t) = r ++ ins e b c 0 t
  | _, [], _, h, _ => absurd rfl h
  | m, [d], t, _, hn => ins_ne c m (fun h : d = e => hn (h ▸ List.Mem.head _)) t
  | m, d :: d' :: r, t, _, hn => by
    show ins e b c m (d :: ((d' :: r) ++ t)) = _
    rw [ins_ne c m (fun h : d = e => hn (h ▸ List.Mem.head _)), ins_pass c 0 (d' :: r) t (List.cons_ne_nil _ _) (fun h => hn (.tail _ h))]
    rfl
/-- what does not open with a line end -/
def NoE (e : Nat) (l : List Nat) : Prop := ∀ l', l ≠ e :: l'
theorem missE {x y : List Nat} (h : NoE e x) (r : Rep [e, e] [e, b, e] x y) : Rep [e, e] [e, b, e] (e :: x) (e :: y) := by
  refine .miss (fun hp => ?_) r
  obtain ⟨z, hz⟩ := (List.cons_prefix_cons.mp hp).2
  exact h z hz.symm
theorem missN {d : Nat} (h : d ≠ e) {x y : List Nat} (r : Rep [e, e] [e, b, e] x y) : Rep [e, e] [e, b, e] (d :: x) (d :: y) := by
  refine .miss (fun hp => ?_) r
  exact h (List.cons_prefix_cons.mp hp).1.symm
theorem hitE {x y : List Nat} (r : Rep [e, e] [e, b, e] x y) : Rep [e, e] [e, b, e] (e :: e :: x) (e :: b :: e :: y) := Rep.hit (a := [e, e]) (b := [e, b, e]) r
theorem NoE.nil : NoE e [] := fun _ h => nomatch h
theorem NoE.ne {d : Nat} (h : d ≠ e) (t : List Nat) : NoE e (d :: t) := fun _ hh => h (by injection hh)
theorem c1_odd {m : Nat} (h : m % 2 = 1) : cOf 1 m = true := by unfold cOf; rw [if_neg (by decide), if_pos rfl]; simpa using h
theorem c1_even {m : Nat} (h : m % 2 = 0) : cOf 1 m = false := by unfold cOf; rw [if_neg (by decide), if_pos rfl]; simp [h]
theorem c2_pos {n m : Nat} (hn : 2 ≤ n) (h : 0 < m) : cOf n m = true := by unfold cOf; rw [if_neg (by omega), if_neg (by omega)]; simpa using h
theorem c2_zero {n : Nat} (hn : 2 ≤ n) : cOf n 0 = false := by unfold cOf; rw [if_neg (by omega), if_neg (by omega)]; rfl
theorem pass1 : ∀ (n : Nat) (t : List Nat), t.length ≤ n → ∀ m, m % 2 = 0 → Rep [e, e] [e, b, e] t (ins e b (cOf 1) m t)
  | _, [], _, _, _ => .nil
  | 0, _ :: _, h, _, _ => absurd h (by simp)
  | n + 1, d :: t, h, m, hm => by
    have hl : t.length ≤ n := by simpa using h
    by_cases hd : d = e
    · rw [hd, ins_e, c1_even hm, if_neg (by decide)]
      cases t with
      | nil => exact missE NoE.nil .nil
      | cons d' t' =>
        have hl' : t'.length ≤ n := by simp at hl; omega
        by_cases hd' : d' = e
        · rw [hd', ins_e, c1_odd (by omega), if_pos rfl]
          exact hitE (pass1 n t' hl' (m + 1 + 1) (by omega))
        · rw [ins_ne _ _ hd']
          exact missE (NoE.ne hd' _) (missN hd' (pass1 n t' hl' 0 rfl))
    · rw [ins_ne _ _ hd]
      exact missN hd (pass1 n t hl 0 rfl)
include hb
theorem pass2 (k : Nat) (hk : 2 ≤ k) : ∀ (n : Nat) (t : List Nat), t.length ≤ n →
    Rep [e, e] [e, b, e] (ins e b (cOf 1) 0 t) (ins e b (cOf k) 0 t) ∧
    (∀ m, m % 2 = 1 → Rep [e, e] [e, b, e] (ins e b (cOf 1) m t) (ins e b (cOf k) m t) ∧ NoE e (ins e b (cOf 1) m t)) ∧
    (∀ m, m % 2 = 0 → 0 < m → Rep [e, e] [e, b, e] (e :: ins e b (cOf 1) m t) (e :: ins e b (cOf k) m t)) := by
  intro n
  induction n with
  | zero =>
    intro t h
    have : t = [] := List.length_eq_zero_iff.mp (by omega)
    subst this
    exact ⟨.nil, fun _ _ => ⟨.nil, NoE.nil⟩, fun _ _ _ => missE NoE.nil .nil⟩
  | succ n ih =>
    intro t h
    cases t with
    | nil => exact ⟨.nil, fun _ _ => ⟨.nil, NoE.nil⟩, fun _ _ _ => missE NoE.nil .nil⟩
    | cons d t =>
      have hl : t.length ≤ n := by simpa using h
      obtain ⟨i0, i1, i2⟩ := ih t hl
      by_cases hd : d = e
      · subst hd
        refine ⟨?_, fun m hm => ?_, fun m hm h0 => ?_⟩
        · rw [ins_e, ins_e, c1_even rfl, c2_zero hk, if_neg (by decide), if_neg (by decide)]
          have := i1 1 rfl
          exact missE this.2 this.1
        · rw [ins_e, ins_e, c1_odd hm, c2_pos hk (by omega), if_pos rfl, if_pos rfl]
          exact ⟨missN hb (i2 (m + 1) (by omega) (by omega)), NoE.ne hb _⟩
        · rw [ins_e, ins_e, c1_even hm, c2_pos hk h0, if_neg (by decide), if_pos rfl]
          exact hitE (i1 (m + 1) (by omega)).1
      · refine ⟨?_, fun m hm => ?_, fun m hm h0 => ?_⟩
        · rw [ins_ne _ _ hd, ins_ne _ _ hd]; exact missN hd i0
        · rw [ins_ne _ _ hd, ins_ne _ _ hd]; exact ⟨missN hd i0, NoE.ne hd _⟩
        · rw [ins_ne _ _ hd, ins_ne _ _ hd]; exact missE (NoE.ne hd _) (missN hd i0)
theorem pass3 (k : Nat) (hk : 2 ≤ k) : ∀ (t : List Nat) (m : Nat), Rep [e, e] [e, b, e] (ins e b (cOf k) m t) (ins e b (cOf k) m t) ∧ (0 < m → NoE e (ins e b (cOf k) m t))
  | [], _ => ⟨.nil, fun _ => NoE.nil⟩
  | d :: t, m => by
    by_cases hd : d = e
    · have ih := pass3 k hk t (m + 1)
      have r := missE (ih.2 (by omega)) ih.1
      rw [hd, ins_e]
      by_cases h0 : 0 < m
      · rw [c2_pos hk h0, if_pos rfl]
        exact ⟨missN hb r, fun _ => NoE.ne hb _⟩
      · have hm : m = 0 := by omega
        rw [show cOf k m = false from hm ▸ c2_zero hk, if_neg (by decide)]
        exact ⟨r, fun h => absurd h h0⟩
    · have ih := pass3 k hk t 0
      rw [ins_ne _ _ hd]
      exact ⟨missN hd ih.1, fun _ => NoE.ne hd _⟩
/-- one more of the middle pair -/
theorem pass (n : Nat) (t : List Nat) : Rep [e, e] [e, b, e] (ins e b (cOf n) 0 t) (ins e b (cOf (n + 1)) 0 t) := by
  have key : ∀ k, 2 ≤ k → ins e b (cOf (k + 1)) 0 t = ins e b (cOf k) 0 t := fun k hk => by
    have : cOf (k + 1) = cOf k := by
      funext m
      unfold cOf
      rw [if_neg (by omega), if_neg (by omega), if_neg (by omega), if_neg (by omega)]
    rw [this]
  match n with
  | 0 =>
    rw [ins_zero]
    exact pass1 t.length t (Nat.le_refl _) 0 rfl
  | 1 => exact (pass2 hb 2 (Nat.le_refl _) t.length t (Nat.le_refl _)).1
  | n + 2 =>
    rw [key (n + 2) (by omega)]
    exact (pass3 hb (n + 2) (by omega) t 0).1
end
theorem ins_len (e b : Nat) (c : Nat → Bool) : ∀ (m : Nat) (t : List Nat), (ins e b c m t).length ≤ 2 * t.length
  | _, [] => by simp [ins]
  | m, d :: t => by
    have h1 := ins_len e b c (m + 1) t
    have h2 := ins_len e b c 0 t
    rw [ins]
    split
    · split <;> simp only [List.length_cons] <;> omega
    · simp only [List.length_cons]; omega
end Mine
end

section
open PySem PySem.W PyProof.Rows PySem.Calls PySem.SeqAt PySem.Builtin.Str PySem.StrLaws
namespace Mine
/-- five signs and four codes -/
structure Sch (a : Nat → Nat) (k : Nat → List Nat) : Prop where
  dist : ∀ i j, i < 5 → j < 5 → a i = a j → i = j
  free : ∀ i j, i < 5 → j < 4 → a i ∉ k j
  short : ∀ j, j < 4 → (k j).length ≤ 4
def Sg (a : Nat → Nat) (k : Nat → List Nat) (j : Nat) : Nat → List Nat := sub1 (a j) (a 0 :: k j)
def fstF (a : Nat → Nat) (k : Nat → List Nat) (d : Nat) : List Nat := if d = a 0 then a 0 :: k 0 else if d = a 1 then a 0 :: k 1 else if d = a 2 then a 0 :: k 2 else [d]
def allF (a : Nat → Nat) (k : Nat → List Nat) (d : Nat) : List Nat := if d = a 0 then a 0 :: k 0 else if d = a 1 then a 0 :: k 1 else if d = a 2 then a 0 :: k 2 else if d = a 3 then a 0 :: k 3 else [d]
def lay (a : Nat → Nat) (k : Nat → List Nat) (E : List Nat) (c : Nat → Bool) : Nat → List Nat → List Nat
  | _, [] => []
  | m, d :: t => if d = a 4 then (if c m then (a 0 :: k 3) ++ E else E) ++ lay a k E c (m + 1) t else allF a k d ++ lay a k E c 0 t
theorem sub1_grow {c : Nat} {b : List Nat} (hb : b ≠ []) : ∀ t : List Nat, t.length ≤ (t.flatMap (sub1 c b)).length
  | [] => Nat.zero_le _
  | d :: t => by
    have ih := sub1_grow (c := c) hb t
    have h1 : 1 ≤ (sub1 c b d).length := by
      unfold sub1
      split
      · cases b with
        | nil => exact absurd rfl hb
        | cons _ _ => simp
      · simp
    rw [List.flatMap_cons, List.length_append, List.length_cons]
    omega
theorem flat_len {f : Nat → List Nat} {b : Nat} (h : ∀ d, (f d).length ≤ b) : ∀ l : List Nat, (l.flatMap f).length ≤ l.length * b
  | [] => by simp
  | d :: l => by
    have h1 := h d
    have h2 := flat_len h l
    rw [List.flatMap_cons, List.length_append, List.length_cons, Nat.succ_mul]
    omega
section
variable {a : Nat → Nat} {k : Nat → List Nat} (H : Sch a k)
include H
theorem ne_of (i j : Nat) (hi : i < 5) (hj : j < 5) (hij : i ≠ j) : a i ≠ a j := fun e => hij (H.dist i j hi hj e)
theorem code_free (i j : Nat) (hi : i < 5) (h0 : i ≠ 0) (hj : j < 4) : a i ∉ a 0 :: k j := by
  intro h
  rcases List.mem_cons.mp h with h | h
  · exact ne_of H i 0 hi (by decide) h0 h
  · exact H.free i j hi hj h
theorem s_code (i j : Nat) (hi : i < 5) (h0 : i ≠ 0) (hj : j < 4) (b : List Nat) : (a 0 :: k j).flatMap (sub1 (a i) b) = a 0 :: k j := sub1_free (code_free H i j hi h0 hj)
omit H in
theorem s_oth {c d : Nat} {b : List Nat} (h : d ≠ c) : [d].flatMap (sub1 c b) = [d] := sub1_free fun m => h (List.mem_singleton.mp m).symm
omit H in
theorem s_own (c : Nat) (b : List Nat) : [c].flatMap (sub1 c b) = b := by
  rw [List.flatMap_cons, sub1_self]; simp
theorem first_one (d : Nat) : ((Sg a k 0 d).flatMap (Sg a k 1)).flatMap (Sg a k 2) = fstF a k d := by
  unfold fstF
  by_cases h0 : d = a 0
  · rw [if_pos h0, h0, show Sg a k 0 (a 0) = a 0 :: k 0 from sub1_self _ _]
    unfold Sg
    rw [s_code H 1 0 (by decide) (by decide) (by decide), s_code H 2 0 (by decide) (by decide) (by decide)]
  · rw [if_neg h0, show Sg a k 0 d = [d] from sub1_ne _ h0]
    by_cases h1 : d = a 1
    · rw [if_pos h1, h1]
      unfold Sg
      rw [s_own, s_code H 2 1 (by decide) (by decide) (by decide)]
    · rw [if_neg h1]
      unfold Sg
      rw [s_oth h1]
      by_cases h2 : d = a 2
      · rw [if_pos h2, h2, s_own]
      · rw [if_neg h2, s_oth h2]
theorem first_all (t : List Nat) : ((t.flatMap (Sg a k 0)).flatMap (Sg a k 1)).flatMap (Sg a k 2) = t.flatMap (fstF a k) := by
  rw [List.flatMap_assoc, List.flatMap_assoc]
  congr 1
  funext d
  rw [← first_one H d, List.flatMap_assoc]
theorem fstF_len (d : Nat) : (fstF a k d).length ≤ 5 := by
  unfold fstF
  have h0 := H.short 0 (by decide)
  have h1 := H.short 1 (by decide)
  have h2 := H.short 2 (by decide)
  (repeat' split) <;> simp only [List.length_cons, List.length_nil] <;> omega
theorem allF_len (d : Nat) : (allF a k d).length ≤ 5 := by
  unfold allF
  have h0 := H.short 0 (by decide)
  have h1 := H.short 1 (by decide)
  have h2 := H.short 2 (by decide)
  have h3 := H.short 3 (by decide)
  (repeat' split) <;> simp only [List.length_cons, List.length_nil] <;> omega
theorem lay_len (E : List Nat) (c : Nat → Bool) : ∀ (t : List Nat) (m : Nat), (lay a k E c m t).length ≤ t.length * (5 + E.length)
  | [], _ => Nat.zero_le _
  | d :: t, m => by
    have i1 := lay_len E c t (m + 1)
    have i2 := lay_len E c t 0
    have h3 := H.short 3 (by decide)
    have h4 := allF_len H d
    rw [lay, List.length_cons, Nat.succ_mul]
    split
    · split <;> simp only [List.length_append, List.length_cons] <;> omega
    · simp only [List.length_append]; omega
theorem lay_eq (E : List Nat) (c : Nat → Bool) : ∀ (t : List Nat) (m : Nat), ((ins (a 4) (a 3) c m (t.flatMap (fstF a k))).flatMap (Sg a k 3)).flatMap (sub1 (a 4) E) = lay a k E c m t
  | [], _ => rfl
  | d :: t, m => by
    have n34 := ne_of H 3 4 (by decide) (by decide) (by decide)
    rw [List.flatMap_cons, lay]
    by_cases h4 : d = a 4
    · have hf : fstF a k d = [a 4] := by
        unfold fstF
        rw [h4, if_neg (ne_of H 4 0 (by decide) (by decide) (by decide)), if_neg (ne_of H 4 1 (by decide) (by decide) (by decide)), if_neg (ne_of H 4 2 (by decide) (by decide) (by decide))]
      rw [if_pos h4, hf]
      show ((ins (a 4) (a 3) c m (a 4 :: t.flatMap (fstF a k))).flatMap _).flatMap _ = _
      rw [ins_e]
      have ih := lay_eq E c t (m + 1)
      have e1 : Sg a k 3 (a 4) = [a 4] := sub1_ne _ (Ne.symm n34)
      have e2 : Sg a k 3 (a 3) = a 0 :: k 3 := sub1_self _ _
      by_cases hc : c m = true
      · rw [if_pos hc, if_pos hc, List.flatMap_cons, List.flatMap_cons, e1, e2, List.flatMap_append, List.flatMap_append, s_code H 4 3 (by decide) (by decide) (by decide), s_own, ih, List.append_assoc]
      · rw [if_neg hc, if_neg hc, List.flatMap_cons, e1, List.flatMap_append, s_own, ih]
    · rw [if_neg h4]
      have key : ∀ r g : List Nat, fstF a k d = r → allF a k d = g → r ≠ [] → a 4 ∉ r → (r.flatMap (Sg a k 3)).flatMap (sub1 (a 4) E) = g →
          ((ins (a 4) (a 3) c m (fstF a k d ++ t.flatMap (fstF a k))).flatMap (Sg a k 3)).flatMap (sub1 (a 4) E) = allF a k d ++ lay a k E c 0 t := by
        intro r g hr hg hne hn e
        rw [hr, hg, ins_pass c m r _ hne hn, List.flatMap_append, List.flatMap_append, e, lay_eq E c t 0]
      have codeK : ∀ j, j < 3 → fstF a k d = a 0 :: k j → allF a k d = a 0 :: k j → ((ins (a 4) (a 3) c m (fstF a k d ++ t.flatMap (fstF a k))).flatMap (Sg a k 3)).flatMap (sub1 (a 4) E) = allF a k d ++ lay a k E c 0 t := by
        intro j hj h1 h2
        refine key _ _ h1 h2 (List.cons_ne_nil _ _) (code_free H 4 j (by decide) (by decide) (by omega)) ?_
        unfold Sg
        rw [s_code H 3 j (by decide) (by decide) (by omega), s_code H 4 j (by decide) (by decide) (by omega)]
      by_cases h0 : d = a 0
      · exact codeK 0 (by decide) (by unfold fstF; rw [if_pos h0]) (by unfold allF; rw [if_pos h0])
      by_cases h1 : d = a 1
      · exact codeK 1 (by decide) (by unfold fstF; rw [if_neg h0, if_pos h1]) (by unfold allF; rw [if_neg h0, if_pos h1])
      by_cases h2 : d = a 2
      · exact codeK 2 (by decide) (by unfold fstF; rw [if_neg h0, if_neg h1, if_pos h2]) (by unfold allF; rw [if_neg h0, if_neg h1, if_pos h2])
      have hf : fstF a k d = [d] := by unfold fstF; rw [if_neg h0, if_neg h1, if_neg h2]
      have hn : a 4 ∉ [d] := fun h => h4 (List.mem_singleton.mp h).symm
      by_cases h3 : d = a 3
      · refine key [d] (a 0 :: k 3) hf (by unfold allF; rw [if_neg h0, if_neg h1, if_neg h2, if_pos h3]) (List.cons_ne_nil _ _) hn ?_
        rw [h3]
        unfold Sg
        rw [s_own, s_code H 4 3 (by decide) (by decide) (by decide)]
      · refine key [d] [d] hf (by unfold allF; rw [if_neg h0, if_neg h1, if_neg h2, if_neg h3]) (List.cons_ne_nil _ _) hn ?_
        unfold Sg
        rw [s_oth h3, s_oth h4]
omit H in
theorem sub1_id (c : Nat) : ∀ t : List Nat, t.flatMap (sub1 c [c]) = t
  | [] => rfl
  | d :: t => by
    rw [List.flatMap_cons, sub1_id c t]
    unfold sub1
    split
    · next h => rw [h]; rfl
    · rfl
end
theorem strlen (s : Str) : s.length = s.cps.toList.length := by simp [Str.length]
def ofL (l : List Nat) : Str := ⟨l.toArray⟩
theorem ofL_len (l : List Nat) : (ofL l).length = l.length := rfl
theorem ofL_self (s : Str) : ofL s.cps.toList = s := rfl
theorem runs_step {l l' : List Nat} {s t y : Str} {p q : List Nat} {r : List (Str × Str)} (hs : s.cps.toList = p) (ht : t.cps.toList = q) (hp : p ≠ []) (hq : q.length ≤ 64) (hl : l.length ≤ 2048) (hR : Rep p q l l') (h : Runs (ofL l') r y) : Runs (ofL l) ((s, t) :: r) y := by
  have hs1 : 1 ≤ s.length := by
    rw [strlen, hs]
    cases p with
    | nil => exact absurd rfl hp
    | cons _ _ => simp
  have e : replOne (ofL l) s t = ofL l' := by
    refine repl_eq hs1 ?_
    rw [hs, ht]
    exact hR
  refine .cons ?_ hl ?_ (e ▸ h)
  · have : s.length ≠ 0 := by omega
    simpa using this
  · rw [strlen, ht]; exact hq
end Mine
end

section
open PySem PySem.W PyProof.Rows PySem.Calls PySem.SeqAt PySem.Builtin.Str PySem.StrLaws
namespace Mine
def wsX (x : Int) : List Str := [sgn x j0, sgn x j1, sgn x j2, sgn x j3, sgn x j4]
def ksX (x : Int) : List Str := [cod x j0, cod x j1, cod x j2, cod x j3]
def pr (x : Int) (j : Int) : Str × Str := (sgn x j, sgn x j0 ++ cod x j)
def eb (x : Int) : Str × Str := (sgn x j4 ++ sgn x j4, sgn x j4 ++ sgn x j3 ++ sgn x j4)
def rowP (x : Int) (n : Nat) : List (Str × Str) := [pr x j0, pr x j1, pr x j2] ++ List.replicate n (eb x) ++ [pr x j3, (sgn x j4, endOf x)]
theorem endOf_len (x : Int) : (endOf x).length ≤ 5 := by
  refine getD_len (b := 5) ?_ _
  have sl : ∀ j, (sgn x j).length = 1 := fun _ => rfl
  intro y hy
  simp only [List.mem_cons, List.not_mem_nil, or_false] at hy
  rcases hy with rfl | rfl | rfl | rfl <;> (try simp only [Str.length_append, sl]) <;> decide
def jn : Nat → Int
  | 0 => j0
  | 1 => j1
  | 2 => j2
  | 3 => j3
  | _ => j4
def chR (r q j : Nat) : Nat := (Txt.charAt tellT (((r : Int) + ([1, 5, 7, 11] : List Int).getD q 0 * jn j).fmod 12)).getD 0
def aX (x : Int) (j : Nat) : Nat := (Txt.charAt tellT ((x + ([1, 5, 7, 11] : List Int).getD ((x.fdiv 12).fmod 4).toNat 0 * jn j).fmod 12)).getD 0
def kX (x : Int) (j : Nat) : List Nat := (cod x (jn j)).cps.toList
theorem aX_red (x : Int) (j : Nat) : aX x j = chR (x.fmod 12).toNat ((x.fdiv 12).fmod 4).toNat j := by
  unfold aX chR
  have h0 := fmod_lo x (n := 12) (by decide)
  have e : ∀ z : Int, (x + z).fmod 12 = (((x.fmod 12).toNat : Int) + z).fmod 12 := by
    intro z
    rw [Int.toNat_of_nonneg h0]
    simp only [Int.fmod_eq_emod_of_nonneg _ (show (0 : Int) ≤ 12 by decide)]
    omega
  rw [e]
def goodR (r q : Nat) : Bool :=
  ([0, 1, 2, 3, 4] : List Nat).all (fun i => ([0, 1, 2, 3, 4] : List Nat).all fun j => i == j || chR r q i != chR r q j) && ([0, 1, 2, 3, 4] : List Nat).all fun i => !([97, 98, 99, 100, 59] : List Nat).contains (chR r q i)
theorem goodAll : ((List.range 12).all fun r => (List.range 4).all fun q => goodR r q) = true := by decide +kernel
theorem goodX (x : Int) : goodR (x.fmod 12).toNat ((x.fdiv 12).fmod 4).toNat = true := by
  have h1 := fmod_lo x (n := 12) (by decide)
  have h2 := fmod_hi x (n := 12) (by decide)
  have h3 := fmod_lo (x.fdiv 12) (n := 4) (by decide)
  have h4 := fmod_hi (x.fdiv 12) (n := 4) (by decide)
  exact List.all_eq_true.mp (List.all_eq_true.mp goodAll _ (List.mem_range.mpr (by omega))) _ (List.mem_range.mpr (by omega))
theorem lt5 {i : Nat} (h : i < 5) : i ∈ ([0, 1, 2, 3, 4] : List Nat) := by
  have : i = 0 ∨ i = 1 ∨ i = 2 ∨ i = 3 ∨ i = 4 := by omega
  rcases this with rfl | rfl | rfl | rfl | rfl <;> simp
theorem aX_dist (x : Int) (i j : Nat) (hi : i < 5) (hj : j < 5) (e : aX x i = aX x j) : i = j := by
  have g := goodX x
  unfold goodR at g
  rw [Bool.and_eq_true] at g
  have := List.all_eq_true.mp (List.all_eq_true.mp g.1 i (lt5 hi)) j (lt5 hj)
  rw [aX_red, aX_red] at e
  simpa [e] using this
theorem aX_letters (x : Int) (i : Nat) (hi : i < 5) : aX x i ∉ ([97, 98, 99, 100, 59] : List Nat) := by
  have g := goodX x
  unfold goodR at g
  rw [Bool.and_eq_true] at g
  have := List.all_eq_true.mp g.2 i (lt5 hi)
  rw [aX_red]
  simpa using this
theorem lead_in (n : Nat) : ((["", "a", "d", "bc"] : List Str).getD n Str.empty).cps.toList ∈ ([[], [97], [100], [98, 99]] : List (List Nat)) := by
  match n with
  | 0 => decide
  | 1 => decide
  | 2 => decide
  | 3 => decide
  | n + 4 => simp [List.getD, Str.empty]
theorem kX_eq (x : Int) (j : Nat) (hj : j < 4) : ∃ l, l ∈ ([[], [97], [100], [98, 99]] : List (List Nat)) ∧ kX x j = (l ++ [97 + j]) ++ [59] := by
  refine ⟨(leadOf x (jn j)).cps.toList, lead_in _, ?_⟩
  unfold kX cod
  simp only [Str.cps_append, Array.toList_append]
  have : j = 0 ∨ j = 1 ∨ j = 2 ∨ j = 3 := by omega
  rcases this with rfl | rfl | rfl | rfl <;> rfl
theorem schX (x : Int) : Sch (aX x) (kX x) where
  dist := aX_dist x
  free := fun i j hi hj h => by
    obtain ⟨l, hl, e⟩ := kX_eq x j hj
    have hn := aX_letters x i hi
    rw [e] at h
    apply hn
    have hj' : j = 0 ∨ j = 1 ∨ j = 2 ∨ j = 3 := by omega
    simp only [List.mem_cons, List.not_mem_nil, or_false] at hl
    rcases hl with rfl | rfl | rfl | rfl <;> rcases hj' with rfl | rfl | rfl | rfl <;> simp at h ⊢ <;> omega
  short := fun j hj => by
    obtain ⟨l, hl, e⟩ := kX_eq x j hj
    rw [e]
    simp only [List.mem_cons, List.not_mem_nil, or_false] at hl
    rcases hl with rfl | rfl | rfl | rfl <;> simp
theorem ws_eq (x : Int) : wsX x = [⟨#[aX x 0]⟩, ⟨#[aX x 1]⟩, ⟨#[aX x 2]⟩, ⟨#[aX x 3]⟩, ⟨#[aX x 4]⟩] := rfl
theorem one_eq (u v : Nat) : ((⟨#[u]⟩ : Str) = ⟨#[v]⟩) ↔ u = v :=
  ⟨fun e => by injection e with e; injection e with e; injection e, fun e => by rw [e]⟩
theorem one_beq (u v : Nat) : ((⟨#[u]⟩ : Str) == ⟨#[v]⟩) = decide (u = v) := by
  by_cases h : u = v
  · subst h; simp
  · have : (⟨#[u]⟩ : Str) ≠ ⟨#[v]⟩ := fun e => h ((one_eq u v).mp e)
    simp [h, this]
theorem mem_ws (x : Int) (d : Nat) : (⟨#[d]⟩ : Str) ∈ wsX x ↔ d = aX x 0 ∨ d = aX x 1 ∨ d = aX x 2 ∨ d = aX x 3 ∨ d = aX x 4 := by
  rw [ws_eq]
  simp only [List.mem_cons, List.not_mem_nil, or_false, one_eq]
theorem idx_sign (x : Int) (j : Nat) (hj : j < 4) : (wsX x).idxOf (⟨#[aX x j]⟩ : Str) = j := by
  have H := schX x
  have n10 := ne_of H 0 1 (by decide) (by decide) (by decide)
  have n20 := ne_of H 0 2 (by decide) (by decide) (by decide)
  have n30 := ne_of H 0 3 (by decide) (by decide) (by decide)
  have n21 := ne_of H 1 2 (by decide) (by decide) (by decide)
  have n31 := ne_of H 1 3 (by decide) (by decide) (by decide)
  have n32 := ne_of H 2 3 (by decide) (by decide) (by decide)
  rw [ws_eq]
  have : j = 0 ∨ j = 1 ∨ j = 2 ∨ j = 3 := by omega
  rcases this with rfl | rfl | rfl | rfl <;> simp [List.idxOf_cons, one_beq, n10, n20, n30, n21, n31, n32]
theorem w4 (x : Int) : (wsX x).getD 4 Str.empty = ⟨#[aX x 4]⟩ := rfl
theorem w0 (x : Int) : (wsX x).getD 0 Str.empty = ⟨#[aX x 0]⟩ := rfl
theorem kd (x : Int) (j : Nat) (hj : j < 4) : ((ksX x).getD j Str.empty).cps.toList = kX x j := by
  have : j = 0 ∨ j = 1 ∨ j = 2 ∨ j = 3 := by omega
  rcases this with rfl | rfl | rfl | rfl <;> rfl
theorem c_of (n m : Nat) : (0 < (m : Int) ∧ (1 < (n : Int) ∨ ((n : Int) = 1 ∧ (m : Int).fmod 2 = 1))) ↔ cOf n m = true := by
  have e : (m : Int).fmod 2 = ((m % 2 : Nat) : Int) := by rw [Int.fmod_eq_emod_of_nonneg _ (by decide)]; omega
  rw [e]
  unfold cOf
  by_cases h0 : n = 0
  · rw [if_pos h0]
    constructor
    · intro h; omega
    · intro h; exact absurd h (by decide)
  · rw [if_neg h0]
    by_cases h1 : n = 1
    · rw [if_pos h1, beq_iff_eq]
      omega
    · rw [if_neg h1, decide_eq_true_eq]
      omega
theorem layC_list (x : Int) (en : Str) (n m d : Nat) : (layC (wsX x) (ksX x) en (n : Int) (m : Int) d).cps.toList =
    if d = aX x 4 then (if cOf n m then (aX x 0 :: kX x 3) ++ en.cps.toList else en.cps.toList) else allF (aX x) (kX x) d := by
  have H := schX x
  unfold layC
  rw [w4, w0]
  by_cases h4 : d = aX x 4
  · rw [if_pos ((one_eq _ _).mpr h4), if_pos h4]
    by_cases hc : cOf n m = true
    · rw [if_pos ((c_of n m).mpr hc), if_pos hc]
      simp only [Str.cps_append, Array.toList_append, kd x 3 (by decide)]
      rfl
    · rw [if_neg (fun h => hc ((c_of n m).mp h)), if_neg hc]
  · rw [if_neg (fun h => h4 ((one_eq _ _).mp h)), if_neg h4]
    have own : ∀ j, j < 4 → d = aX x j → (if (⟨#[d]⟩ : Str) ∈ wsX x then (⟨#[aX x 0]⟩ : Str) ++ (ksX x).getD ((wsX x).idxOf (⟨#[d]⟩ : Str)) Str.empty else ⟨#[d]⟩).cps.toList = aX x 0 :: kX x j := by
      intro j hj hd
      have hin : (⟨#[d]⟩ : Str) ∈ wsX x := by
        rw [mem_ws, hd]
        have : j = 0 ∨ j = 1 ∨ j = 2 ∨ j = 3 := by omega
        rcases this with rfl | rfl | rfl | rfl <;> simp
      rw [if_pos hin, hd, idx_sign x j hj]
      simp only [Str.cps_append, Array.toList_append, kd x j hj]
      rfl
    unfold allF
    by_cases h0 : d = aX x 0
    · rw [if_pos h0]; exact own 0 (by decide) h0
    rw [if_neg h0]
    by_cases h1 : d = aX x 1
    · rw [if_pos h1]; exact own 1 (by decide) h1
    rw [if_neg h1]
    by_cases h2 : d = aX x 2
    · rw [if_pos h2]; exact own 2 (by decide) h2
    rw [if_neg h2]
    by_cases h3 : d = aX x 3
    · rw [if_pos h3]; exact own 3 (by decide) h3
    rw [if_neg h3]
    have hout : (⟨#[d]⟩ : Str) ∉ wsX x := by
      rw [mem_ws]
      simp [h0, h1, h2, h3, h4]
    rw [if_neg hout]
theorem nextA_nat (x : Int) (m d : Nat) : nextA (wsX x) (m : Int) d = ((if d = aX x 4 then m + 1 else 0 : Nat) : Int) := by
  unfold nextA
  rw [w4]
  by_cases h4 : d = aX x 4
  · rw [if_pos ((one_eq _ _).mpr h4), if_pos h4]; rfl
  · rw [if_neg (fun h => h4 ((one_eq _ _).mp h)), if_neg h4]; rfl
theorem layAll_list (x : Int) (en : Str) (n : Nat) (l : List Nat) : (layAll (wsX x) (ksX x) en (n : Int) l).1.cps.toList = lay (aX x) (kX x) en.cps.toList (cOf n) 0 l := by
  have key : ∀ (l : List Nat) (p : Str) (m : Nat), (l.foldl (layS (wsX x) (ksX x) en (n : Int)) (p, (m : Int))).1.cps.toList = p.cps.toList ++ lay (aX x) (kX x) en.cps.toList (cOf n) m l := by
    intro l
    induction l with
    | nil => intro p m; simp [lay]
    | cons d r ih =>
      intro p m
      rw [List.foldl_cons]
      unfold layS
      dsimp only
      rw [nextA_nat]
      have ih' := ih (p ++ layC (wsX x) (ksX x) en (n : Int) (m : Int) d) (if d = aX x 4 then m + 1 else 0)
      unfold layS at ih'
      rw [ih', lay]
      simp only [Str.cps_append, Array.toList_append, layC_list, List.append_assoc]
      by_cases h4 : d = aX x 4
      · simp only [if_pos h4]
      · simp only [if_neg h4]
  have := key l Str.empty 0
  simpa [layAll, Str.empty] using this
theorem code_cps (x : Int) (j : Nat) : (sgn x j0 ++ cod x (jn j)).cps.toList = aX x 0 :: kX x j := by
  rw [Str.cps_append, Array.toList_append]
  rfl
theorem mid_runs (x : Int) (t : List Nat) (ht : t.length ≤ 1024) (y : Str) (r : List (Str × Str)) : ∀ (n m : Nat), Runs (ofL (ins (aX x 4) (aX x 3) (cOf (m + n)) 0 t)) r y → Runs (ofL (ins (aX x 4) (aX x 3) (cOf m) 0 t)) (List.replicate n (eb x) ++ r) y
  | 0, _, h => h
  | n + 1, m, h => by
    rw [List.replicate_succ, List.cons_append]
    have hb : aX x 3 ≠ aX x 4 := ne_of (schX x) 3 4 (by decide) (by decide) (by decide)
    refine runs_step (p := [aX x 4, aX x 4]) (q := [aX x 4, aX x 3, aX x 4]) rfl rfl (List.cons_ne_nil _ _) (Nat.le_of_ble_eq_true rfl) ?_ (pass hb m t) (mid_runs x t ht y r n (m + 1) ?_)
    · have := ins_len (aX x 4) (aX x 3) (cOf m) 0 t
      omega
    · rw [show m + 1 + n = m + (n + 1) from by omega]; exact h
theorem goRow (x : Int) (text : Str) (ht : text.length ≤ 25 * 5) (n : Nat) (hn : n < 4) : Runs text (rowP x n) (layAll (wsX x) (ksX x) (endOf x) (n : Int) text.cps.toList).1 := by
  have H := schX x
  rw [strlen] at ht
  generalize htt : text.cps.toList = t at ht
  have e0 : text = ofL t := by rw [← htt]; rfl
  have k4 : ∀ j, j < 4 → (aX x 0 :: kX x j).length ≤ 64 := fun j hj => by
    have := H.short j hj
    rw [List.length_cons]; omega
  have l3 : (t.flatMap (fstF (aX x) (kX x))).length ≤ 1024 := by
    have := flat_len (f := fstF (aX x) (kX x)) (fstF_len H) t
    omega
  have f3 := first_all H t
  have l2 : ((t.flatMap (Sg (aX x) (kX x) 0)).flatMap (Sg (aX x) (kX x) 1)).length ≤ 1024 := by
    have := sub1_grow (c := aX x 2) (b := aX x 0 :: kX x 2) (List.cons_ne_nil _ _) ((t.flatMap (Sg (aX x) (kX x) 0)).flatMap (Sg (aX x) (kX x) 1))
    rw [← f3] at l3
    exact Nat.le_trans this l3
  have l1 : (t.flatMap (Sg (aX x) (kX x) 0)).length ≤ 1024 :=
    Nat.le_trans (sub1_grow (c := aX x 1) (b := aX x 0 :: kX x 1) (List.cons_ne_nil _ _) (t.flatMap (Sg (aX x) (kX x) 0))) l2
  have fin : (layAll (wsX x) (ksX x) (endOf x) (n : Int) t).1 = ofL (lay (aX x) (kX x) (endOf x).cps.toList (cOf n) 0 t) :=
    Str.ext' (Array.toList_inj.mp (layAll_list x (endOf x) n t))
  have lb : ((ins (aX x 4) (aX x 3) (cOf n) 0 (t.flatMap (fstF (aX x) (kX x)))).flatMap (Sg (aX x) (kX x) 3)).length ≤ 2048 := by
    have h1 := lay_eq H [aX x 4] (cOf n) t 0
    rw [sub1_id] at h1
    rw [h1]
    have := lay_len H [aX x 4] (cOf n) t 0
    simp only [List.length_cons, List.length_nil] at this
    omega
  have le := ins_len (aX x 4) (aX x 3) (cOf n) 0 (t.flatMap (fstF (aX x) (kX x)))
  have hE : (endOf x).cps.toList.length ≤ 64 := by
    rw [← strlen]; exact Nat.le_trans (endOf_len x) (by decide)
  rw [fin, e0]
  show Runs (ofL t) (pr x j0 :: pr x j1 :: pr x j2 :: (List.replicate n (eb x) ++ [pr x j3, (sgn x j4, endOf x)])) _
  refine runs_step (p := [aX x 0]) (q := aX x 0 :: kX x 0) rfl (code_cps x 0) (List.cons_ne_nil _ _) (k4 0 (by decide)) (by omega) (rep_sign _ _ t) ?_
  refine runs_step (p := [aX x 1]) (q := aX x 0 :: kX x 1) rfl (code_cps x 1) (List.cons_ne_nil _ _) (k4 1 (by decide)) (Nat.le_trans l1 (by decide)) (rep_sign _ _ _) ?_
  refine runs_step (p := [aX x 2]) (q := aX x 0 :: kX x 2) rfl (code_cps x 2) (List.cons_ne_nil _ _) (k4 2 (by decide)) (Nat.le_trans l2 (by decide)) (rep_sign _ _ _) ?_
  show Runs (ofL (((t.flatMap (Sg (aX x) (kX x) 0)).flatMap (Sg (aX x) (kX x) 1)).flatMap (Sg (aX x) (kX x) 2))) _ _
  rw [f3]
  have start : t.flatMap (fstF (aX x) (kX x)) = ins (aX x 4) (aX x 3) (cOf 0) 0 (t.flatMap (fstF (aX x) (kX x))) := (ins_zero _ _).symm
  rw [start]
  refine mid_runs x _ l3 _ _ n 0 ?_
  rw [Nat.zero_add]
  refine runs_step (p := [aX x 3]) (q := aX x 0 :: kX x 3) rfl (code_cps x 3) (List.cons_ne_nil _ _) (k4 3 (by decide)) (by omega) (rep_sign _ _ _) ?_
  refine runs_step (p := [aX x 4]) (q := (endOf x).cps.toList) rfl rfl (List.cons_ne_nil _ _) hE lb (rep_sign _ _ _) ?_
  have fe := lay_eq H (endOf x).cps.toList (cOf n) t 0
  rw [← fe]
  exact .nil _
end Mine
end

section
open PySem PySem.W PyProof.Rows PySem.Calls PySem.SeqAt PySem.Builtin.Str
namespace Mine
theorem joinInt {M : Model} {A : Around} {E : Value → Shared → Prop} {s : Shared} {t : Sem Value} {Q : Value → Shared → Prop} (h1 : wpAny M A t (fun v s' => ∃ x u tk, v = Value.int x u ∧ s' = { s with toks := tk }) E s) (h2 : ∀ x u tk, Q (.int x u) { s with toks := tk }) : wpAny M A t Q E s :=
  wpAny_mono h1 (by rintro v s' ⟨x, u, tk, rfl, rfl⟩; exact h2 x u tk) (fun _ _ e => e)
theorem newsNe {h₀ h : Heap} {L a b : Addr} {o1 o2 : Obj} {news : List (Addr × Obj)} (N : News h₀ L h news) (h1 : (a, o1) ∈ news) (h2 : (b, o2) ∈ news) (hd : o1.data ≠ o2.data) : @Ne Nat a b := fun e => by
  have e1 := (N _ h1).1
  have e2 := (N _ h2).1
  have e' : a = b := e
  subst e'
  rw [e1] at e2
  exact hd (congrArg Obj.data (Option.some.inj e2))
theorem schemeNe {h₀ h : Heap} {L aT aS aC c1 : Addr} {o1 : Obj} {vs vS vC : List Value} (N : News h₀ L h [(aT, { cls := .type "tuple", data := .seq vs.toArray }), (aS, LCg.lst vS), (aC, LCg.lst vC), (c1, o1)])
    (d1 : ∃ v, o1.data = .cell v) : (@Ne Nat aT c1) ∧ (@Ne Nat aS c1) ∧ (@Ne Nat aC c1) := by
  obtain ⟨v1, d1⟩ := d1
  have m1 : (c1, o1) ∈ [(aT, ({ cls := .type "tuple", data := .seq vs.toArray } : Obj)), (aS, LCg.lst vS), (aC, LCg.lst vC), (c1, o1)] := by simp
  refine ⟨newsNe N (.head _) m1 ?_, newsNe N (.tail _ (.head _)) m1 ?_, newsNe N (.tail _ (.tail _ (.head _))) m1 ?_⟩ <;> simp only [d1] <;> intro e <;> cases e
theorem ints_at : ∀ {vs : List Value} {ns : List Int}, IntsAre vs ns → ∀ (i : Nat) (h : i < ns.length), ∃ t, vs[i]? = some (.int ns[i] t)
  | _, _, .cons n t r, 0, _ => ⟨t, rfl⟩
  | _, _, .cons n t r, i + 1, h => ints_at r i (Nat.lt_of_succ_lt_succ h)
theorem join_len (b : Nat) : ∀ (zs : List Str), (∀ z ∈ zs, z.length ≤ b) → (Str.join (Str.ofString "") zs).length ≤ zs.length * b
  | [], _ => Nat.zero_le _
  | [z], h => by
    have := h z (.head _)
    show z.length ≤ _
    simp only [List.length_cons, List.length_nil]; omega
  | z :: y :: r, h => by
    have h1 := h z (.head _)
    have h2 := join_len b (y :: r) fun a ha => h a (.tail _ ha)
    have h3 : (Str.ofString "").length = 0 := rfl
    show (z ++ Str.ofString "" ++ Str.join (Str.ofString "") (y :: r)).length ≤ _
    rw [Str.length_append, Str.length_append]
    simp only [List.length_cons, Nat.succ_mul] at h2 ⊢
    omega
section
variable {prog : Program} {w : World} {A : Around} {E : Value → Shared → Prop} {s : Shared} {D : Addr} {t : Tok} {Q : Value → Shared → Prop}
theorem joinE {ys : List Value} {zs : List Str} {b n : Nat} (hl : s.heap.IsList D ys.toArray) (hs : StrsAre ys zs) (hb : ∀ z ∈ zs, z.length ≤ b) (hn : zs.length ≤ n) (hbn : n * b ≤ 1000)
    (h : ∀ y t' k, y.length ≤ n * b → Q (.str y t') { s with toks := k }) : wpAny (model prog w) A (call (.builtin "str.join") [.str (Str.ofString "") t, .ref D]) Q E s := by
  have h1 := StrLaws.sumLen_le zs hb
  have h2 : zs.length * b ≤ n * b := Nat.mul_le_mul hn (Nat.le_refl _)
  have h3 : (Str.ofString "").length = 0 := rfl
  refine join_list hl hs (by rw [h3]; omega) fun t' k => h _ t' k ?_
  unfold Txt.join
  rw [StrLaws.glued_eq_join]
  exact Nat.le_trans (join_len b zs hb) h2
end
section
variable {prog : Program} {w : World} {A : Around} {s : Shared} {h₀ : Heap} {L : Addr} {m : Str → Option Value} {env : Env}
theorem compTexts {elt : Expr} {x : Str} {scope : Scope} {cl : List (Str × Addr)} {S : List (Addr × Obj) → Prop} {ws : List Value} {ns : List Int} {news : List (Addr × Obj)} {Fin : List Value → List (Addr × Obj) → Prop} (b : Nat) (hi : IntsAre ws ns) (hS : S news)
    (elem : ∀ n t I oI C oC D ys m₂ h tk (E' : Value → Shared → Prop), LCg.NsObj oC m₂ → m₂ x = some (.int n t) → Fr h₀ L h m → News h₀ L h ((I, oI) :: (C, oC) :: (D, LCg.lst ys) :: news) →
      wpAny (model prog w) A (eval elt (compEnvC scope cl C env)) (fun y s' => ∃ z u h' tk', y = Value.str z u ∧ z.length ≤ b ∧ s' = { s with heap := h', toks := tk' } ∧ Fr h₀ L h' m ∧ News h₀ L h' ((I, oI) :: (C, oC) :: (D, LCg.lst ys) :: news)) E' { s with heap := h, toks := tk })
    (fin : ∀ ys zs, StrsAre ys zs → (∀ z ∈ zs, z.length ≤ b) → zs.length = ns.length → Fin ys news) :
    LCg.CompRest prog w A h₀ L m env elt x scope cl s S (fun i v => ws.toArray[i]? = some v) Fin ws.toArray.size 0 [] news := by
  have key : ∀ k i ys zs, k + i = ns.length → zs.length = i → StrsAre ys zs → (∀ z ∈ zs, z.length ≤ b) → LCg.CompRest prog w A h₀ L m env elt x scope cl s S (fun i v => ws.toArray[i]? = some v) Fin k i ys news := by
    intro k
    induction k with
    | zero => intro i ys zs hk hz hs hb; exact LCg.CompRest.zero (fin ys zs hs hb (by omega))
    | succ k ih =>
      intro i ys zs hk hz hs hb
      refine LCg.CompRest.succ ?_
      intro v I oI C oC D m₂ h tk E' hv hC hx F N off ne
      have hlt : i < ns.length := by omega
      obtain ⟨t, ht⟩ := ints_at hi i hlt
      have hv' : v = .int ns[i] t := by
        have h1 : ws.toArray[i]? = some v := hv
        rw [List.getElem?_toArray, ht] at h1
        exact (Option.some.inj h1).symm
      subst hv'
      refine wpAny_mono (elem _ _ I oI C oC D ys m₂ h tk E' hC hx F N) (fun y s' hq => ?_) fun _ _ e => e
      obtain ⟨z, u, h', tk', rfl, hzb, rfl, F', N'⟩ := hq
      refine LCg.CompEnd.intro F' N' news (fun p hp => hp) off hS ?_
      refine ih (i + 1) _ (zs ++ [z]) (by omega) (by simp [hz]) (hs.append' (.cons _ _ .nil)) ?_
      intro z' hz'
      rcases List.mem_append.mp hz' with h1 | h1
      · exact hb z' h1
      · rw [List.mem_singleton.mp h1]; exact hzb
  have hsz : ws.toArray.size = ns.length := by rw [List.size_toArray]; exact hi.length
  rw [hsz]
  exact key _ 0 [] [] (by omega) rfl .nil (fun _ h => nomatch h)
end
theorem sgn_len (x j : Int) : (sgn x j).length = 1 := rfl
theorem cod_len (x j : Int) : (cod x j).length ≤ 4 := by
  have h1 : (leadOf x j).length ≤ 2 := leadLen _
  have h2 : (Txt.item (Str.ofString "abcd") j).length = 1 := rfl
  have h3 : (Str.ofString ";").length = 1 := rfl
  unfold cod
  rw [Str.length_append, Str.length_append]; omega
theorem sgn_all (x : Int) : ∀ y ∈ [sgn x j0, sgn x j1, sgn x j2, sgn x j3, sgn x j4], y.length ≤ 1 := by
  intro y hy
  simp only [List.mem_cons, List.not_mem_nil, or_false] at hy
  rcases hy with rfl | rfl | rfl | rfl | rfl <;> exact Nat.le_of_eq (sgn_len _ _)
theorem cod_all (x : Int) : ∀ y ∈ [cod x j0, cod x j1, cod x j2, cod x j3], y.length ≤ 4 := by
  intro y hy
  simp only [List.mem_cons, List.not_mem_nil, or_false] at hy
  rcases hy with rfl | rfl | rfl | rfl <;> exact cod_len _ _
local macro_rules | `(tactic| walk_at "CompSrc") => `(tactic| (k_here; k_dflt (refine LCg.CompSrc.ledger (by rfl) (by k_asm) (by k_asm) (by k_mem) (by first | size_fits | exact Nat.le_of_ble_eq_true rfl | kmk_size) ?_; intro g')))
local macro_rules | `(tactic| walk_at "subscriptTail Name Slice ref ref") => `(tactic| (k_here; (with_reducible show wpAny _ _ (subscriptTail _ (PySem.Expr.Slice _ _ none _) (Value.ref _) (Value.ref _)) _ _ _); k_dflt (refine' kmk_slice_ints (s := ⟨_, _, _, _, _⟩) ?F ?N ?l ?p ?q ?i ?m ?c ?_ ?s ?t ?z; (case F => k_asm); (case N => k_asm); (case l => kmk_list); (case p => kmk_part); (case q => kmk_part); (case i => l_ints); (case m => kmk_nums); (case c => kmk_len); (case s => with_unfolding_all rfl); (case t => kmk_pure); (case z => kmk_size)); intro D' ws' h' F' N' l1 hI' hC' hL'; (try simp only [Int.reduceNeg, Int.neg_neg, Int.reduceToNat] at hI' hC' hL'); (try k_lt l1); (try k_sweep)))
section
variable {prog : Program} {w : World} {A : Around} {E : Value → Shared → Prop} {s : Shared} {h₀ : Heap} {L : Addr} {news : List (Addr × Obj)}
theorem strs_at : ∀ {vs : List Value} {ws : List Str}, StrsAre vs ws → ∀ {i : Nat} {y : Str}, ws[i]? = some y → ∃ t, vs[i]? = some (.str y t)
  | _, _, h, _, _, e => h.at e
theorem itemAt {value slice : Expr} {a : Addr} {vs : List Value} {ws : List Str} {n : Nat} {k : Int} {y : Str} {u : Tok} {Q : Value → Shared → Prop} (N : News h₀ L s.heap news) (hm : (a, listOf vs.toArray n) ∈ news) (hi : StrsAre vs ws)
    (h0 : 0 ≤ k) (hk : k < 2 ^ 63) (hy : ws[k.toNat]? = some y) (h : ∀ t', Q (.str y t') s)
    (hs : subscripted slice false (.ref a) (.int k u) = operate [.ref a, .int k u] (getItem (.ref a) (.int k u)) := by with_unfolding_all rfl) (hg : ∀ r, letTemporaryGo value (.ref a) r = pure () := by intro _; with_unfolding_all rfl) :
    wpAny (model prog w) A (subscriptTail value slice (.ref a) (.int k u)) Q E s := by
  obtain ⟨t, ht⟩ := strs_at hi hy
  exact item_listL (News.isList N hm) h0 hk ht (h t) hs hg
end
local macro_rules | `(tactic| walk_at "subscriptTail Name Constant ref int") => `(tactic| (k_here; (with_reducible show wpAny _ _ (subscriptTail _ _ (Value.ref _) (Value.int _ _)) _ _ _); k_dflt (refine itemAt (by k_asm) (by k_mem) (by assumption) (by decide) (by decide) (by exact rfl) ?_); intro _))
section
variable {prog : Program} {w : World} {A : Around} {E : Value → Shared → Prop} {s : Shared} {x i j k : Int} {t u : Tok} {Q : Value → Shared → Prop}
theorem addSC (h : ∀ t' tk, Q (.str (sgn x i ++ cod x j) t') { s with toks := tk }) : wpAny (model prog w) A (binaryOp .Add (.str (sgn x i) t) (.str (cod x j) u)) Q E s :=
  addSm (Nat.le_trans (Nat.le_of_eq (sgn_len x i)) (by decide)) (Nat.le_trans (cod_len x j) (by decide)) h
theorem addSS (h : ∀ t' tk, Q (.str (sgn x i ++ sgn x j) t') { s with toks := tk }) : wpAny (model prog w) A (binaryOp .Add (.str (sgn x i) t) (.str (sgn x j) u)) Q E s :=
  addSm (Nat.le_trans (Nat.le_of_eq (sgn_len x i)) (by decide)) (Nat.le_trans (Nat.le_of_eq (sgn_len x j)) (by decide)) h
theorem addSSS (h : ∀ t' tk, Q (.str (sgn x i ++ sgn x j ++ sgn x k) t') { s with toks := tk }) : wpAny (model prog w) A (binaryOp .Add (.str (sgn x i ++ sgn x j) t) (.str (sgn x k) u)) Q E s :=
  addSm (Nat.le_trans (len_app (Nat.le_of_eq (sgn_len x i)) (Nat.le_of_eq (sgn_len x j))) (by decide)) (Nat.le_trans (Nat.le_of_eq (sgn_len x k)) (by decide)) h
end
local macro_rules | `(tactic| walk_at "binaryOp Add str str") => `(tactic| (k_here; (with_reducible first | refine addSC ?_ | refine addSS ?_ | refine addSSS ?_); intro _ _))
theorem News.keep3 {h₀ h : Heap} {L : Addr} {b p1 p2 p3 p4 p5 q1 q2 c1 c2 c3 : Addr × Obj} (N : News h₀ L h [b, p1, p2, p3, p4, p5, q1, q2, c1, c2, c3]) : News h₀ L h [b, q1, q2, c1, c2, c3] :=
  cb_drop N fun z hz => by
    simp only [List.mem_cons, List.not_mem_nil, or_false] at hz ⊢
    rcases hz with h | h | h | h | h | h <;> simp [h]
theorem News.ends {h₀ h : Heap} {L : Addr} {news : List (Addr × Obj)} (N : News h₀ L h news) : News h₀ L h (news.take 1 ++ news.drop (news.length - 5)) :=
  cb_drop N fun z hz => by
    rcases List.mem_append.mp hz with h | h
    · exact List.mem_of_mem_take h
    · exact List.mem_of_mem_drop h
theorem starFit {vT : List Value} (h : vT.length ≤ 32) : vT.toArray.size ≤ sizeLine := by rw [List.size_toArray]; exact Nat.le_trans h (by decide)
local macro_rules | `(tactic| walk_at "StarOf ref") => `(tactic| (k_here; k_dflt (refine' star_seq ?k1 ?k2 ?m ?c ?d ?T ?e ?z ?_; (case k1 => k_asm); (case k2 => k_asm); (case m => k_mem); (case c => exact rfl); (case d => exact rfl); (case T => first | exact .inl rfl | exact .inr rfl); (case e => exact rfl); (case z => exact starFit (Nat.le_of_ble_eq_true rfl)); k_whole); intro h' F' N'; (try k_sweep); try dsimp only [List.nil_append, List.cons_append]))
local macro_rules | `(tactic| k_steps) => `(tactic| repeat' (first | (k_unfold; (try dsimp only)) | (k_end; wrow_close) | dsimp only | ((fail_if_success (with_reducible show wpAny _ _ (eval (Expr.IfExp _ _ _ _) _) _ _ _)); (fail_if_success (with_reducible show wpAny _ _ (eval (Expr.ListComp _ _ _ _) _) _ _ _)); (fail_if_success (with_reducible show wpAny _ _ (exec (Stmt.For _ _ _ _ _) _) _ _ _)); (fail_if_success (with_reducible show wpAny _ _ (call (Value.ref _) _) _ _ _)); (fail_if_success (with_reducible show wpAny _ _ (pyIter _) _ _ _)); walk1)))
local macro_rules | `(tactic| walk_at "binaryOp Mult ref int") => `(tactic| (k_here; (with_reducible show wpAny _ _ (binaryOp Operator.Mult (Value.ref _) (Value.int _ _)) _ _ _); k_dflt (refine' KMa.mul ?F ?N ?l ?lo ?hi ?z ?e ?_; (case F => k_asm); (case N => k_asm); (case l => exact News.isList (by k_asm) (.head _)); (case lo => decide); (case hi => decide); (case z => exact Nat.le_of_ble_eq_true rfl); (case e => (simp only [Int.reduceToNat, List.replicate_succ, List.replicate_zero, List.flatten_cons, List.flatten_nil, List.cons_append, List.nil_append, List.append_nil]; first | done | exact rfl))); intro D' h' F' N' l1; (try k_lt l1)))
theorem News.ends2 {h₀ h : Heap} {L : Addr} {news : List (Addr × Obj)} (N : News h₀ L h news) : News h₀ L h (news.take 2 ++ news.drop (news.length - 3)) :=
  cb_drop N fun z hz => by
    rcases List.mem_append.mp hz with h | h
    · exact List.mem_of_mem_take h
    · exact List.mem_of_mem_drop h
def canonR (u m : Str → Option Value) : Str → Option Value := fun y => if y = "turns" ∨ y = "row" then u y else m y
theorem canonR_of {m' m : Str → Option Value} (h : ∀ y : Str, ¬ (y = "turns" ∨ y = "row") → m' y = m y) : m' = canonR m' m := by
  funext y
  unfold canonR
  split
  · rfl
  · next h' => exact h y h'
theorem ne_self (a : Str) : ¬ ((a != a) = true) := by simp
theorem turnR {g : Heap} {L : Addr} {s : Shared} {nx nx' : List (Addr × Obj)} {Q : Flow → Shared → Prop} {h' : Heap} {tk : Nat} {m' m : Str → Option Value}
    (F : Fr g L h' m') (N : News g L h' nx') (hs : ∀ p ∈ nx, p ∈ nx') (h2 : ∀ y : Str, ¬ (y = "turns" ∨ y = "row") → m' y = m y) :
    TurnEnd g L s nx (fun m' => ∃ u, m' = canonR u m) Q .next { s with heap := h', toks := tk } :=
  ⟨h', tk, m', rfl, F, cb_drop N hs, m', canonR_of h2⟩


theorem main02 : PySem.Challenge.rw_mq0462_02.Holds := hd (by
  k_go0
  (all_goals try k_fold)
  k_steps
  refine joinInt ?_ ?_
  · walk1
    k_steps
    all_goals exact ⟨_, _, _, rfl, rfl⟩
  intro x u tk
  dsimp only
  k_steps
  k_dflt (refine' tScheme _ _ _ _ _ _ _ _ _ _ _ _ _ _ _ _ _ _ _ ?k1 ?k2 ?k3 ?k4 ?k5 ?k6 ?k7 ?k8 ?_; (case k2 => k_asm); (case k1 => k_asm); (case k3 => k_asm); (case k4 => k_asm); (case k5 => k_asm); (case k6 => exact rfl); (case k7 => ktr_room); (case k8 => ktr_units))
  intro aT aS aC vS vC te h9 tk9 iS iC F9 N9
  have hne := schemeNe N9 ⟨_, by assumption⟩
  have hneH := PySem.Flt.Hid.mk hne
  dsimp only
  k_steps
  clear hne
  k_dflt (refine LCg.ListComp_U (F₀ := by k_asm) (by rfl) (by decide) (by rfl) (by decide) (by rfl) ?_)
  k_steps
  refine compTexts 5 (by l_ints) ?_ ?_ ?_
  · exact Or.inr ⟨_, by k_mem, rfl, _, rfl⟩
  · intro n t I oI C oC D ys m₂ h tk E' hC' hx' F' N'
    k_steps
    k_dflt (refine' tPiece (vS := vS) ?q1 iS ?q2 ?q3 _ _ _ _ _ _ _ _ _ _ _ _ _ _ _ _ _ _ _ ?k1 ?k2 ?k3 ?k4 ?k5 ?k6 ?k7 ?k8 ?_; (case k2 => k_asm); (case k4 => k_asm); (case k1 => k_asm); (case k3 => k_asm);  (case k5 => k_asm); (case k6 => exact rfl); (case k7 => ktr_room); (case k8 => ktr_units); (case q1 => k_mem); (case q2 => rfl); (case q3 => exact sgn_all x))
    rintro v h9 tk9 ⟨y, u, rfl, hy⟩ F9 N9
    k_unfold
    exact ⟨y, u, h9, tk9, rfl, hy, rfl, F9, N9⟩
  intro ys zs hs hb hl
  replace hl : zs.length ≤ 25 := by rw [hl]; simp only [List.length_append, List.length_take, List.length_cons, List.length_nil]; omega
  unfold LCg.FinE
  intro D5 h5 tk5 F5 N5 o5
  clear o5
  dsimp only
  k_steps
  k_dflt (refine' joinE (n := 25) (News.isList N5 (.head _)) hs hb hl (by decide) ?_)
  intro text tt tk6 htext
  clear hs hb hl
  dsimp only
  k_steps
  rename Fr _ _ _ _ => F6
  rename News _ _ _ _ => N6
  replace N6 := News.ends2 N6
  simp only [List.length_cons, List.length_nil, Nat.reduceAdd, Nat.reduceSub, List.drop_succ_cons, List.drop_zero, List.take_succ_cons, List.take_zero, List.cons_append, List.nil_append] at N6
  (with_unfolding_all refine For_invVF F6 (by rfl) (by rfl) ?_)
  k_steps
  (with_unfolding_all refine rangeLoop (n := 4) (fun m₀ _ m => ∃ u, m = canonR u m₀) (by rfl) (by assumption) (by decide) (by decide) (by assumption) (by assumption) ?_ ?_ ?_)
  · exact ⟨_, canonR_of fun _ _ => rfl⟩
  · rintro i ti m₁ h13 tk13 own hi ⟨u13, rfl⟩ F13 N13
    have hi4 : i = 0 ∨ i = 1 ∨ i = 2 ∨ i = 3 := by omega
    have go := goRow x text htext i hi
    obtain ⟨n, hn⟩ : ∃ n : Int, n = 0 + (i : Int) * 1 := ⟨_, rfl⟩
    rw [← hn] at F13
    rw [show ((i : Nat) : Int) = n by omega] at go
    have hneS := hneH.out.2.1
    have hneC := hneH.out.2.2
    simp only [List.cons_append, List.nil_append] at N13
    (try k_fold)
    dsimp only
    have hn4 : (i = 0 ∧ n = 0) ∨ (i = 1 ∧ n = 1) ∨ (i = 2 ∧ n = 2) ∨ (i = 3 ∧ n = 3) := by omega
    clear hn hi4 hi
    rcases hn4 with ⟨rfl, rfl⟩ | ⟨rfl, rfl⟩ | ⟨rfl, rfl⟩ | ⟨rfl, rfl⟩
    all_goals (
      k_steps
      k_dflt (refine' tReplace ?hb ?z _ _ _ go _ _ _ _ _ _ _ _ _ _ _ _ _ _ _ _ _ ?k1 ?k2 ?k3 ?k4 ?k5 ?k6 ?k7 ?k8 ?_; (case k2 => k_asm); (case k4 => k_asm); (case k1 => k_asm); (case k3 => k_asm);  (case k5 => k_asm); (case k6 => exact rfl); (case k7 => ktr_room); (case k8 => ktr_units); (case hb => exact .cons _ _ _ _ (.cons _ _ _ _ (.cons _ _ _ _ (by first | exact .cons _ _ _ _ (.cons _ _ _ _ .nil) | exact .cons _ _ _ _ (.cons _ _ _ _ (.cons _ _ _ _ .nil)) | exact .cons _ _ _ _ (.cons _ _ _ _ (.cons _ _ _ _ (.cons _ _ _ _ .nil))) | exact .cons _ _ _ _ (.cons _ _ _ _ (.cons _ _ _ _ (.cons _ _ _ _ (.cons _ _ _ _ .nil)))))))); (case z => exact Nat.le_of_ble_eq_true rfl))
      rintro v14 h14 tk14 ⟨t14, rfl⟩ F14 N14
      dsimp only
      k_steps
      k_dflt (refine' tLaid (vS := vS) (vC := vC) ?q1 iS ?q2 ?q3 ?q4 iC ?q5 ?q6 ?q7 _ ?q8 _ ?q9 ?q10 _ _ _ _ _ _ _ _ _ _ _ _ _ _ _ _ _ _ _ _ ?k1 ?k2 ?k3 ?k4 ?k5 ?k6 ?k7 ?k8 ?_; (case k2 => k_asm); (case k4 => k_asm); (case k1 => k_asm); (case k3 => k_asm);  (case k5 => k_asm); (case k6 => exact rfl); (case k7 => ktr_room); (case k8 => ktr_units); (case q1 => k_mem); (case q2 => rfl); (case q3 => exact sgn_all x); (case q4 => k_mem); (case q5 => rfl); (case q6 => exact cod_all x); (case q7 => exact endOf_len x); (case q8 => omega); (case q9 => omega); (case q10 => omega))
      rintro v15 h15 tk15 ⟨t15, rfl⟩ F15 N15
      dsimp only
      k_steps
      · rename ((_ != _) = true) => hc
        exact absurd hc (ne_self _)
      · (with_unfolding_all refine turnR F15 N15 (fun p hp => .tail _ (.tail _ (.tail _ (.tail _ hp)))) ?_)
        intro y hy
        have hy' := hy
        simp only [not_or] at hy'
        simp only [canonR, hy'.1, hy'.2, if_false, or_self])
  · rintro m₁ h13 tk13 ⟨u13, rfl⟩ F13 N13
    dsimp only
    k_steps)
end Mine
end

theorem PySem.Challenge.cw_mq0462_02_holds : PySem.Challenge.rw_mq0462_02.Holds :=
  Mine.main02
