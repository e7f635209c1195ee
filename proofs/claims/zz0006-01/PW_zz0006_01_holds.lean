import PyProof.Rows.All
import Wide.All
import OpenK.AllK
import Wide.FinOn
import PySem.Challenge.RW_zz0006_01
open PySem PySem.W PyProof.Rows
set_option Elab.async false
set_option maxRecDepth 100000
set_option maxHeartbeats 8000000
namespace Mine
open_top hd for PySem.Challenge.rw_zz0006_01
end Mine
namespace Mine
def bis (x : Int) : Int := if x ≤ 0 then 0 else if x ≤ 1 then 1 else if x ≤ 4 then 2 else if x ≤ 9 then 3 else if x ≤ 16 then 4 else if x ≤ 25 then 5 else if x ≤ 36 then 6 else if x ≤ 49 then 7 else if x ≤ 64 then 8 else 9
/-- the row of squares as an object -/
def SqObj (o : Obj) : Prop := ∃ t0 t1 t2 t3 t4 t5 t6 t7 t8 : Tok, ∃ k : Nat, o = { cls := .type "list", data := .seq (List.toArray [Value.int 0 t0, Value.int 1 t1, Value.int 4 t2, Value.int 9 t3, Value.int 16 t4, Value.int 25 t5, Value.int 36 t6, Value.int 49 t7, Value.int 64 t8]) k }
end Mine
namespace Mine
theorem bis0 {x : Int} (h : ¬ (0:Int) < x) : bis x = 0 := by unfold bis; rw [if_pos (by omega)]
theorem bis9 {x : Int} (h : (64:Int) < x) : bis x = 9 := by unfold bis; repeat rw [if_neg (by omega)]
theorem bis1 {x : Int} (h : (0:Int) < x) (g : ¬ (1:Int) < x) : bis x = 1 := by unfold bis; rw [if_neg (by omega), if_pos (by omega)]
theorem bis2 {x : Int} (h : (1:Int) < x) (g : ¬ (4:Int) < x) : bis x = 2 := by unfold bis; rw [if_neg (by omega), if_neg (by omega), if_pos (by omega)]
theorem bis3 {x : Int} (h : (4:Int) < x) (g : ¬ (9:Int) < x) : bis x = 3 := by unfold bis; rw [if_neg (by omega), if_neg (by omega), if_neg (by omega), if_pos (by omega)]
theorem bis4 {x : Int} (h : (9:Int) < x) (g : ¬ (16:Int) < x) : bis x = 4 := by unfold bis; rw [if_neg (by omega), if_neg (by omega), if_neg (by omega), if_neg (by omega), if_pos (by omega)]
theorem bis5 {x : Int} (h : (16:Int) < x) (g : ¬ (25:Int) < x) : bis x = 5 := by unfold bis; rw [if_neg (by omega), if_neg (by omega), if_neg (by omega), if_neg (by omega), if_neg (by omega), if_pos (by omega)]
theorem bis6 {x : Int} (h : (25:Int) < x) (g : ¬ (36:Int) < x) : bis x = 6 := by unfold bis; rw [if_neg (by omega), if_neg (by omega), if_neg (by omega), if_neg (by omega), if_neg (by omega), if_neg (by omega), if_pos (by omega)]
theorem bis7 {x : Int} (h : (36:Int) < x) (g : ¬ (49:Int) < x) : bis x = 7 := by unfold bis; rw [if_neg (by omega), if_neg (by omega), if_neg (by omega), if_neg (by omega), if_neg (by omega), if_neg (by omega), if_neg (by omega), if_pos (by omega)]
theorem bis8 {x : Int} (h : (49:Int) < x) (g : ¬ (64:Int) < x) : bis x = 8 := by unfold bis; rw [if_neg (by omega), if_neg (by omega), if_neg (by omega), if_neg (by omega), if_neg (by omega), if_neg (by omega), if_neg (by omega), if_neg (by omega), if_pos (by omega)]
theorem ct_bis (w : World) (p : Program) (loose : List Str) (mean : ExcName → Option Value) (mg mb : Str → Option Value) (news : List (Addr × Obj)) (l : Addr) (o : Obj) (x : Int) (t : Tok) :
   CbClaim PySem.Challenge.rw_zz0006_01.row.prog w (Mine.hd.heap_39 w.params) p loose mean mg mb 65 news [] (SqObj o ∧ (l, o) ∈ news) [.ref l, .int x t] (fun t => .int (bis x) t) := by
  k_fill
  dsimp only [CbClaim, CbLists, CbRet]
  intro dp un gd cn cs a ccd cl outer A₀ base h₀ L m s Q E B F X N₀ T hk hpre hd hu hret
  obtain ⟨⟨t0, t1, t2, t3, t4, t5, t6, t7, t8, k, rfl⟩, hm⟩ := hpre
  have N : News h₀ L s.heap ((l, { cls := .type "list", data := .seq (List.toArray [Value.int 0 t0, Value.int 1 t1, Value.int 4 t2, Value.int 9 t3, Value.int 16 t4, Value.int 25 t5, Value.int 36 t6, Value.int 49 t7, Value.int 64 t8]) k }) :: news) := by
    intro p hp
    rcases List.mem_cons.mp hp with rfl | hp
    · exact N₀ _ hm
    · exact N₀ _ hp
  clear hm
  refine wpAny_call ?_
  k_dflt (refine' code_def ?k1 ?k2 ?k3 ?k4 ?k5 ?kA ?kF ?kK ?k6 ?k7 ?k8 ?k9 ?kB ?_ ?c2 ?c3 ?c4 ?c5)
  (case kA => exact rfl); (case kF => exact rfl); (case kK => assumption); (case k1 => k_asm); (case k2 => k_asm); (case k3 => k_asm); (case k4 => k_asm); (case k5 => k_asm); (case k6 => k_dflt k_is); (case k7 => k_dflt k_is); (case k8 => ktr_room); (case k9 => (refine' kp_binds ?kx ?ke; (case kx => k_in); (case ke => exact fun _ => rfl))); (case c5 => decide); (case kB => exact locs rfl); (case c2 => exact rfl); (case c3 => exact rfl); (case c4 => exact rfl); k_whole; intro g' L' h' FG' F' N' B' X' T'; (try dsimp only); (try k_lift B'); (try k_fold)
  k_steps
  all_goals (refine cb_retI (Q := Q) hret ?_ (by k_asm) ?_)
  all_goals (first | exact cb_drop (by assumption) (fun p hp => List.mem_cons_of_mem _ hp) | (symm; first
    | exact bis0 (by assumption) | exact bis1 (by assumption) (by assumption) | exact bis2 (by assumption) (by assumption) | exact bis3 (by assumption) (by assumption)
    | exact bis4 (by assumption) (by assumption) | exact bis5 (by assumption) (by assumption) | exact bis6 (by assumption) (by assumption) | exact bis7 (by assumption) (by assumption)
    | exact bis8 (by assumption) (by assumption) | exact bis9 (by assumption)))
end Mine
namespace Mine
local macro_rules | `(tactic| walk_at "spare") => `(tactic| fail)
section
variable {w : World} {p : Program} {loose : List Str} {mean : ExcName → Option Value} {mg mb : Str → Option Value} {news : List (Addr × Obj)}
  {dp un : Nat} {gd : Option (List Code)} {cn : Str} {cs : Scope} {a : Addr} {ccd : Value} {cl : List (Str × Addr)} {outer : List Env} {A₀ : Around} {base h₀ : Heap} {L : Addr} {m : Str → Option Value} {s : Shared} {Q E : Value → Shared → Prop}
/-- a place in the row of squares, case by case -/
theorem use_bis {l : Addr} {o : Obj} {x : Int} {t : Tok}
    (B : Below A₀ base outer h₀) (F : Fr h₀ L s.heap m) (X : (Mine.hd.heap_39 w.params).In h₀) (N : News h₀ L s.heap news) (T : Top p loose mean mg mb h₀) (hk : cs.kind = .function) (ho : SqObj o) (hm : (l, o) ∈ news)
    (hd : dp + 1 < recursionLimit) (hu : un + 8 < cLine)
    (hret : ∀ t h' tk', Fr h₀ L h' m → News h₀ L h' news → Q (.int (bis x) t) { s with heap := h', toks := tk' }) :
    wpAny (model PySem.Challenge.rw_zz0006_01.row.prog w) (ktrTop dp un gd cn cs L a ccd cl outer) (call (.ref 65) [.ref l, .int x t]) Q E s :=
  ct_bis w p loose mean mg mb news l o x t dp un gd cn cs a ccd cl outer A₀ base h₀ L m s Q E B F X N T hk ⟨ho, hm⟩ hd hu hret
def sqAt : Nat → Int
  | 0 => 0 | 1 => 1 | 2 => 4 | 3 => 9 | 4 => 16 | 5 => 25 | 6 => 36 | 7 => 49 | 8 => 64 | _ => 100
def isq (x : Int) : Bool := decide (x = 0 ∨ x = 1 ∨ x = 4 ∨ x = 9 ∨ x = 16 ∨ x = 25 ∨ x = 36 ∨ x = 49 ∨ x = 64)
theorem bis_val (x : Int) : bis x = 0 ∨ bis x = 1 ∨ bis x = 2 ∨ bis x = 3 ∨ bis x = 4 ∨ bis x = 5 ∨ bis x = 6 ∨ bis x = 7 ∨ bis x = 8 ∨ bis x = 9 := by
  unfold bis
  repeat' split
  all_goals decide
theorem bis_lo {x : Int} (h : ¬ 0 ≤ x) : bis x = 0 := if_pos (Int.le_of_lt (Int.not_le.mp h))
theorem bis_hi {x : Int} (h : ¬ x ≤ 64) : bis x = 9 := by
  have g : ∀ {k : Int}, k ≤ 64 → ¬ x ≤ k := fun hk hx => h (Int.le_trans hx hk)
  unfold bis
  rw [if_neg (g (by decide)), if_neg (g (by decide)), if_neg (g (by decide)), if_neg (g (by decide)), if_neg (g (by decide)), if_neg (g (by decide)), if_neg (g (by decide)), if_neg (g (by decide)), if_neg h]
def sqv (x : Int) : Int := sqAt (bis x).toNat
theorem sq_item {prog : Program} {A : Around} {value slice : PySem.Expr} {l : Addr} {t0 t1 t2 t3 t4 t5 t6 t7 t8 : Tok} {k : Nat} {x : Int} {u : Tok}
    (N : News h₀ L s.heap ((l, { cls := .type "list", data := .seq (List.toArray [Value.int 0 t0, Value.int 1 t1, Value.int 4 t2, Value.int 9 t3, Value.int 16 t4, Value.int 25 t5, Value.int 36 t6, Value.int 49 t7, Value.int 64 t8]) k }) :: news))
    (hx : bis x < 9) (h : ∀ tk, Q (.int (sqv x) tk) s)
    (hs : ∀ k, subscripted slice false (.ref l) (.int k u) = operate [.ref l, .int k u] (getItem (.ref l) (.int k u)) := by (intro k; with_unfolding_all rfl)) :
    wpAny (model prog w) A (subscriptTail value slice (.ref l) (.int (bis x) u)) Q E s := by
  have hl := News.isList N (.head _)
  have key : ∀ (i : Nat) (v : Int) (tk : Tok), bis x = (i : Int) → (i : Int) < 2 ^ 63 → [Value.int 0 t0, Value.int 1 t1, Value.int 4 t2, Value.int 9 t3, Value.int 16 t4, Value.int 25 t5, Value.int 36 t6, Value.int 49 t7, Value.int 64 t8][i]? = some (.int v tk) → sqAt i = v →
      wpAny (model prog w) A (subscriptTail value slice (.ref l) (.int (bis x) u)) Q E s := by
    intro i v tk e hlt hv hq
    have e2 : sqv x = v := by unfold sqv; rw [e]; exact hq
    refine tail_any hl.typeIs slot_list_getitem.lookup (wpAny_getItem_list hl (by omega) (by omega) (by rw [e]; simpa using hv) (e2 ▸ h tk)) (hs _)
  rcases bis_val x with e | e | e | e | e | e | e | e | e | e
  · exact key 0 _ _ e (by decide) rfl rfl
  · exact key 1 _ _ e (by decide) rfl rfl
  · exact key 2 _ _ e (by decide) rfl rfl
  · exact key 3 _ _ e (by decide) rfl rfl
  · exact key 4 _ _ e (by decide) rfl rfl
  · exact key 5 _ _ e (by decide) rfl rfl
  · exact key 6 _ _ e (by decide) rfl rfl
  · exact key 7 _ _ e (by decide) rfl rfl
  · exact key 8 _ _ e (by decide) rfl rfl
  · rw [e] at hx; exact absurd hx (by decide)
theorem isq_tab : ∀ k : Nat, k < 65 → decide (sqv k = k) = isq k := by decide +kernel
theorem isq_yes {x : Int} (h : isq x = true) : bis x < 9 ∧ 0 ≤ x := by
  rcases of_decide_eq_true h with rfl | rfl | rfl | rfl | rfl | rfl | rfl | rfl | rfl <;> decide
theorem isq_of (x : Int) (h : bis x < 9) : decide (sqv x = x) = isq x := by
  by_cases h0 : 0 ≤ x
  · by_cases h1 : x ≤ 64
    · obtain ⟨k, rfl⟩ := Int.eq_ofNat_of_zero_le h0
      exact isq_tab k (by omega)
    · rw [bis_hi h1] at h
      exact absurd h (by decide)
  · have e : isq x = false := by
      cases he : isq x with
      | false => rfl
      | true => exact absurd (isq_yes he).2 h0
    rw [e]
    unfold sqv
    rw [bis_lo h0]
    exact decide_eq_false fun hx => h0 (hx ▸ (by decide))
theorem isq_no (x : Int) (h : ¬ bis x < 9) : decide (bis x < 9) = isq x := by
  rw [decide_eq_false h]
  cases he : isq x with
  | false => rfl
  | true => exact absurd (isq_yes he).1 h
local macro_rules | `(tactic| walk_at "subscriptTail") => `(tactic| (k_here; (with_reducible show wpAny _ _ (subscriptTail _ _ (Value.ref _) (Value.int (bis _) _)) _ _ _); k_dflt (refine' sq_item ?k1 ?k2 ?_; (case k1 => k_asm); (case k2 => assumption); k_whole); intro t9))
local macro_rules | `(tactic| walk_at "call ref") => `(tactic| (k_here; k_dflt (refine' use_bis ?k1 ?k2 ?k3 ?k4 ?k5 ?kK ?ko ?km ?kd ?ku ?_; (case k1 => k_asm); (case k2 => k_asm); (case k3 => k_asm); (case k4 => k_asm); (case k5 => k_asm); (case kK => first | exact rfl | assumption); (case km => k_mem); (case ko => first | assumption | exact ⟨_, _, _, _, _, _, _, _, _, _, rfl⟩); (case kd => ktr_room); (case ku => ktr_units); k_whole; (intro t9 h9 tk9 F9 N9); (try dsimp only); (try k_sweep); walk_say "BISECT")))
theorem ct_is {l : Addr} {o : Obj} {x : Int} {t : Tok}
    (B : Below A₀ base outer h₀) (F : Fr h₀ L s.heap m) (X : (Mine.hd.heap_39 w.params).In h₀) (N₀ : News h₀ L s.heap news) (T : Top p loose mean mg mb h₀) (hk : cs.kind = .function) (ho : SqObj o) (hm : (l, o) ∈ news)
    (hd : dp + 2 < recursionLimit) (hu : un + 16 < cLine)
    (hret : ∀ (t : Tok) h' tk', Fr h₀ L h' m → News h₀ L h' news → Q (.bool (isq x)) { s with heap := h', toks := tk' }) :
    wpAny (model PySem.Challenge.rw_zz0006_01.row.prog w) (ktrTop dp un gd cn cs L a ccd cl outer) (call (.ref 72) [.ref l, .int x t]) Q E s := by
  have _hk : (Mine.hd.heap_39 w.params).In h₀ → PySem.Challenge.rw_zz0006_01.row.prog = PySem.Challenge.rw_zz0006_01.row.prog := by k_fill; exact fun _ => rfl
  clear _hk
  obtain ⟨t0, t1, t2, t3, t4, t5, t6, t7, t8, k, rfl⟩ := ho
  have N : News h₀ L s.heap ((l, { cls := .type "list", data := .seq (List.toArray [Value.int 0 t0, Value.int 1 t1, Value.int 4 t2, Value.int 9 t3, Value.int 16 t4, Value.int 25 t5, Value.int 36 t6, Value.int 49 t7, Value.int 64 t8]) k }) :: news) := by
    intro p hp
    rcases List.mem_cons.mp hp with rfl | hp
    · exact N₀ _ hm
    · exact N₀ _ hp
  clear hm N₀
  refine wpAny_call ?_
  k_dflt (refine' code_def ?k1 ?k2 ?k3 ?k4 ?k5 ?kA ?kF ?kK ?k6 ?k7 ?k8 ?k9 ?kB ?_ ?c2 ?c3 ?c4 ?c5)
  (case kA => exact rfl); (case kF => exact rfl); (case kK => assumption); (case k1 => k_asm); (case k2 => k_asm); (case k3 => k_asm); (case k4 => k_asm); (case k5 => k_asm); (case k6 => k_dflt k_is); (case k7 => k_dflt k_is); (case k8 => ktr_room); (case k9 => exact BindsTo.of_eq rfl); (case c5 => decide); (case kB => exact locs rfl); (case c2 => exact rfl); (case c3 => exact rfl); (case c4 => exact rfl); k_whole; intro g' L' h' FG' F' N' B' X' T'; (try dsimp only); (try k_lift B'); (try k_fold)
  k_steps
  all_goals (refine cb_retB (Q := Q) hret ?_ (by k_asm) ?_)
  all_goals (first | exact cb_drop (by assumption) (fun p hp => List.mem_cons_of_mem _ hp) | exact isq_of _ (by assumption) | exact isq_no _ (by assumption))
end
end Mine
namespace Mine
local macro_rules | `(tactic| walk_at "spare") => `(tactic| fail)
local macro_rules | `(tactic| walk_at "spare") => `(tactic| fail)
local macro_rules | `(tactic| walk_at "spare") => `(tactic| fail)
local macro_rules | `(tactic| walk_at "spare") => `(tactic| fail)
def SQL : List (Int × Int) := [(0, 0), (1, 1), (2, 4), (3, 9), (4, 16), (5, 25), (6, 36), (7, 49), (8, 64)]
def twoStop (n : Int) (a : Int × Int) : Bool := decide (a.2 ≤ n) && isq (n - a.2)
def twoF (n : Int) : List (Int × Int) → Option (Int × Int)
  | [] => none
  | a :: r => if twoStop n a then some (a.1, bis (n - a.2)) else twoF n r
def two (n : Int) : Option (Int × Int) := twoF n SQL
section
variable {prog : Program} {w : World} {A : Around} {E : Value → Shared → Prop} {s : Shared} {env : Env} {h₀ : Heap} {target : PySem.Expr} {body : List Stmt} {Q : Flow → Shared → Prop}
theorem unr_end {L : Addr} {s₁ : Shared} {h' : Heap} {tk : Nat} {m' : Str → Option Value} {its news all : List (Addr × Obj)} {rest : (Str → Option Value) → List (Addr × Obj) → Prop} (F : Fr h₀ L h' m') (N : News h₀ L h' all)
    (hi : ∀ p ∈ its, p ∈ all) (hn : ∀ p ∈ news, p ∈ all) (off : ∀ p ∈ news, ∀ q ∈ its, p.1 ≠ q.1) (r : rest m' news) : UnrEndW h₀ L s₁ its rest { s₁ with heap := h', toks := tk } :=
  ⟨h', tk, m', news, rfl, F, fun p hp => N p ((List.mem_append.mp hp).elim (hi p) (hn p)), off, r⟩
theorem items_ind {α : Type} {ws : List (Addr × String)} {keep : List (Addr × Obj)} {m₀ : Str → Option Value} {news : List (Addr × Obj)} {ys : List Itm} (mk : α → Itm) (M : (Str → Option Value) → Str → Option Value) (Stop : α → Bool) (all : List α)
    (turn : ∀ pre a r u, all = pre ++ a :: r → (∀ b ∈ pre, Stop b = false) → (Stop a = false → ∀ m', M m' = m' → ItemsRest prog w A E h₀ env target body Q s ws keep (r.map mk) m' news) → ItemsRest prog w A E h₀ env target body Q s ws keep (mk a :: r.map mk) (M u) news)
    (fin : (∀ a ∈ all, Stop a = false) → ∀ u, ItemsRest prog w A E h₀ env target body Q s ws keep [] (M u) news)
    (hy : all.map mk = ys) (hm : M m₀ = m₀) :
    ItemsRest prog w A E h₀ env target body Q s ws keep ys m₀ news := by
  have go : ∀ (xs pre : List α) u, all = pre ++ xs → (∀ b ∈ pre, Stop b = false) → ItemsRest prog w A E h₀ env target body Q s ws keep (xs.map mk) (M u) news := by
    intro xs
    induction xs with
    | nil => intro pre u e h; rw [List.append_nil] at e; exact fin (e ▸ h) u
    | cons a r ih =>
      intro pre u e h
      refine turn pre a r u e h fun hs m' hm' => hm' ▸ ih (pre ++ [a]) m' (by rw [List.append_assoc]; exact e) fun b hb => ?_
      rcases List.mem_append.mp hb with hb | hb
      · exact h b hb
      · rw [List.mem_singleton.mp hb]; exact hs
  rw [← hy, ← hm]
  exact go all [] m₀ rfl fun _ h => nomatch h
end
theorem twoF_hit {n : Int} {a : Int × Int} {r : List (Int × Int)} : ∀ {pre : List (Int × Int)}, (∀ b ∈ pre, twoStop n b = false) → twoStop n a = true → twoF n (pre ++ a :: r) = some (a.1, bis (n - a.2))
  | [], _, h => by simp [twoF, h]
  | b :: q, hp, h => by
    have e := hp b (List.mem_cons_self ..)
    simp only [List.cons_append, twoF, e]
    exact twoF_hit (fun c hc => hp c (List.mem_cons_of_mem _ hc)) h
theorem twoF_none {n : Int} : ∀ {l : List (Int × Int)}, (∀ b ∈ l, twoStop n b = false) → twoF n l = none
  | [], _ => rfl
  | b :: q, hp => by
    have e := hp b (List.mem_cons_self ..)
    simp only [twoF, e]
    exact twoF_none (fun c hc => hp c (List.mem_cons_of_mem _ hc))
section
variable {w : World} {p : Program} {loose : List Str} {mean : ExcName → Option Value} {mg mb : Str → Option Value} {news : List (Addr × Obj)}
  {dp un : Nat} {gd : Option (List Code)} {cn : Str} {cs : Scope} {a : Addr} {ccd : Value} {cl : List (Str × Addr)} {outer : List Env} {A₀ : Around} {base h₀ : Heap} {L : Addr} {m : Str → Option Value} {s : Shared} {Q E : Value → Shared → Prop}
def M2 (l : Addr) (n : Int) (t : Tok) (u : Str → Option Value) : Str → Option Value := fun y => if y = "squares" then some (.ref l) else if y = "number" then some (.int n t) else u y
theorem M2_eq {l : Addr} {n : Int} {t : Tok} {m : Str → Option Value} (h1 : m "squares" = some (.ref l)) (h2 : m "number" = some (.int n t)) : M2 l n t m = m := by
  funext y
  unfold M2
  by_cases e1 : y = "squares"
  · rw [if_pos e1, e1, h1]
  · rw [if_neg e1]
    by_cases e2 : y = "number"
    · rw [if_pos e2, e2, h2]
    · rw [if_neg e2]
theorem news_sub4 {h₀ h : Heap} {L : Addr} {a b c d : Addr × Obj} {news : List (Addr × Obj)} (N : News h₀ L h (a :: b :: c :: d :: news)) : News h₀ L h (a :: news) := fun p hp => N p (by
  rcases List.mem_cons.mp hp with rfl | hp
  · exact .head _
  · exact .tail _ (.tail _ (.tail _ (.tail _ hp))))
theorem twoStop_of {n i sq : Int} (h1 : sq ≤ n) (h2 : isq (n - sq) = true) : twoStop n (i, sq) = true := by simp [twoStop, h1, h2]
theorem twoStop_no1 {n i sq : Int} (h1 : ¬ sq ≤ n) : twoStop n (i, sq) = false := by simp [twoStop, h1]
theorem twoStop_no2 {n i sq : Int} (h2 : isq (n - sq) = false) : twoStop n (i, sq) = false := by simp [twoStop, h2]
theorem two_hit {n i sq : Int} {tk0 t0 t1 t2 t3 t4 t5 t6 t7 t8 : Tok} {pre r : List ((Int × Int) × Tok)}
    (hall : [((0, 0), t0), ((1, 1), t1), ((2, 4), t2), ((3, 9), t3), ((4, 16), t4), ((5, 25), t5), ((6, 36), t6), ((7, 49), t7), ((8, 64), t8)] = pre ++ ((i, sq), tk0) :: r) (hp : ∀ b ∈ pre, twoStop n b.1 = false) (h : twoStop n (i, sq) = true) :
    two n = some (i, bis (n - sq)) := by
  have e : SQL = pre.map (·.1) ++ (i, sq) :: r.map (·.1) := by
    have := congrArg (List.map (·.1)) hall
    simpa [SQL] using this
  unfold two
  rw [e]
  refine twoF_hit (fun b hb => ?_) h
  obtain ⟨c, hc, rfl⟩ := List.mem_map.mp hb
  exact hp c hc
theorem two_none {n : Int} {t0 t1 t2 t3 t4 t5 t6 t7 t8 : Tok} (h : ∀ b ∈ [((0, 0), t0), ((1, 1), t1), ((2, 4), t2), ((3, 9), t3), ((4, 16), t4), ((5, 25), t5), ((6, 36), t6), ((7, 49), t7), ((8, 64), t8)], twoStop n b.1 = false) : two n = none := by
  unfold two SQL
  refine twoF_none fun b hb => ?_
  simp only [List.forall_mem_cons, List.not_mem_nil, false_implies, implies_true, and_true] at h
  obtain ⟨h0, h1, h2, h3, h4, h5, h6, h7, h8⟩ := h
  simp only [List.mem_cons, List.not_mem_nil, or_false] at hb
  rcases hb with rfl | rfl | rfl | rfl | rfl | rfl | rfl | rfl | rfl <;> assumption
theorem off_two {I : Addr} {o1 o2 : Obj} {led : List (Addr × Obj)} (h : ∀ p ∈ led, p.1 < I) : ∀ p ∈ led, ∀ q ∈ [(I + 1, o1), (I, o2)], p.1 ≠ q.1 := by
  intro p hp q hq e
  have hlt := h p hp
  rcases List.mem_cons.mp hq with rfl | hq
  · exact ktu_ne 1 hlt e
  · rw [List.mem_singleton.mp hq] at e
    exact Nat.ne_of_lt hlt e
local macro_rules | `(tactic| walk_at "call ref") => `(tactic| (k_here; k_dflt (refine' use_bis ?k1 ?k2 ?k3 ?k4 ?k5 ?kK ?ko ?km ?kd ?ku ?_; (case k1 => k_asm); (case k2 => k_asm); (case k3 => k_asm); (case k4 => k_asm); (case k5 => k_asm); (case kK => first | exact rfl | assumption); (case km => k_mem); (case ko => first | assumption | exact ⟨_, _, _, _, _, _, _, _, _, _, rfl⟩); (case kd => ktr_room); (case ku => ktr_units); k_whole; (intro t9 h9 tk9 F9 N9); (try dsimp only); (try k_sweep); walk_say "BISECT")))
local macro_rules | `(tactic| walk_at "call ref") => `(tactic| (k_here; k_dflt (refine' ct_is ?k1 ?k2 ?k3 ?k4 ?k5 ?kK ?ko ?km ?kd ?ku ?_; (case k1 => k_asm); (case k2 => k_asm); (case k3 => k_asm); (case k4 => k_asm); (case k5 => k_asm); (case kK => first | exact rfl | assumption); (case km => k_mem); (case ko => first | assumption | exact ⟨_, _, _, _, _, _, _, _, _, _, rfl⟩); (case kd => ktr_room); (case ku => ktr_units); k_whole; (intro t9 h9 tk9 F9 N9); (try dsimp only); (try k_sweep); walk_say "IS")))
theorem ct_two {l : Addr} {o : Obj} {n : Int} {t : Tok}
    (B : Below A₀ base outer h₀) (F : Fr h₀ L s.heap m) (X : (Mine.hd.heap_39 w.params).In h₀) (N₀ : News h₀ L s.heap news) (T : Top p loose mean mg mb h₀) (hk : cs.kind = .function) (ho : SqObj o) (hm : (l, o) ∈ news)
    (hd : dp + 3 < recursionLimit) (hu : un + 24 < cLine)
    (hnone : two n = none → ∀ h' tk', Fr h₀ L h' m → News h₀ L h' news → Q .none { s with heap := h', toks := tk' })
    (hsome : ∀ i j, two n = some (i, j) → ∀ D t1 t2 h' tk', Fr h₀ L h' m → News h₀ L h' ((D, ({ cls := .type "tuple", data := .seq (List.toArray [Value.int i t1, Value.int j t2]) } : Obj)) :: news) → (∀ p ∈ news, p.1 < D) → Q (.ref D) { s with heap := h', toks := tk' }) :
    wpAny (model PySem.Challenge.rw_zz0006_01.row.prog w) (ktrTop dp un gd cn cs L a ccd cl outer) (call (.ref 79) [.ref l, .int n t]) Q E s := by
  have _hk : (Mine.hd.heap_39 w.params).In h₀ → PySem.Challenge.rw_zz0006_01.row.prog = PySem.Challenge.rw_zz0006_01.row.prog := by k_fill; exact fun _ => rfl
  clear _hk
  obtain ⟨t0, t1, t2, t3, t4, t5, t6, t7, t8, k, rfl⟩ := ho
  have N : News h₀ L s.heap ((l, { cls := .type "list", data := .seq (List.toArray [Value.int 0 t0, Value.int 1 t1, Value.int 4 t2, Value.int 9 t3, Value.int 16 t4, Value.int 25 t5, Value.int 36 t6, Value.int 49 t7, Value.int 64 t8]) k }) :: news) := by
    intro p hp
    rcases List.mem_cons.mp hp with rfl | hp
    · exact N₀ _ hm
    · exact N₀ _ hp
  clear hm N₀
  refine wpAny_call ?_
  k_dflt (refine' code_def ?k1 ?k2 ?k3 ?k4 ?k5 ?kA ?kF ?kK ?k6 ?k7 ?k8 ?k9 ?kB ?_ ?c2 ?c3 ?c4 ?c5)
  (case kA => exact rfl); (case kF => exact rfl); (case kK => assumption); (case k1 => k_asm); (case k2 => k_asm); (case k3 => k_asm); (case k4 => k_asm); (case k5 => k_asm); (case k6 => k_dflt k_is); (case k7 => k_dflt k_is); (case k8 => ktr_room); (case k9 => exact BindsTo.of_eq rfl); (case c5 => decide); (case kB => exact locs rfl); (case c2 => exact rfl); (case c3 => exact rfl); (case c4 => exact rfl); k_whole; intro g' L' h' FG' F' N' B' X' T'; (try dsimp only); (try k_lift B'); (try k_fold)
  walk1
  walk1
  with_unfolding_all refine' For_turns F' ?_
  k_steps
  rename Fr _ _ _ _ => F2
  rename News _ _ _ _ => N2
  with_unfolding_all refine ktu_enum (vs := [Value.int 0 t0, Value.int 1 t1, Value.int 4 t2, Value.int 9 t3, Value.int 16 t4, Value.int 25 t5, Value.int 36 t6, Value.int 49 t7, Value.int 64 t8]) (by rfl) F2 N2 (.head _) (by rfl) (by rfl) (by rfl) ?_
  intro I hI
  refine items_ind (fun a : (Int × Int) × Tok => Itm.pair (fun t => Value.int a.1.1 t) (Value.int a.1.2 a.2)) (M2 l n t) (fun a => twoStop n a.1) [((0, 0), t0), ((1, 1), t1), ((2, 4), t2), ((3, 9), t3), ((4, 16), t4), ((5, 25), t5), ((6, 36), t6), ((7, 49), t7), ((8, 64), t8)] ?_ ?_ (by rfl) (M2_eq (by rfl) (by rfl))
  · rintro pre ⟨⟨i, sq⟩, tk0⟩ r u hall hpre hcont
    clear F2 N2
    dsimp only
    with_unfolding_all refine ItemsRest.pair (fun T3 t3 h3 tk3 hT3 F3 => ?_)
    ktu_objs
    k_steps
    · rename (_ < _ ∧ _ < _ ∧ _ < _ ∧ AllLt _ _) => hl
      rename News _ _ _ _ => kN
      exact hsome i (bis (n - sq)) (two_hit hall hpre (twoStop_of (by assumption) (by assumption))) _ _ _ _ _ (by k_asm) (news_sub4 kN) (ktn_ltOf hl.2.2.2)
    · refine unr_end (by assumption) (by assumption) ?_ ?_ ?_ ⟨⟨.head _, trivial⟩, hcont (twoStop_no2 (by assumption)) _ (M2_eq (by rfl) (by rfl))⟩
      · exact fun p hp => by
          rcases List.mem_cons.mp hp with rfl | hp
          · exact .head _
          · rw [List.mem_singleton.mp hp]; exact .tail _ (.head _)
      · exact fun p hp => .tail _ (.tail _ hp)
      · exact off_two hI
    · refine unr_end (by assumption) (by assumption) ?_ ?_ ?_ ⟨⟨.head _, trivial⟩, hcont (twoStop_no1 (by assumption)) _ (M2_eq (by rfl) (by rfl))⟩
      · exact fun p hp => by
          rcases List.mem_cons.mp hp with rfl | hp
          · exact .head _
          · rw [List.mem_singleton.mp hp]; exact .tail _ (.head _)
      · exact fun p hp => .tail _ (.tail _ hp)
      · exact off_two hI
  · intro hall u
    clear F2 N2
    with_unfolding_all refine ItemsRest.zero (fun h' tk' F' N' => ?_)
    k_steps
    exact hnone (two_none hall) _ _ (by k_asm) (cb_drop (by assumption) fun p hp => .tail _ hp)
end
end Mine
namespace Mine
local macro_rules | `(tactic| walk_at "spare") => `(tactic| fail)
local macro_rules | `(tactic| walk_at "spare") => `(tactic| fail)
local macro_rules | `(tactic| walk_at "spare") => `(tactic| fail)
local macro_rules | `(tactic| walk_at "spare") => `(tactic| fail)
local macro_rules | `(tactic| walk_at "spare") => `(tactic| fail)
local macro_rules | `(tactic| walk_at "spare") => `(tactic| fail)
local macro_rules | `(tactic| walk_at "spare") => `(tactic| fail)
section
variable {w : World} {p : Program} {loose : List Str} {mean : ExcName → Option Value} {mg mb : Str → Option Value} {news : List (Addr × Obj)}
  {dp un : Nat} {gd : Option (List Code)} {cn : Str} {cs : Scope} {a : Addr} {ccd : Value} {cl : List (Str × Addr)} {outer : List Env} {A₀ : Around} {base h₀ : Heap} {L : Addr} {m : Str → Option Value} {s : Shared} {Q E : Value → Shared → Prop}
theorem divmod_mine {prog : Program} {A : Around} {x y : Int} {t u : Tok} (F : Fr h₀ L s.heap m) (N : News h₀ L s.heap news) (hy0 : 0 < y) (hy1 : y < 4096)
    (h : ∀ D t1 t2 h' tk', Fr h₀ L h' m → News h₀ L h' ((D, ({ cls := .type "tuple", data := .seq (List.toArray [Value.int (x.fdiv y) t1, Value.int (x.fmod y) t2]) } : Obj)) :: news) → (∀ p ∈ news, p.1 < D) → Q (.ref D) { s with heap := h', toks := tk' }) :
    wpAny (model prog w) A (call (.builtin "divmod") [.int x t, .int y u]) Q E s :=
  divmod_N F N (by omega) (fun h' F' N' => h _ _ _ _ _ F' N' fun p hp => Heap.lt_size (N p hp).1) (Or.inl (PyProof.noPylong_small (by omega)))
local macro_rules | `(tactic| walk_at "call builtin:divmod") => `(tactic| (k_here; k_dflt (refine' divmod_mine ?k1 ?k2 ?k3 ?k4 ?_; (case k1 => k_asm); (case k2 => k_asm); (case k3 => omega); (case k4 => omega); k_whole; (intro D' t1' t2' h' tk' F' N' l1); (try k_lt l1); (try k_sweep))))
theorem ct_div2 {x y n : Int} {tx ty tn : Tok}
    (B : Below A₀ base outer h₀) (F : Fr h₀ L s.heap m) (X : (Mine.hd.heap_39 w.params).In h₀) (N : News h₀ L s.heap news) (T : Top p loose mean mg mb h₀) (hk : cs.kind = .function) (hx : ((Builtin.Int.intBits x : Nat) : Int) - n ≤ 4000) (hy : 0 < y) (hy1 : y < 4096)
    (hd : dp + 1 < recursionLimit) (hu : un + 8 < cLine)
    (hret : ∀ D t1 t2 h' tk', Fr h₀ L h' m → News h₀ L h' ((D, ({ cls := .type "tuple", data := .seq (List.toArray [Value.int (x.fdiv y) t1, Value.int (x.fmod y) t2]) } : Obj)) :: news) → (∀ p ∈ news, p.1 < D) → Q (.ref D) { s with heap := h', toks := tk' }) :
    wpAny (model PySem.Challenge.rw_zz0006_01.row.prog w) (ktrTop dp un gd cn cs L a ccd cl outer) (call (.ref 21) [.int x tx, .int y ty, .int n tn]) Q E s := by
  have _hk : (Mine.hd.heap_39 w.params).In h₀ → PySem.Challenge.rw_zz0006_01.row.prog = PySem.Challenge.rw_zz0006_01.row.prog := by k_fill; exact fun _ => rfl
  clear _hk
  refine wpAny_call ?_
  k_dflt (refine' code_def ?k1 ?k2 ?k3 ?k4 ?k5 ?kA ?kF ?kK ?k6 ?k7 ?k8 ?k9 ?kB ?_ ?c2 ?c3 ?c4 ?c5)
  (case kA => exact rfl); (case kF => exact rfl); (case kK => assumption); (case k1 => k_asm); (case k2 => k_asm); (case k3 => k_asm); (case k4 => k_asm); (case k5 => k_asm); (case k6 => k_dflt k_is); (case k7 => k_dflt k_is); (case k8 => ktr_room); (case k9 => exact BindsTo.of_eq rfl); (case c5 => decide); (case kB => exact locs rfl); (case c2 => exact rfl); (case c3 => exact rfl); (case c4 => exact rfl); k_whole; intro g' L' h' FG' F' N' B' X' T'; (try dsimp only); (try k_lift B'); (try k_fold)
  k_steps
  rename (∀ p, p ∈ _ → _ < _) => hl
  exact hret _ _ _ _ _ (by k_asm) (by k_asm) hl
end
end Mine
namespace Mine
def bl (x : Int) : Int := ((Builtin.Int.intBits x : Nat) : Int)
def midOf (l r : Int) : Int := (l + r).fdiv (2 ^ Int.toNat 1)
def fill (n : Int) : Nat → Int → Int → Int → List Int → List Int
  | 0, _, _, _, ns => ns
  | k + 1, x, l, r, ns => if l + 1 = r then ns.set l.toNat x else
      let sh := (midOf l r - l) * n
      let up := x.fdiv (2 ^ sh.toNat)
      fill n k up (midOf l r) r (fill n k (Builtin.bitXor x (up * 2 ^ sh.toNat)) l (midOf l r) ns)
def okFill (n : Int) : Nat → Int → Int → Int → Bool
  | 0, _, _, _ => false
  | k + 1, x, l, r => decide (l + 1 = r) ||
      (let mid := midOf l r
       let sh := (mid - l) * n
       let up := x.fdiv (2 ^ sh.toNat)
       decide (l + 1 ≠ r ∧ l < mid ∧ mid < r ∧ 0 ≤ sh ∧ sh ≤ 100 ∧ 0 ≤ up ∧ up < 4096) && okFill n k (Builtin.bitXor x (up * 2 ^ sh.toNat)) l mid && okFill n k up mid r)
def joinF (n : Int) (ds : List Int) : Nat → Int → Int → Int
  | 0, _, _ => 0
  | k + 1, l, r => if l + 1 = r then ds.getD l.toNat 0 else joinF n ds k (midOf l r) r * 2 ^ ((midOf l r - l) * n).toNat + joinF n ds k l (midOf l r)
def okJoin (n : Int) (ds : List Int) : Nat → Int → Int → Bool
  | 0, _, _ => false
  | k + 1, l, r => decide (l + 1 = r) ||
      (let mid := midOf l r
       let sh := (mid - l) * n
       let up := joinF n ds k mid r
       decide (l + 1 ≠ r ∧ l < mid ∧ mid < r ∧ 0 ≤ sh ∧ sh ≤ 100 ∧ 0 ≤ up ∧ up < 4096) && okJoin n ds k l mid && okJoin n ds k mid r)
def cntF (x n : Int) : Int := (bl x + n - 1).fdiv n
def zerosF (x n : Int) : List Int := (List.replicate (cntF x n).toNat [(0 : Int)]).flatten
def i2dF (x n : Int) : List Int := if x = 0 then zerosF x n else fill n 3 x 0 (cntF x n) (zerosF x n)
def okI2d (x n : Int) : Bool := decide (0 < n ∧ n < 13 ∧ 0 ≤ cntF x n ∧ cntF x n ≤ 8) && (decide (x = 0) || okFill n 3 x 0 (cntF x n))
def d2iF (ds : List Int) (n : Int) : Int := if ds = [] then 0 else joinF n ds 3 0 ds.length
def okD2i (ds : List Int) (n : Int) : Bool := decide (0 < n ∧ n < 13 ∧ ds.length ≤ 8) && (decide (ds = []) || okJoin n ds 3 0 ds.length)
def loopF (b n : Int) : List Int → Int → List Int → List Int × Int
  | [], r, qs => (qs, r)
  | d :: rest, r, qs => loopF b n rest ((r * 2 ^ n.toNat + d).fmod b) (qs ++ [(r * 2 ^ n.toNat + d).fdiv b])
def okLoop (b n : Int) : List Int → Int → Bool
  | [], _ => true
  | d :: rest, r => decide (0 ≤ r ∧ r < 4096 ∧ bl (r * 2 ^ n.toNat + d) - n ≤ 4000) && okLoop b n rest ((r * 2 ^ n.toNat + d).fmod b)
def posF (a b : Int) : Int × Int :=
  let n := bl b
  let p := loopF b n (i2dF a n).reverse 0 []
  (d2iF p.1.reverse n, p.2)
def okPos (a b : Int) : Bool :=
  let n := bl b
  let p := loopF b n (i2dF a n).reverse 0 []
  okI2d a n && okLoop b n (i2dF a n).reverse 0 && okD2i p.1.reverse n
end Mine
namespace Mine
open PySem.Calls
/-- the table of a def that makes a def: empty, or with the made code in it -/
def TabSt (ln col : Nat) (q : Str) (ps : Array Value) (cs : List (Addr × Obj)) : Prop :=
  (ps = #[] ∧ cs = []) ∨ ∃ (c : Addr) (oc : Obj) (vs : Array Value) (t : Tok), ps = #[rawInt ln, rawInt col, .ref c] ∧ cs = [(c, oc)] ∧ oc.data = .fields vs ∧ vs[1]? = some (.str q t)
section
variable {M : Model} {A : Around} {E : Value → Shared → Prop} {s : Shared} {h₀ : Heap} {L a c P : Addr} {m mg mb : Str → Option Value} {cn : Str} {cs : Scope} {ccd : Value} {cl : List (Str × Addr)} {news : List (Addr × Obj)}
  {p : Program} {loose : List Str} {mean : ExcName → Option Value} {name qual : Str} {params : Arguments} {body : List Stmt} {scope : Scope} {pos : Pos} {firstLine : Nat} {clos : List (Str × Addr)}
theorem updF_mid {P : Addr} {o : Obj} : ∀ (own rest : List (Addr × Obj)), (∀ q ∈ own, q.1 ≠ P) → (∀ q ∈ rest, q.1 ≠ P) → UpdF P o (own ++ (P, o) :: rest) (fun o' => own ++ (P, o') :: rest)
  | [], rest, _, h2 => UpdF.head h2
  | q :: own, rest, h1, h2 => UpdF.tail (h1 q (List.mem_cons_self ..)) (updF_mid own rest (fun r hr => h1 r (List.mem_cons_of_mem _ hr)) h2)
/-- none of the list lies at d -/
def AllNe (d : Nat) : List (Addr × Obj) → Prop
  | [] => True
  | p :: r => @Ne Nat p.1 d ∧ AllNe d r
theorem allNe_of {d : Addr} : ∀ {l : List (Addr × Obj)}, (∀ p ∈ l, p.1 ≠ d) → AllNe d l
  | [], _ => trivial
  | p :: _, h => ⟨h p (.head _), allNe_of fun q hq => h q (.tail _ hq)⟩
theorem nestAny {Q : Value → Shared → Prop} {ps : Array Value} {cz own : List (Addr × Obj)} (F : Fr h₀ L s.heap m) (N : News h₀ L s.heap (own ++ (P, tabObj ps) :: (cz ++ news))) (T : Top p loose mean mg mb h₀) (C : CodeHd h₀ c P) (hcd : ccd = .ref c)
    (hst : TabSt pos.line pos.col qual ps cz) (o1 : ∀ q ∈ own, q.1 ≠ P) (o2 : ∀ q ∈ cz, q.1 ≠ P) (o3 : ∀ q ∈ news, q.1 ≠ P) (o4 : ∀ q ∈ own, ∀ r ∈ cz, q.1 ≠ r.1) (o5 : ∀ q ∈ news, ∀ r ∈ cz, q.1 ≠ r.1)
    (hcl : closureFor scope (envX cn cs L a ccd cl) = pure clos)
    (h : ∀ f c' oc vs t ctv doc h' tk, Fr h₀ L h' m →
      News h₀ L h' ((f, fnMade name qual params body scope clos doc ((mg "__name__").getD .none) c' ctv) :: (c', oc) :: (own ++ (P, tabObj #[rawInt pos.line, rawInt pos.col, .ref c']) :: news)) →
      oc.data = .fields vs → vs[1]? = some (.str qual t) → AllNe c' own → (∀ q ∈ news, q.1 ≠ c') → @Ne Nat c' P → AllLt f own → (∀ q ∈ news, q.1 < f) → @LT.lt Nat _ P f → @LT.lt Nat _ c' f → Q (.ref f) { s with heap := h', toks := tk }) :
    wpAny M A (makeFunction name qual params (.stmts body) scope (envX cn cs L a ccd cl) [] [] [] pos firstLine) Q E s := by
  have inO : ∀ q ∈ own, q ∈ own ++ (P, tabObj ps) :: (cz ++ news) := fun q hq => List.mem_append_left _ hq
  have inP : (P, tabObj ps) ∈ own ++ (P, tabObj ps) :: (cz ++ news) := List.mem_append_right _ (.head _)
  have inN : ∀ q ∈ news, q ∈ own ++ (P, tabObj ps) :: (cz ++ news) := fun q hq => List.mem_append_right _ (.tail _ (List.mem_append_right _ hq))
  have inC : ∀ q ∈ cz, q ∈ own ++ (P, tabObj ps) :: (cz ++ news) := fun q hq => List.mem_append_right _ (.tail _ (List.mem_append_left _ hq))
  rcases hst with ⟨rfl, rfl⟩ | ⟨c₁, oc, vs, t, rfl, rfl, hd, hv⟩
  · refine nest_K (g := fun o' => own ++ (P, o') :: ([] ++ news)) F N T C hcd (updF_mid own _ o1 (by simpa using o3)) trivial rfl hcl ?_
    intro f c' oc vs t ctv doc h' tk F' N' hd hv l1 l2
    refine h f c' oc vs t ctv doc h' tk F' (fun q hq => N' q (by simpa using hq)) hd hv (allNe_of fun q hq => Nat.ne_of_lt (l1 q (inO q hq))) (fun q hq => Nat.ne_of_lt (l1 q (inN q hq))) (Nat.ne_of_gt (l1 _ inP))
      (allLt_of fun q hq => Nat.lt_trans (l1 q (inO q hq)) l2) (fun q hq => Nat.lt_trans (l1 q (inN q hq)) l2) (Nat.lt_trans (l1 _ inP) l2) l2
  · refine nestHit_K (c' := c₁) F N T C hcd inP (by simp [TriplesOk, rawInt]) (by simp [codeAmong, rawInt]) hcl ?_
    intro f ctv doc h' tk F' N' l1
    have e : ∀ q, q ∈ (c₁, oc) :: (own ++ (P, tabObj #[rawInt pos.line, rawInt pos.col, .ref c₁]) :: news) → q ∈ own ++ (P, tabObj #[rawInt pos.line, rawInt pos.col, .ref c₁]) :: ([(c₁, oc)] ++ news) := by
      intro q hq
      simp only [List.mem_cons, List.mem_append, List.mem_singleton] at hq ⊢
      rcases hq with h | h | h | h
      · exact .inr (.inr (.inl (.inl h)))
      · exact .inl h
      · exact .inr (.inl h)
      · exact .inr (.inr (.inr h))
    refine h f c₁ oc vs t ctv doc h' tk F' (fun q hq => N' q ?_) hd hv (allNe_of fun q hq => o4 q hq _ (.head _)) (fun q hq => o5 q hq _ (.head _)) (o2 _ (.head _))
      (allLt_of fun q hq => l1 q (inO q hq)) (fun q hq => l1 q (inN q hq)) (l1 _ inP) (l1 _ (inC _ (.head _)))
    rcases List.mem_cons.mp hq with rfl | hq
    · exact .head _
    · exact .tail _ (e q hq)
end
end Mine
namespace Mine
open PySem.Calls
local macro_rules | `(tactic| walk_at "spare") => `(tactic| fail)
local macro_rules | `(tactic| walk_at "spare") => `(tactic| fail)
local macro_rules | `(tactic| walk_at "spare") => `(tactic| fail)
local macro_rules | `(tactic| walk_at "spare") => `(tactic| fail)
local macro_rules | `(tactic| walk_at "spare") => `(tactic| fail)
local macro_rules | `(tactic| walk_at "spare") => `(tactic| fail)
local macro_rules | `(tactic| walk_at "spare") => `(tactic| fail)
local macro_rules | `(tactic| walk_at "spare") => `(tactic| fail)
local macro_rules | `(tactic| walk_at "spare") => `(tactic| fail)
section
variable {w : World} {p : Program} {loose : List Str} {mean : ExcName → Option Value} {mg mb : Str → Option Value} {news cz : List (Addr × Obj)}
  {dp un : Nat} {gd : Option (List Code)} {cn : Str} {cs : Scope} {a : Addr} {ccd : Value} {cl : List (Str × Addr)} {outer : List Env} {A₀ : Around} {base h₀ : Heap} {L : Addr} {m : Str → Option Value} {s : Shared} {Q E : Value → Shared → Prop}
def Under (news : List (Addr × Obj)) (b : Addr) : Prop := ∀ p ∈ news, p.1 < b
theorem under_ne {b d : Addr} (h : Under news b) (hb : @LE.le Nat _ b d) : ∀ p ∈ news, p.1 ≠ d := fun p hp e => absurd (h p hp) (Nat.not_lt.mpr (e ▸ hb))
theorem rshift_is {prog : Program} {A : Around} {x n q : Int} {t u : Tok} (hn : 0 ≤ n) (hq : x.fdiv (2 ^ n.toNat) = q) (h : ∀ t tk', Q (.int q t) { s with toks := tk' }) : wpAny (model prog w) A (binaryOp .RShift (.int x t) (.int n u)) Q E s := rshift_int hn (hq ▸ h _ _)
theorem lshift_is {prog : Program} {A : Around} {x n q : Int} {t u : Tok} (hn : 0 ≤ n) (hn2 : n ≤ 1000000) (ha : x.natAbs < 2 ^ 64) (hq : x * 2 ^ n.toNat = q) (h : ∀ t tk', Q (.int q t) { s with toks := tk' }) : wpAny (model prog w) A (binaryOp .LShift (.int x t) (.int n u)) Q E s := lshift_int_small hn hn2 ha (hq ▸ h _ _)
theorem xor_is {prog : Program} {A : Around} {x n q : Int} {t u : Tok} (hq : Builtin.bitXor x n = q) (h : ∀ t tk', Q (.int q t) { s with toks := tk' }) : wpAny (model prog w) A (binaryOp .BitXor (.int x t) (.int n u)) Q E s := xor_int (hq ▸ h _ _)
theorem fdiv_is {prog : Program} {A : Around} {x y q : Int} {t u : Tok} (hy0 : 0 < y) (hy1 : y < 4096) (hq : x.fdiv y = q) (h : ∀ t tk', Q (.int q t) { s with toks := tk' }) : wpAny (model prog w) A (binaryOp .FloorDiv (.int x t) (.int y u)) Q E s :=
  floordiv_int (by omega) (hq ▸ h _ _) (Or.inl (PyProof.noPylong_small (by omega)))
theorem mul_is {prog : Program} {A : Around} {x y q : Int} {t u : Tok} (hx0 : -4096 ≤ x) (hx1 : x < 4096) (hq : x * y = q) (h : ∀ t tk', Q (.int q t) { s with toks := tk' }) : wpAny (model prog w) A (binaryOp .Mult (.int x t) (.int y u)) Q E s :=
  mul_int (hq ▸ h _ _) (IntMulOk.of_left (intBits_le_64 (by omega) (by omega)))
theorem eqi_yes {prog : Program} {A : Around} {x y : Int} {t u : Tok} (h : x = y) (hq : Q (.bool true) s) : wpAny (model prog w) A (compareOp .Eq (.int x t) (.int y u)) Q E s := eq_int (by rw [beq_iff_eq.mpr h]; exact hq)
theorem eqi_no {prog : Program} {A : Around} {x y : Int} {t u : Tok} (h : ¬ x = y) (hq : Q (.bool false) s) : wpAny (model prog w) A (compareOp .Eq (.int x t) (.int y u)) Q E s := eq_int (by rw [beq_eq_false_iff_ne.mpr h]; exact hq)
/-- the qualified name of a def made in a def -/
def qIn (f : Str) : Str := f ++ ".<locals>." ++ "inner"
local macro_rules | `(tactic| walk_at "binaryOp Mult int int") => `(tactic| (k_here; k_dflt (refine' mul_is ?k1 ?k2 ?k3 ?_; (case k3 => with_reducible assumption); (case k1 => omega); (case k2 => omega); k_whole); (intro t9 tk9); (try dsimp only)))
local macro_rules | `(tactic| k_all) => `(tactic| first | assumption | exact under_ne (by assumption) (by omega))
local macro_rules | `(tactic| walk_at "binaryOp FloorDiv int int") => `(tactic| (k_here; k_dflt (refine' fdiv_is ?k1 ?k2 ?k3 ?_; (case k3 => assumption); (case k1 => omega); (case k2 => omega); k_whole); (intro t9 tk9); (try dsimp only)))
local macro_rules | `(tactic| walk_at "binaryOp RShift int int") => `(tactic| (k_here; k_dflt (refine' rshift_is ?k1 ?k2 ?_; (case k2 => with_reducible assumption); (case k1 => omega); k_whole); (intro t9 tk9); (try dsimp only)))
local macro_rules | `(tactic| walk_at "binaryOp LShift int int") => `(tactic| (k_here; k_dflt (refine' lshift_is ?k1 ?k2 ?k3 ?k4 ?_; (case k4 => with_reducible assumption); (case k1 => omega); (case k2 => omega); (case k3 => omega); k_whole); (intro t9 tk9); (try dsimp only)))
local macro_rules | `(tactic| walk_at "binaryOp BitXor int int") => `(tactic| (k_here; k_dflt (refine' xor_is ?k1 ?_; (case k1 => with_reducible assumption); k_whole); (intro t9 tk9); (try dsimp only)))
theorem addr_of {h₀ h : Heap} {L a : Addr} {o : Obj} {rest : List (Addr × Obj)} (_N : News h₀ L h ((a, o) :: rest)) : ∃ D, D = a := ⟨a, rfl⟩
theorem obj_of {h₀ h : Heap} {L f : Addr} {o : Obj} {rest : List (Addr × Obj)} (N : News h₀ L h ((f, o) :: rest)) : ∃ fo, fo = o ∧ News h₀ L h ((f, fo) :: rest) := ⟨o, rfl, N⟩
theorem led_of {h₀ h : Heap} {L : Addr} {q : Addr × Obj} {rest : List (Addr × Obj)} (N : News h₀ L h (q :: rest)) : ∃ fx, fx = rest ∧ News h₀ L h (q :: fx) := ⟨rest, rfl, N⟩
theorem swap3 {h₀ h : Heap} {L : Addr} {x y z : Addr × Obj} {rest : List (Addr × Obj)} (N : News h₀ L h (x :: y :: z :: rest)) : News h₀ L h (z :: x :: y :: rest) := fun q hq => N q (by
  rcases List.mem_cons.mp hq with rfl | hq
  · simp
  rcases List.mem_cons.mp hq with rfl | hq
  · simp
  rcases List.mem_cons.mp hq with rfl | hq
  · simp
  · simp [hq])
theorem fill_len (n : Int) : ∀ (k : Nat) (x l r : Int) (ns : List Int), (fill n k x l r ns).length = ns.length
  | 0, _, _, _, _ => rfl
  | k + 1, x, l, r, ns => by
    unfold fill
    split
    · simp
    · simp only [fill_len n k]
/-- what a call of the inner def does to the digits -/
def InnC (w : World) (p : Program) (loose : List Str) (mean : ExcName → Option Value) (mg mb : Str → Option Value) (base : Heap) (f D : Addr) (fx : List (Addr × Obj)) (n : Int) (k : Nat) : Prop :=
  ∀ (x l r : Int) (tx tl tr : Tok) (vs : List Value) (ns : List Int) (dp un : Nat) (gd : Option (List Code)) (cn : Str) (cs : Scope) (a : Addr) (ccd : Value) (cl : List (Str × Addr)) (outer : List Env) (A₀ : Around) (h₀ : Heap) (L : Addr) (m : Str → Option Value) (s : Shared) (Q E : Value → Shared → Prop),
    Below A₀ base outer h₀ → Fr h₀ L s.heap m → (Mine.hd.heap_39 w.params).In h₀ → News h₀ L s.heap ((D, W.listOf vs.toArray 0) :: fx) → Top p loose mean mg mb h₀ → cs.kind = .function →
    okFill n k x l r = true → 0 ≤ l → r ≤ ns.length → (ns.length : Int) ≤ 16 → IntsAre vs ns → dp + k < recursionLimit → un + 8 * k < cLine →
    (∀ vs' h' tk', Fr h₀ L h' m → News h₀ L h' ((D, W.listOf vs'.toArray 0) :: fx) → IntsAre vs' (fill n k x l r ns) → Q .none { s with heap := h', toks := tk' }) →
    wpAny (model PySem.Challenge.rw_zz0006_01.row.prog w) (ktrTop dp un gd cn cs L a ccd cl outer) (call (.ref f) [.int x tx, .int l tl, .int r tr]) Q E s
theorem inn_use {f D : Addr} {fx : List (Addr × Obj)} {n : Int} {k : Nat} {x l r : Int} {tx tl tr : Tok} {vs : List Value} {ns : List Int} (I : InnC w p loose mean mg mb base f D fx n k)
    (B : Below A₀ base outer h₀) (F : Fr h₀ L s.heap m) (X : (Mine.hd.heap_39 w.params).In h₀) (N : News h₀ L s.heap ((D, W.listOf vs.toArray 0) :: fx)) (T : Top p loose mean mg mb h₀) (hk : cs.kind = .function)
    (hok : okFill n k x l r = true) (h0 : 0 ≤ l) (h1 : r ≤ ns.length) (h2 : (ns.length : Int) ≤ 16) (hi : IntsAre vs ns) (hd : dp + k < recursionLimit) (hu : un + 8 * k < cLine)
    (hret : ∀ vs' h' tk', Fr h₀ L h' m → News h₀ L h' ((D, W.listOf vs'.toArray 0) :: fx) → IntsAre vs' (fill n k x l r ns) → Q .none { s with heap := h', toks := tk' }) :
    wpAny (model PySem.Challenge.rw_zz0006_01.row.prog w) (ktrTop dp un gd cn cs L a ccd cl outer) (call (.ref f) [.int x tx, .int l tl, .int r tr]) Q E s :=
  I x l r tx tl tr vs ns dp un gd cn cs a ccd cl outer A₀ h₀ L m s Q E B F X N T hk hok h0 h1 h2 hi hd hu hret
theorem okFill_step {n x l r : Int} {k : Nat} (h : okFill n (k + 1) x l r = true) (hlr : ¬ l + 1 = r) : ∃ mid sh up ub lo : Int, midOf l r = mid ∧ (mid - l) * n = sh ∧ x.fdiv (2 ^ sh.toNat) = up ∧ up * 2 ^ sh.toNat = ub ∧ Builtin.bitXor x ub = lo ∧
    l < mid ∧ mid < r ∧ 0 ≤ sh ∧ sh ≤ 100 ∧ 0 ≤ up ∧ up < 4096 ∧ okFill n k lo l mid = true ∧ okFill n k up mid r = true ∧ ∀ ns, fill n (k + 1) x l r ns = fill n k up mid r (fill n k lo l mid ns) := by
  unfold okFill at h
  rw [decide_eq_false hlr, Bool.false_or] at h
  simp only [Bool.and_eq_true, decide_eq_true_eq] at h
  obtain ⟨⟨⟨_, h1, h2, h3, h4, h5, h6⟩, h7⟩, h8⟩ := h
  refine ⟨_, _, _, _, _, rfl, rfl, rfl, rfl, rfl, h1, h2, h3, h4, h5, h6, h7, h8, fun ns => ?_⟩
  conv => lhs; unfold fill
  rw [if_neg hlr]
theorem fill_base {n x l r : Int} {k : Nat} {ns : List Int} (hlr : l + 1 = r) : fill n (k + 1) x l r ns = ns.set l.toNat x := by
  unfold fill
  rw [if_pos hlr]
local macro_rules | `(tactic| walk_at "compareOp Eq int int") => `(tactic| (k_here; k_dflt (first | (refine' eqi_yes ?k1 ?_; (case k1 => with_reducible assumption)) | (refine' eqi_no ?k1 ?_; (case k1 => with_reducible assumption)))))
local macro_rules | `(tactic| walk_at "call ref") => `(tactic| (k_here; k_dflt (refine' inn_use ?I ?k1 ?k2 ?k3 ?k4 ?k5 ?kK ?ko ?l0 ?l1 ?l2 ?li ?kd ?ku ?_; (case I => assumption); (case k1 => k_asm); (case k2 => k_asm); (case k3 => k_asm); (case k4 => k_asm); (case k5 => k_asm); (case kK => first | exact rfl | assumption); (case ko => assumption); (case l0 => omega); (case li => assumption); (case l1 => (try simp only [fill_len]); omega); (case l2 => (try simp only [fill_len]); omega); (case kd => ktr_room); (case ku => ktr_units); k_whole; (intro vs9 h9 tk9 F9 N9 i9); (try dsimp only); (try k_sweep); walk_say "INNER")))
theorem mem_p1 {d f c l x1 x2 x3 t q : Addr × Obj} {news : List (Addr × Obj)} (h : q ∈ d :: t :: c :: news) : q ∈ d :: f :: c :: l :: x1 :: x2 :: x3 :: t :: news := by
  simp only [List.mem_cons] at h ⊢
  rcases h with h | h | h | h <;> simp [h]
theorem mem_p2 {d f c l x1 x2 x3 t q : Addr × Obj} {news : List (Addr × Obj)} (h : q ∈ d :: t :: c :: news) : q ∈ f :: c :: d :: l :: x1 :: x2 :: x3 :: t :: news := by
  simp only [List.mem_cons] at h ⊢
  rcases h with h | h | h | h <;> simp [h]
theorem ct_i2d {x n : Int} {tx tn : Tok} {ps : Array Value} (C : CodeHd base 34 30)
    (B : Below A₀ base outer h₀) (F : Fr h₀ L s.heap m) (X : (Mine.hd.heap_39 w.params).In h₀) (N : News h₀ L s.heap ((30, tabObj ps) :: (cz ++ news))) (T : Top p loose mean mg mb h₀) (hk : cs.kind = .function)
    (hst : TabSt 32 4 (qIn "_int2digits") ps cz) (off : ∀ q ∈ cz ++ news, q.1 ≠ 30) (offc : ∀ q ∈ news, ∀ r ∈ cz, q.1 ≠ r.1) (hok : okI2d x n = true)
    (hd : dp + 9 < recursionLimit) (hu : un + 80 < cLine)
    (hret : ∀ D c oc vs fs t0 h' tk', Fr h₀ L h' m → News h₀ L h' ((D, W.listOf fs.toArray 0) :: (30, tabObj #[rawInt 32, rawInt 4, .ref c]) :: (c, oc) :: news) → IntsAre fs (i2dF x n) → oc.data = .fields vs → vs[1]? = some (.str (qIn "_int2digits") t0) →
      Under news D → @LT.lt Nat _ 30 D → (∀ p ∈ news, p.1 ≠ c) → @Ne Nat c D → @Ne Nat c 30 → Q (.ref D) { s with heap := h', toks := tk' }) :
    wpAny (model PySem.Challenge.rw_zz0006_01.row.prog w) (ktrTop dp un gd cn cs L a ccd cl outer) (call (.ref 35) [.int x tx, .int n tn]) Q E s := by
  have _hk : (Mine.hd.heap_39 w.params).In h₀ → PySem.Challenge.rw_zz0006_01.row.prog = PySem.Challenge.rw_zz0006_01.row.prog := by k_fill; exact fun _ => rfl
  clear _hk
  obtain ⟨cnt, hcnt⟩ : ∃ c, cntF x n = c := ⟨_, rfl⟩
  have hcnt' : (((Builtin.Int.intBits x : Nat) : Int) + n - 1).fdiv n = cnt := hcnt
  have hb : 0 < n ∧ n < 13 ∧ 0 ≤ cnt ∧ cnt ≤ 8 := by
    have := (Bool.and_eq_true_iff.mp hok).1
    rw [hcnt] at this
    exact of_decide_eq_true this
  obtain ⟨hn0, hn1, hc0, hc1⟩ := hb
  refine wpAny_call ?_
  k_dflt (refine' code_defC ?k1 ?k2 ?k3 ?k4 ?k5 ?kA ?kF ?kK ?k6 ?k7 ?k8 ?k9 ?kB ?kD ?_ ?c2 ?c3 ?c4)
  (case kA => exact rfl); (case kF => exact rfl); (case kK => assumption); (case k1 => k_asm); (case k2 => k_asm); (case k3 => k_asm); (case k4 => k_asm); (case k5 => k_asm); (case k6 => k_dflt k_is); (case k7 => k_dflt k_is); (case k8 => ktr_room); (case k9 => exact BindsTo.of_eq rfl); (case kB => exact rfl); (case kD => decide +kernel); (case c2 => exact rfl); (case c3 => exact rfl); (case c4 => exact rfl); k_whole; intro g' L' h' tk' cells' FG' F' N' Y' B' X' T' l1
  have hT : Under (cz ++ news) L' := fun p hp => l1 p (.tail _ hp)
  (try k_lt l1); k_cells Y'; (try simp only [List.cons_append, List.nil_append] at N'); (try dsimp only); (try k_lift B'); (try k_fold)
  k_steps
  k_dflt (refine nestDef_K rfl rfl rfl ?_)
  rename News _ _ _ _ => N2
  rename Fr _ _ _ _ => F2
  rename (_ ∧ _ ∧ _ ∧ _ ∧ _ ∧ AllLt _ _) => lD
  obtain ⟨D, rfl⟩ := addr_of N2
  k_dflt (refine nestAny (own := [_, _, _, _, _]) F2 N2 T' (CodeHd.keeps C (Below.stays B')) rfl hst ?_ (fun q hq => off q (List.mem_append_left _ hq)) (fun q hq => off q (List.mem_append_right _ hq)) ?_ offc rfl ?_)
  · simp only [List.forall_mem_cons, List.not_mem_nil, false_implies, implies_true, and_true]
    refine ⟨neN ?_, neN ?_, neN ?_, neN ?_, neN ?_⟩ <;> omega
  · intro q hq r hr
    have h5 := ltN (hT r (List.mem_append_left _ hr))
    revert q
    simp only [List.forall_mem_cons, List.not_mem_nil, false_implies, implies_true, and_true]
    refine ⟨neN ?_, neN ?_, neN ?_, neN ?_, neN ?_⟩ <;> omega
  clear F2 N2
  intro f c oc vs t ctv doc h2 tk2 F2 N2 hoc hvs a1 a2 a3 a4 a5 a6 a7
  simp only [AllNe, AllLt, and_true] at a1 a4
  simp only [List.cons_append, List.nil_append] at N2
  have hTn : Under news L' := fun p hp => hT p (List.mem_append_right _ hp)
  clear hT hst off offc N F
  k_steps
  · rename News _ _ _ _ => N4
    rename Fr _ _ _ _ => F4
    obtain ⟨fx, hfx, N5⟩ := led_of (swap3 N4)
    have inn : ∀ k, InnC w p loose mean mg mb base f D fx n k := by
      clear F4 N5 N4 hret hok
      subst hfx
      intro k
      induction k with
      | zero => intro x l r tx tl tr vs ns dp un gd cn cs a ccd cl outer A₀ h₀ L m s Q E _ _ _ _ _ _ h; cases h
      | succ k IH =>
        clear B' FG' X' T' B X T
        intro x l r tx tl tr vs ns dp un gd cn cs a ccd cl outer A₀ h₀ L m s Q E B F X N T hk hok h0 h1 h2 hi hd hu hret
        refine wpAny_call ?_
        k_dflt (refine' code_nest ?k1 ?k2 ?k3 ?k4 ?k5 ?kA ?kF ?kK ?k6 ?k7 ?k8 ?k9 ?kB ?_ ?c2 ?c3 ?c4 ?c5)
        (case kA => exact rfl); (case kF => exact rfl); (case kK => assumption); (case k1 => k_asm); (case k2 => k_asm); (case k3 => k_asm); (case k4 => k_asm); (case k5 => k_asm); (case k6 => k_mem); (case k7 => exact codeRec_news (by k_asm) (by k_mem) (by assumption) (by assumption)); (case k8 => ktr_room); (case k9 => exact BindsTo.of_eq rfl); (case c5 => decide); (case kB => exact locs rfl); (case c2 => exact rfl); (case c3 => exact rfl); (case c4 => exact rfl); k_whole; intro g' L' h' FG' F' N' B' X' T'; (try dsimp only); (try k_lift B'); (try k_fold)
        by_cases hlr : l + 1 = r
        · k_steps
          exact hret _ _ _ (by k_asm) (by k_asm) (by rw [fill_base hlr]; assumption)
        · obtain ⟨mid, sh, up, ub, lo, e1, e2, e3, e4, e5, g1, g2, g3, g4, g5, g6, g7, g8, hf⟩ := okFill_step hok hlr
          have e1' : (l + r).fdiv (2 ^ Int.toNat 1) = mid := e1
          k_steps
          exact hret _ _ _ (by k_asm) (by k_asm) (by rw [hf]; assumption)
    rename (0 ≤ cnt → _) => e3
    rename (List.length _ = _) => e1
    have e4 := e3 hc0
    simp only [Nat.zero_add, Int.natCast_one, Int.one_mul] at e4
    have hokf : okFill n 3 x 0 cnt = true := by
      have := (Bool.and_eq_true_iff.mp hok).2
      rw [decide_eq_false (by assumption), Bool.false_or, hcnt] at this
      exact this
    rw [e4]
    k_dflt (refine inn_use (inn 3) B' F4 X' N5 T' rfl hokf (by omega) (by rw [e1]; omega) (by rw [e1]; omega) (by assumption) (by ktr_room) (by ktr_units) ?_)
    intro vs9 h9 tk9 F9 N9 i9
    clear F4 N4 N5 inn
    subst hfx
    k_steps
    rename News h₀ L _ _ => kN
    exact hret _ _ _ _ _ _ _ _ (by k_asm) (fun q hq => kN q (mem_p1 hq)) (by unfold i2dF; rw [if_neg (by assumption)]; unfold zerosF; rw [hcnt]; exact i9) hoc hvs (fun q hq => ktn_ltOf lD.2.2.2.2.2 q (List.mem_append_right _ hq)) (by omega) a2 (by omega) a3
  · rename News h₀ L _ _ => kN
    exact hret _ _ _ _ _ _ _ _ (by k_asm) (fun q hq => kN q (mem_p2 hq)) (by unfold i2dF; rw [if_pos (by assumption)]; unfold zerosF; rw [hcnt]; assumption) hoc hvs (fun q hq => ktn_ltOf lD.2.2.2.2.2 q (List.mem_append_right _ hq)) (by omega) a2 (by omega) a3
end
end Mine
namespace Mine
open PySem.Calls
local macro_rules | `(tactic| walk_at "spare") => `(tactic| fail)
local macro_rules | `(tactic| walk_at "spare") => `(tactic| fail)
local macro_rules | `(tactic| walk_at "spare") => `(tactic| fail)
local macro_rules | `(tactic| walk_at "spare") => `(tactic| fail)
local macro_rules | `(tactic| walk_at "spare") => `(tactic| fail)
local macro_rules | `(tactic| walk_at "spare") => `(tactic| fail)
local macro_rules | `(tactic| walk_at "spare") => `(tactic| fail)
local macro_rules | `(tactic| walk_at "spare") => `(tactic| fail)
local macro_rules | `(tactic| walk_at "spare") => `(tactic| fail)
local macro_rules | `(tactic| walk_at "spare") => `(tactic| fail)
local macro_rules | `(tactic| walk_at "spare") => `(tactic| fail)
local macro_rules | `(tactic| walk_at "spare") => `(tactic| fail)
local macro_rules | `(tactic| walk_at "spare") => `(tactic| fail)
local macro_rules | `(tactic| walk_at "spare") => `(tactic| fail)
local macro_rules | `(tactic| walk_at "spare") => `(tactic| fail)
local macro_rules | `(tactic| walk_at "spare") => `(tactic| fail)
local macro_rules | `(tactic| walk_at "spare") => `(tactic| fail)
section
variable {w : World} {p : Program} {loose : List Str} {mean : ExcName → Option Value} {mg mb : Str → Option Value} {news cz : List (Addr × Obj)}
  {dp un : Nat} {gd : Option (List Code)} {cn : Str} {cs : Scope} {a : Addr} {ccd : Value} {cl : List (Str × Addr)} {outer : List Env} {A₀ : Around} {base h₀ : Heap} {L : Addr} {m : Str → Option Value} {s : Shared} {Q E : Value → Shared → Prop}
local macro_rules | `(tactic| walk_at "binaryOp Mult int int") => `(tactic| (k_here; k_dflt (refine' mul_is ?k1 ?k2 ?k3 ?_; (case k3 => with_reducible assumption); (case k1 => omega); (case k2 => omega); k_whole); (intro t9 tk9); (try dsimp only)))
local macro_rules | `(tactic| k_all) => `(tactic| first | assumption | exact under_ne (by assumption) (by omega))
local macro_rules | `(tactic| walk_at "binaryOp RShift int int") => `(tactic| (k_here; k_dflt (refine' rshift_is ?k1 ?k2 ?_; (case k2 => with_reducible assumption); (case k1 => omega); k_whole); (intro t9 tk9); (try dsimp only)))
local macro_rules | `(tactic| walk_at "binaryOp LShift int int") => `(tactic| (k_here; k_dflt (refine' lshift_is ?k1 ?k2 ?k3 ?k4 ?_; (case k4 => with_reducible assumption); (case k1 => omega); (case k2 => omega); (case k3 => omega); k_whole); (intro t9 tk9); (try dsimp only)))
local macro_rules | `(tactic| walk_at "compareOp Eq int int") => `(tactic| (k_here; k_dflt (first | (refine' eqi_yes ?k1 ?_; (case k1 => with_reducible assumption)) | (refine' eqi_no ?k1 ?_; (case k1 => with_reducible assumption)))))
/-- what a call of the second inner def gives -/
def InnJ (w : World) (p : Program) (loose : List Str) (mean : ExcName → Option Value) (mg mb : Str → Option Value) (base : Heap) (f : Addr) (fx : List (Addr × Obj)) (ds : List Int) (n : Int) (k : Nat) : Prop :=
  ∀ (l r : Int) (tl tr : Tok) (dp un : Nat) (gd : Option (List Code)) (cn : Str) (cs : Scope) (a : Addr) (ccd : Value) (cl : List (Str × Addr)) (outer : List Env) (A₀ : Around) (h₀ : Heap) (L : Addr) (m : Str → Option Value) (s : Shared) (Q E : Value → Shared → Prop),
    Below A₀ base outer h₀ → Fr h₀ L s.heap m → (Mine.hd.heap_39 w.params).In h₀ → News h₀ L s.heap fx → Top p loose mean mg mb h₀ → cs.kind = .function →
    okJoin n ds k l r = true → 0 ≤ l → r ≤ ds.length → (ds.length : Int) ≤ 16 → dp + k < recursionLimit → un + 8 * k < cLine →
    (∀ t h' tk', Fr h₀ L h' m → News h₀ L h' fx → Q (.int (joinF n ds k l r) t) { s with heap := h', toks := tk' }) →
    wpAny (model PySem.Challenge.rw_zz0006_01.row.prog w) (ktrTop dp un gd cn cs L a ccd cl outer) (call (.ref f) [.int l tl, .int r tr]) Q E s
theorem inj_use {f : Addr} {fx : List (Addr × Obj)} {n : Int} {k : Nat} {l r : Int} {tl tr : Tok} {ds : List Int} (I : InnJ w p loose mean mg mb base f fx ds n k)
    (B : Below A₀ base outer h₀) (F : Fr h₀ L s.heap m) (X : (Mine.hd.heap_39 w.params).In h₀) (N : News h₀ L s.heap fx) (T : Top p loose mean mg mb h₀) (hk : cs.kind = .function)
    (hok : okJoin n ds k l r = true) (h0 : 0 ≤ l) (h1 : r ≤ ds.length) (h2 : (ds.length : Int) ≤ 16) (hd : dp + k < recursionLimit) (hu : un + 8 * k < cLine)
    (hret : ∀ t h' tk', Fr h₀ L h' m → News h₀ L h' fx → Q (.int (joinF n ds k l r) t) { s with heap := h', toks := tk' }) :
    wpAny (model PySem.Challenge.rw_zz0006_01.row.prog w) (ktrTop dp un gd cn cs L a ccd cl outer) (call (.ref f) [.int l tl, .int r tr]) Q E s :=
  I l r tl tr dp un gd cn cs a ccd cl outer A₀ h₀ L m s Q E B F X N T hk hok h0 h1 h2 hd hu hret
theorem okJoin_step {n l r : Int} {ds : List Int} {k : Nat} (h : okJoin n ds (k + 1) l r = true) (hlr : ¬ l + 1 = r) : ∃ mid sh : Int, midOf l r = mid ∧ (mid - l) * n = sh ∧
    l < mid ∧ mid < r ∧ 0 ≤ sh ∧ sh ≤ 100 ∧ 0 ≤ joinF n ds k mid r ∧ joinF n ds k mid r < 4096 ∧ okJoin n ds k l mid = true ∧ okJoin n ds k mid r = true ∧ joinF n ds (k + 1) l r = joinF n ds k mid r * 2 ^ sh.toNat + joinF n ds k l mid := by
  unfold okJoin at h
  rw [decide_eq_false hlr, Bool.false_or] at h
  simp only [Bool.and_eq_true, decide_eq_true_eq] at h
  obtain ⟨⟨⟨_, h1, h2, h3, h4, h5, h6⟩, h7⟩, h8⟩ := h
  refine ⟨_, _, rfl, rfl, h1, h2, h3, h4, h5, h6, h7, h8, ?_⟩
  conv => lhs; unfold joinF
  rw [if_neg hlr]
theorem join_base {n l r : Int} {k : Nat} {ds : List Int} (hlr : l + 1 = r) : joinF n ds (k + 1) l r = ds.getD l.toNat 0 := by
  unfold joinF
  rw [if_pos hlr]
local macro_rules | `(tactic| walk_at "call ref") => `(tactic| (k_here; k_dflt (refine' inj_use ?I ?k1 ?k2 ?k3 ?k4 ?k5 ?kK ?ko ?l0 ?l1 ?l2 ?kd ?ku ?_; (case I => assumption); (case k1 => k_asm); (case k2 => k_asm); (case k3 => k_asm); (case k4 => k_asm); (case k5 => k_asm); (case kK => first | exact rfl | assumption); (case ko => assumption); (case l0 => omega); (case l1 => omega); (case l2 => omega); (case kd => ktr_room); (case ku => ktr_units); k_whole; (intro t9 h9 tk9 F9 N9); (try dsimp only); (try k_sweep); walk_say "INNER")))
theorem mem_j1 {d f c x1 x2 x3 t q : Addr × Obj} {news : List (Addr × Obj)} (h : q ∈ t :: c :: news) : q ∈ f :: c :: x1 :: x2 :: x3 :: d :: t :: news := by
  simp only [List.mem_cons] at h ⊢
  rcases h with h | h | h <;> simp [h]
theorem ct_d2i {n : Int} {D : Addr} {tn : Tok} {ke : Nat} {ps : Array Value} {fs : List Value} {ds : List Int} (C : CodeHd base 41 37)
    (B : Below A₀ base outer h₀) (F : Fr h₀ L s.heap m) (X : (Mine.hd.heap_39 w.params).In h₀) (N : News h₀ L s.heap ((D, W.listOf fs.toArray ke) :: (37, tabObj ps) :: (cz ++ news))) (hi : IntsAre fs ds) (T : Top p loose mean mg mb h₀) (hk : cs.kind = .function)
    (hst : TabSt 47 4 (qIn "_digits2int") ps cz) (offD : @Ne Nat D 37) (offz : ∀ q ∈ cz, q.1 ≠ D) (off : ∀ q ∈ cz ++ news, q.1 ≠ 37) (offc : ∀ q ∈ news, ∀ r ∈ cz, q.1 ≠ r.1) (hok : okD2i ds n = true)
    (hd : dp + 9 < recursionLimit) (hu : un + 80 < cLine)
    (hret : ∀ c oc vs t t0 h' tk', Fr h₀ L h' m → News h₀ L h' ((37, tabObj #[rawInt 47, rawInt 4, .ref c]) :: (c, oc) :: news) → oc.data = .fields vs → vs[1]? = some (.str (qIn "_digits2int") t0) →
      (∀ p ∈ news, p.1 ≠ c) → @Ne Nat c 37 → Q (.int (d2iF ds n) t) { s with heap := h', toks := tk' }) :
    wpAny (model PySem.Challenge.rw_zz0006_01.row.prog w) (ktrTop dp un gd cn cs L a ccd cl outer) (call (.ref 42) [.ref D, .int n tn]) Q E s := by
  have _hk : (Mine.hd.heap_39 w.params).In h₀ → PySem.Challenge.rw_zz0006_01.row.prog = PySem.Challenge.rw_zz0006_01.row.prog := by k_fill; exact fun _ => rfl
  clear _hk
  have hb : 0 < n ∧ n < 13 ∧ ds.length ≤ 8 := of_decide_eq_true (Bool.and_eq_true_iff.mp hok).1
  obtain ⟨hn0, hn1, hc1⟩ := hb
  refine wpAny_call ?_
  k_dflt (refine' code_defC ?k1 ?k2 ?k3 ?k4 ?k5 ?kA ?kF ?kK ?k6 ?k7 ?k8 ?k9 ?kB ?kD ?_ ?c2 ?c3 ?c4)
  (case kA => exact rfl); (case kF => exact rfl); (case kK => assumption); (case k1 => k_asm); (case k2 => k_asm); (case k3 => k_asm); (case k4 => k_asm); (case k5 => k_asm); (case k6 => k_dflt k_is); (case k7 => k_dflt k_is); (case k8 => ktr_room); (case k9 => exact BindsTo.of_eq rfl); (case kB => exact rfl); (case kD => decide +kernel); (case c2 => exact rfl); (case c3 => exact rfl); (case c4 => exact rfl); k_whole; intro g' L' h' tk' cells' FG' F' N' Y' B' X' T' l1
  have hT : Under (cz ++ news) L' := fun p hp => l1 p (.tail _ (.tail _ hp))
  (try k_lt l1); k_cells Y'; (try simp only [List.cons_append, List.nil_append] at N'); (try dsimp only); (try k_lift B'); (try k_fold)
  k_steps
  k_dflt (refine nestDef_K rfl rfl rfl ?_)
  rename News _ _ _ _ => N2
  rename Fr _ _ _ _ => F2
  k_dflt (refine nestAny (own := [_, _, _, _]) F2 N2 T' (CodeHd.keeps C (Below.stays B')) rfl hst ?_ (fun q hq => off q (List.mem_append_left _ hq)) (fun q hq => off q (List.mem_append_right _ hq)) ?_ offc rfl ?_)
  · simp only [List.forall_mem_cons, List.not_mem_nil, false_implies, implies_true, and_true]
    refine ⟨neN ?_, neN ?_, neN ?_, neN ?_⟩ <;> omega
  · intro q hq r hr
    have h5 := ltN (hT r (List.mem_append_left _ hr))
    have h6 := neN (offz r hr)
    revert q
    simp only [List.forall_mem_cons, List.not_mem_nil, false_implies, implies_true, and_true]
    refine ⟨neN ?_, neN ?_, neN ?_, neN ?_⟩ <;> omega
  clear F2 N2
  intro f c oc vs t ctv doc h2 tk2 F2 N2 hoc hvs a1 a2 a3 a4 a5 a6 a7
  simp only [AllNe, AllLt, and_true] at a1 a4
  simp only [List.cons_append, List.nil_append] at N2
  have hTn : Under news L' := fun p hp => hT p (List.mem_append_right _ hp)
  clear hT hst off offc offz N F
  k_steps
  · rename News _ _ _ _ => N4
    rename Fr _ _ _ _ => F4
    obtain ⟨fx, hfx, N5⟩ : ∃ fx, fx = _ ∧ News _ _ _ fx := ⟨_, rfl, N4⟩
    have inn : ∀ k, InnJ w p loose mean mg mb base f fx ds n k := by
      clear F4 N5 N4 hret hok
      subst hfx
      intro k
      induction k with
      | zero => intro l r tl tr dp un gd cn cs a ccd cl outer A₀ h₀ L m s Q E _ _ _ _ _ _ h; cases h
      | succ k IH =>
        clear B' FG' X' T' B X T
        intro l r tl tr dp un gd cn cs a ccd cl outer A₀ h₀ L m s Q E B F X N T hk hok h0 h1 h2 hd hu hret
        refine wpAny_call ?_
        k_dflt (refine' code_nest ?k1 ?k2 ?k3 ?k4 ?k5 ?kA ?kF ?kK ?k6 ?k7 ?k8 ?k9 ?kB ?_ ?c2 ?c3 ?c4 ?c5)
        (case kA => exact rfl); (case kF => exact rfl); (case kK => assumption); (case k1 => k_asm); (case k2 => k_asm); (case k3 => k_asm); (case k4 => k_asm); (case k5 => k_asm); (case k6 => k_mem); (case k7 => exact codeRec_news (by k_asm) (by k_mem) (by assumption) (by assumption)); (case k8 => ktr_room); (case k9 => exact BindsTo.of_eq rfl); (case c5 => decide); (case kB => exact locs rfl); (case c2 => exact rfl); (case c3 => exact rfl); (case c4 => exact rfl); k_whole; intro g' L' h' FG' F' N' B' X' T'; (try dsimp only); (try k_lift B'); (try k_fold)
        by_cases hlr : l + 1 = r
        · k_steps
          rw [join_base hlr] at hret
          exact hret _ _ _ (by k_asm) (by k_asm)
        · obtain ⟨mid, sh, e1, e2, g1, g2, g3, g4, g5, g6, g7, g8, hf⟩ := okJoin_step hok hlr
          have e1' : (l + r).fdiv (2 ^ Int.toNat 1) = mid := e1
          k_steps
          rw [hf] at hret
          exact hret _ _ _ (by k_asm) (by k_asm)
    have hds : ¬ ds = [] := by
      intro e
      rename (0 < List.length _) => hne
      simp [e] at hne
    have hokf : okJoin n ds 3 0 ds.length = true := by
      have := (Bool.and_eq_true_iff.mp hok).2
      rw [decide_eq_false hds, Bool.false_or] at this
      exact this
    k_dflt (refine inj_use (inn 3) B' F4 X' N5 T' rfl hokf (by omega) (Int.le_refl _) (by omega) (by ktr_room) (by ktr_units) ?_)
    intro t9 h9 tk9 F9 N9
    clear F4 N4 N5 inn
    subst hfx
    k_steps
    rename News h₀ L _ _ => kN
    have e9 : d2iF ds n = joinF n ds 3 0 ds.length := by unfold d2iF; rw [if_neg hds]
    rw [e9] at hret
    exact hret _ _ _ _ _ _ _ (by k_asm) (fun q hq => kN q (mem_j1 hq)) hoc hvs a2 a3
  · rename News h₀ L _ _ => kN
    have hds : ds = [] := by
      rename (¬ 0 < List.length _) => hne
      exact List.eq_nil_of_length_eq_zero (by omega)
    have e9 : d2iF ds n = 0 := by unfold d2iF; rw [if_pos hds]
    rw [e9] at hret
    exact hret _ _ _ _ _ _ _ (by k_asm) (fun q hq => kN q (mem_j1 hq)) hoc hvs a2 a3
end
end Mine
namespace Mine
open PySem.Calls
local macro_rules | `(tactic| walk_at "spare") => `(tactic| fail)
local macro_rules | `(tactic| walk_at "spare") => `(tactic| fail)
local macro_rules | `(tactic| walk_at "spare") => `(tactic| fail)
local macro_rules | `(tactic| walk_at "spare") => `(tactic| fail)
local macro_rules | `(tactic| walk_at "spare") => `(tactic| fail)
local macro_rules | `(tactic| walk_at "spare") => `(tactic| fail)
local macro_rules | `(tactic| walk_at "spare") => `(tactic| fail)
local macro_rules | `(tactic| walk_at "spare") => `(tactic| fail)
local macro_rules | `(tactic| walk_at "spare") => `(tactic| fail)
local macro_rules | `(tactic| walk_at "spare") => `(tactic| fail)
local macro_rules | `(tactic| walk_at "spare") => `(tactic| fail)
local macro_rules | `(tactic| walk_at "spare") => `(tactic| fail)
local macro_rules | `(tactic| walk_at "spare") => `(tactic| fail)
local macro_rules | `(tactic| walk_at "spare") => `(tactic| fail)
local macro_rules | `(tactic| walk_at "spare") => `(tactic| fail)
local macro_rules | `(tactic| walk_at "spare") => `(tactic| fail)
local macro_rules | `(tactic| walk_at "spare") => `(tactic| fail)
local macro_rules | `(tactic| walk_at "spare") => `(tactic| fail)
local macro_rules | `(tactic| walk_at "spare") => `(tactic| fail)
local macro_rules | `(tactic| walk_at "spare") => `(tactic| fail)
local macro_rules | `(tactic| walk_at "spare") => `(tactic| fail)
local macro_rules | `(tactic| walk_at "spare") => `(tactic| fail)
local macro_rules | `(tactic| walk_at "spare") => `(tactic| fail)
section
variable {w : World} {p : Program} {loose : List Str} {mean : ExcName → Option Value} {mg mb : Str → Option Value} {news cz1 cz2 : List (Addr × Obj)}
  {dp un : Nat} {gd : Option (List Code)} {cn : Str} {cs : Scope} {a : Addr} {ccd : Value} {cl : List (Str × Addr)} {outer : List Env} {A₀ : Around} {base h₀ : Heap} {L : Addr} {m : Str → Option Value} {s : Shared} {Q E : Value → Shared → Prop}
theorem use_i2d {x n : Int} {tx tn : Tok} {ps : Array Value} {cz led : List (Addr × Obj)} (C : CodeHd base 34 30)
    (B : Below A₀ base outer h₀) (F : Fr h₀ L s.heap m) (X : (Mine.hd.heap_39 w.params).In h₀) (N : News h₀ L s.heap led) (T : Top p loose mean mg mb h₀) (hk : cs.kind = .function)
    (hst : TabSt 32 4 (qIn "_int2digits") ps cz) (hsub : ∀ q ∈ (30, tabObj ps) :: (cz ++ news), q ∈ led) (off : ∀ q ∈ cz ++ news, q.1 ≠ 30) (offc : ∀ q ∈ news, ∀ r ∈ cz, q.1 ≠ r.1) (hok : okI2d x n = true)
    (hd : dp + 9 < recursionLimit) (hu : un + 80 < cLine)
    (hret : ∀ D c oc vs fs t0 h' tk', Fr h₀ L h' m → News h₀ L h' ((D, W.listOf fs.toArray 0) :: (30, tabObj #[rawInt 32, rawInt 4, .ref c]) :: (c, oc) :: news) → IntsAre fs (i2dF x n) → oc.data = .fields vs → vs[1]? = some (.str (qIn "_int2digits") t0) →
      Under news D → @LT.lt Nat _ 30 D → (∀ p ∈ news, p.1 ≠ c) → @Ne Nat c D → @Ne Nat c 30 → Q (.ref D) { s with heap := h', toks := tk' }) :
    wpAny (model PySem.Challenge.rw_zz0006_01.row.prog w) (ktrTop dp un gd cn cs L a ccd cl outer) (call (.ref 35) [.int x tx, .int n tn]) Q E s :=
  ct_i2d C B F X (fun q hq => N q (hsub q hq)) T hk hst off offc hok hd hu hret
/-- the two tables of the made defs, and their codes -/
structure DivSt (ps1 ps2 : Array Value) (cz1 cz2 news : List (Addr × Obj)) : Prop where
  t1 : TabSt 32 4 (qIn "_int2digits") ps1 cz1
  t2 : TabSt 47 4 (qIn "_digits2int") ps2 cz2
  n1 : ∀ q ∈ cz1 ++ (cz2 ++ news), q.1 ≠ 30
  n2 : ∀ q ∈ cz1 ++ (cz2 ++ news), q.1 ≠ 37
  a1 : ∀ q ∈ news, ∀ r ∈ cz1, q.1 ≠ r.1
  a2 : ∀ q ∈ news, ∀ r ∈ cz2, q.1 ≠ r.1
  a3 : ∀ q ∈ cz2, ∀ r ∈ cz1, q.1 ≠ r.1
theorem bl_is {prog : Program} {A : Around} {x q : Int} {t : Tok} (hq : ((Builtin.Int.intBits x : Nat) : Int) = q) (h : ∀ t tk', Q (.int q t) { s with toks := tk' }) : wpAny (model prog w) A (call (.builtin "int.bit_length") [.int x t]) Q E s := call_int_bit_length (hq ▸ h _ _)
local macro_rules | `(tactic| walk_at "call builtin:int.bit_length") => `(tactic| (k_here; k_dflt (refine' bl_is ?k1 ?_; (case k1 => with_reducible assumption)); (intro t9 tk9); (try dsimp only)))
theorem offI_of {I : Addr} {it : Obj} : ∀ {l : List (Addr × Obj)}, Under l I → OffI I it l
  | [], _ => trivial
  | p :: _, h => ⟨.inl (Nat.ne_of_lt (h p (.head _))), offI_of fun q hq => h q (.tail _ hq)⟩
theorem addr_of2 {h₀ h : Heap} {L a : Addr} {o : Obj} {x : Addr × Obj} {rest : List (Addr × Obj)} (_N : News h₀ L h (x :: (a, o) :: rest)) : ∃ D, D = a := ⟨a, rfl⟩
theorem ints_app : ∀ {vs ws : List Value} {ns ks : List Int}, IntsAre vs ns → IntsAre ws ks → IntsAre (vs ++ ws) (ns ++ ks)
  | _, _, _, _, .nil, h => h
  | _, _, _, _, .cons i t r, h => .cons i t (ints_app r h)
theorem ints_rev : ∀ {vs : List Value} {ns : List Int}, IntsAre vs ns → IntsAre vs.reverse ns.reverse
  | _, _, .nil => .nil
  | _, _, .cons i t r => by
    rw [List.reverse_cons, List.reverse_cons]
    exact ints_app (ints_rev r) (.cons i t .nil)
/-- the names of the loop's frame -/
def MP (y : Int) (ty : Tok) (n : Int) (tn : Tok) (Dq D : Addr) (rr : Int) (tr : Tok) (u : Str → Option Value) : Str → Option Value := fun z =>
  if z = "b" then some (.int y ty) else if z = "n" then some (.int n tn) else if z = "q_digits" then some (.ref Dq) else if z = "a_digits" then some (.ref D) else if z = "r" then some (.int rr tr) else u z
theorem MP_eq {y : Int} {ty : Tok} {n : Int} {tn : Tok} {Dq D : Addr} {rr : Int} {tr : Tok} {m : Str → Option Value} (h1 : m "b" = some (.int y ty)) (h2 : m "n" = some (.int n tn)) (h3 : m "q_digits" = some (.ref Dq)) (h4 : m "a_digits" = some (.ref D)) (h5 : m "r" = some (.int rr tr)) : MP y ty n tn Dq D rr tr m = m := by
  funext z
  unfold MP
  repeat' split
  all_goals (first | rfl | (rename (_ = _) => e; rw [e]; symm; assumption))
theorem rev_ind {prog : Program} {A : Around} {E : Value → Shared → Prop} {env : Env} {x : Str} {body : List Stmt} {Q : Flow → Shared → Prop} {I : Addr} {lp : Addr × Obj} (R : List Value → (Str → Option Value) → List (Addr × Obj) → Prop)
    (turn : ∀ v r m nw, R (v :: r) m nw → (∀ m' n', R r m' n' → RevRest prog w A E h₀ env x body Q s I lp r m' n') → RevRest prog w A E h₀ env x body Q s I lp (v :: r) m nw)
    (done : ∀ m nw, R [] m nw → RevRest prog w A E h₀ env x body Q s I lp [] m nw) :
    ∀ vs m nw, R vs m nw → RevRest prog w A E h₀ env x body Q s I lp vs m nw
  | [], m, nw, h => done m nw h
  | v :: r, m, nw, h => turn v r m nw h fun m' n' h' => rev_ind R turn done r m' n' h'
theorem led_eq {h₀ h : Heap} {L : Addr} {x y : Addr × Obj} {rest nx : List (Addr × Obj)} (N : News h₀ L h (x :: y :: rest)) (e : nx = rest) : News h₀ L h (x :: y :: nx) := e ▸ N
local macro_rules | `(tactic| k_all) => `(tactic| first | assumption | exact under_ne (by assumption) (by omega))
local macro_rules | `(tactic| walk_at "call ref") => `(tactic| (k_here; k_dflt (refine' ct_div2 ?k1 ?k2 ?k3 ?k4 ?k5 ?kK ?kx ?ky ?kz ?kd ?ku ?_; (case k1 => k_asm); (case k2 => k_asm); (case k3 => k_asm); (case k4 => k_asm); (case k5 => k_asm); (case kK => first | exact rfl | assumption); (case kx => assumption); (case ky => assumption); (case kz => assumption); (case kd => ktr_room); (case ku => ktr_units); k_whole; (intro D9 t9 u9 h9 tk9 F9 N9 l1); (try dsimp only); (try k_lt l1); (try k_sweep); walk_say "DIV2")))
theorem lshift_raw {prog : Program} {A : Around} {x n : Int} {t u : Tok} (hn : 0 ≤ n) (hn2 : n ≤ 1000000) (ha : x.natAbs < 2 ^ 64) (h : ∀ t tk', Q (.int (x * 2 ^ n.toNat) t) { s with toks := tk' }) : wpAny (model prog w) A (binaryOp .LShift (.int x t) (.int n u)) Q E s := lshift_int_small hn hn2 ha (h _ _)
local macro_rules | `(tactic| walk_at "binaryOp LShift int int") => `(tactic| (k_here; k_dflt (refine' lshift_raw ?k1 ?k2 ?k3 ?_; (case k1 => omega); (case k2 => omega); (case k3 => omega); k_whole); (intro t9 tk9); (try dsimp only)))
theorem append_mine {prog : Program} {A : Around} {D : Addr} {qv : List Value} {k : Nat} {x : Value} {nw nw' : List (Addr × Obj)} (F : Fr h₀ L s.heap m) (N : News h₀ L s.heap nw) (U : Upd D (W.listOf qv.toArray k) (W.listOf (qv ++ [x]).toArray (k + 1)) nw nw') (hsz : qv.length ≤ 100)
    (h : ∀ h', Fr h₀ L h' m → News h₀ L h' nw' → Q .none { s with heap := h' }) : wpAny (model prog w) A (call (.builtin "list.append") [.ref D, x]) Q E s := by
  have e : (qv ++ [x]).toArray = qv.toArray.push x := by simp
  rw [e] at U
  exact append_K F N U h (by rw [sizeLine_eq, List.size_toArray]; omega)
theorem reverse_mine {prog : Program} {A : Around} {D : Addr} {qv : List Value} {k : Nat} {nw nw' : List (Addr × Obj)} (F : Fr h₀ L s.heap m) (N : News h₀ L s.heap nw) (U : Upd D (W.listOf qv.toArray k) (W.listOf qv.reverse.toArray k) nw nw') (hsz : qv.length ≤ 100)
    (h : ∀ h', Fr h₀ L h' m → News h₀ L h' nw' → Q .none { s with heap := h' }) : wpAny (model prog w) A (call (.builtin "list.reverse") [.ref D]) Q E s :=
  kl_reverse F N (by simp) U (by rw [sizeLine_eq]; simp; omega) h
local macro_rules | `(tactic| walk_at "call builtin:list.append") => `(tactic| (k_here; k_dflt (refine' append_mine ?k1 ?k2 ?k3 ?k4 ?_; (case k1 => k_asm); (case k2 => k_asm); (case k3 => k_upd); (case k4 => assumption); k_whole); (intro h9 F9 N9); (try k_sweep)))
local macro_rules | `(tactic| walk_at "call builtin:list.reverse") => `(tactic| (k_here; k_dflt (refine' reverse_mine ?k1 ?k2 ?k3 ?k4 ?_; (case k1 => k_asm); (case k2 => k_asm); (case k3 => k_upd); (case k4 => assumption); k_whole); (intro h9 F9 N9); (try k_sweep)))
theorem i2d_len {x n : Int} (h : okI2d x n = true) : (i2dF x n).length ≤ 8 := by
  have h1 : 0 < n ∧ n < 13 ∧ 0 ≤ cntF x n ∧ cntF x n ≤ 8 := of_decide_eq_true (Bool.and_eq_true_iff.mp h).1
  have h2 : (zerosF x n).length ≤ 8 := by unfold zerosF; simp; omega
  unfold i2dF
  split
  · exact h2
  · rw [fill_len]; exact h2
theorem mem_q1 {t a b c d q : Addr × Obj} {news : List (Addr × Obj)} (h : q ∈ t :: c :: a :: ([d] ++ ([b] ++ news))) : q ∈ t :: a :: b :: c :: d :: news := by
  simp only [List.mem_cons, List.mem_append, List.not_mem_nil, or_false] at h ⊢
  rcases h with h | h | h | h | h | h <;> simp [h]
theorem use_d2i {n : Int} {D : Addr} {tn : Tok} {ke : Nat} {ps : Array Value} {fs : List Value} {ds : List Int} {cz led : List (Addr × Obj)} (C : CodeHd base 41 37)
    (B : Below A₀ base outer h₀) (F : Fr h₀ L s.heap m) (X : (Mine.hd.heap_39 w.params).In h₀) (N : News h₀ L s.heap led) (hi : IntsAre fs ds) (T : Top p loose mean mg mb h₀) (hk : cs.kind = .function)
    (hst : TabSt 47 4 (qIn "_digits2int") ps cz) (hsub : ∀ q ∈ (D, W.listOf fs.toArray ke) :: (37, tabObj ps) :: (cz ++ news), q ∈ led) (offD : @Ne Nat D 37) (offz : ∀ q ∈ cz, q.1 ≠ D) (off : ∀ q ∈ cz ++ news, q.1 ≠ 37) (offc : ∀ q ∈ news, ∀ r ∈ cz, q.1 ≠ r.1) (hok : okD2i ds n = true)
    (hd : dp + 9 < recursionLimit) (hu : un + 80 < cLine)
    (hret : ∀ c oc vs t t0 h' tk', Fr h₀ L h' m → News h₀ L h' ((37, tabObj #[rawInt 47, rawInt 4, .ref c]) :: (c, oc) :: news) → oc.data = .fields vs → vs[1]? = some (.str (qIn "_digits2int") t0) →
      (∀ p ∈ news, p.1 ≠ c) → @Ne Nat c 37 → Q (.int (d2iF ds n) t) { s with heap := h', toks := tk' }) :
    wpAny (model PySem.Challenge.rw_zz0006_01.row.prog w) (ktrTop dp un gd cn cs L a ccd cl outer) (call (.ref 42) [.ref D, .int n tn]) Q E s :=
  ct_d2i C B F X (fun q hq => N q (hsub q hq)) hi T hk hst offD offz off offc hok hd hu hret
theorem ct_pos {x y : Int} {tx ty : Tok} {ps1 ps2 : Array Value} (C1 : CodeHd base 34 30) (C2 : CodeHd base 41 37)
    (B : Below A₀ base outer h₀) (F : Fr h₀ L s.heap m) (X : (Mine.hd.heap_39 w.params).In h₀) (N : News h₀ L s.heap ((30, tabObj ps1) :: (37, tabObj ps2) :: (cz1 ++ (cz2 ++ news)))) (T : Top p loose mean mg mb h₀) (hk : cs.kind = .function)
    (hst : DivSt ps1 ps2 cz1 cz2 news) (hok : okPos x y = true) (hy0 : 0 < y) (hy1 : y < 4096)
    (hd : dp + 12 < recursionLimit) (hu : un + 120 < cLine)
    (hret : ∀ D t1 t2 c1 o1 c2 o2 h' tk', Fr h₀ L h' m →
      News h₀ L h' ((D, ({ cls := .type "tuple", data := .seq (List.toArray [Value.int (posF x y).1 t1, Value.int (posF x y).2 t2]) } : Obj)) :: (30, tabObj #[rawInt 32, rawInt 4, .ref c1]) :: (37, tabObj #[rawInt 47, rawInt 4, .ref c2]) :: ([(c1, o1)] ++ ([(c2, o2)] ++ news))) →
      DivSt #[rawInt 32, rawInt 4, .ref c1] #[rawInt 47, rawInt 4, .ref c2] [(c1, o1)] [(c2, o2)] news → Under ((30, tabObj #[rawInt 32, rawInt 4, .ref c1]) :: (37, tabObj #[rawInt 47, rawInt 4, .ref c2]) :: ([(c1, o1)] ++ ([(c2, o2)] ++ news))) D → Q (.ref D) { s with heap := h', toks := tk' }) :
    wpAny (model PySem.Challenge.rw_zz0006_01.row.prog w) (ktrTop dp un gd cn cs L a ccd cl outer) (call (.ref 49) [.int x tx, .int y ty]) Q E s := by
  have _hk : (Mine.hd.heap_39 w.params).In h₀ → PySem.Challenge.rw_zz0006_01.row.prog = PySem.Challenge.rw_zz0006_01.row.prog := by k_fill; exact fun _ => rfl
  clear _hk
  obtain ⟨n, hn⟩ : ∃ n : Int, ((Builtin.Int.intBits y : Nat) : Int) = n := ⟨_, rfl⟩
  refine wpAny_call ?_
  k_dflt (refine' code_def ?k1 ?k2 ?k3 ?k4 ?k5 ?kA ?kF ?kK ?k6 ?k7 ?k8 ?k9 ?kB ?_ ?c2 ?c3 ?c4 ?c5)
  (case kA => exact rfl); (case kF => exact rfl); (case kK => assumption); (case k1 => k_asm); (case k2 => k_asm); (case k3 => k_asm); (case k4 => k_asm); (case k5 => k_asm); (case k6 => k_dflt k_is); (case k7 => k_dflt k_is); (case k8 => ktr_room); (case k9 => exact BindsTo.of_eq rfl); (case c5 => decide); (case kB => exact locs rfl); (case c2 => exact rfl); (case c3 => exact rfl); (case c4 => exact rfl); k_whole; intro g' L' h' FG' F' N' B' X' T'; (try dsimp only); (try k_lift B'); (try k_fold)
  k_steps
  rename News _ _ _ _ => N2
  rename Fr _ _ _ _ => F2
  have hok1 : okI2d x n = true ∧ okLoop y n (i2dF x n).reverse 0 = true ∧ okD2i (loopF y n (i2dF x n).reverse 0 []).1.reverse n = true := by
    have h := hok
    unfold okPos at h
    have e : bl y = n := hn
    simp only [e, Bool.and_eq_true] at h
    exact ⟨h.1.1, h.1.2, h.2⟩
  k_dflt (refine use_i2d (news := (37, tabObj ps2) :: (cz2 ++ news)) C1 B' F2 X' N2 T' rfl hst.t1 ?_ ?_ ?_ hok1.1 (by ktr_room) (by ktr_units) ?_)
  · intro q hq
    simp only [List.mem_cons, List.mem_append] at hq ⊢
    rcases hq with h | h | h | h | h <;> simp [h]
  · intro q hq
    simp only [List.mem_cons, List.mem_append] at hq
    rcases hq with h | h | h | h
    · exact hst.n1 q (by simp [h])
    · rw [h]; exact (by decide : (37 : Nat) ≠ 30)
    · exact hst.n1 q (by simp [h])
    · exact hst.n1 q (by simp [h])
  · intro q hq r hr
    simp only [List.mem_cons, List.mem_append] at hq
    rcases hq with h | h | h
    · rw [h]; exact fun e => hst.n2 r (by simp [hr]) e.symm
    · exact hst.a3 q h r hr
    · exact hst.a1 q h r hr
  clear F2 N2
  intro D c1 o1 vs1 fs t0 h2 tk2 F2 N2 hfs ho1 hv1 uD lD nc1 ncD nc30
  (try dsimp only)
  k_steps
  rename News _ _ _ _ => N2
  rename Fr _ _ _ _ => F2
  rename (_ ∧ _ ∧ _ ∧ _ ∧ _ ∧ AllLt _ _) => lI
  obtain ⟨I, rfl⟩ := addr_of N2
  obtain ⟨Dq, rfl⟩ := addr_of2 N2
  obtain ⟨nx, hnx⟩ : ∃ nx, nx = (D, W.listOf fs.toArray 0) :: (30, tabObj #[rawInt 32, rawInt 4, Value.ref c1]) :: (c1, o1) :: (37, tabObj ps2) :: (cz2 ++ news) := ⟨_, rfl⟩
  have N3 := led_eq N2 hnx
  have uI : Under ((Dq, W.listOf #[] 0) :: nx) I := by rw [hnx]; exact ktn_ltOf (show AllLt I (_ :: _ :: _ :: _ :: _ :: (cz2 ++ news)) from lI)
  have uq : Under nx Dq := by
    rename (_ ∧ _ ∧ _ ∧ _ ∧ AllLt Dq _) => lq
    rw [hnx]; exact ktn_ltOf (show AllLt Dq (_ :: _ :: _ :: _ :: (cz2 ++ news)) from lq)
  have qI : @LT.lt Nat _ Dq I := uI _ (.head _)
  k_dflt (refine iter_revUnr (lo := W.listOf fs.toArray 0) (vs := fs) rfl F2 N3 (offI_of uI) (.tail _ (by rw [hnx]; exact .head _)) rfl rfl ?_)
  clear N2 N3
  refine rev_ind (fun vs m nw => ∃ ds rr tr tq qv qs ke, IntsAre vs ds ∧ IntsAre qv qs ∧ okLoop y n ds rr = true ∧ loopF y n ds rr qs = loopF y n (i2dF x n).reverse 0 [] ∧ MP y ty n tq Dq D rr tr m = m ∧ ds.length + qs.length ≤ 8 ∧ nw = (Dq, W.listOf qv.toArray ke) :: nx) ?_ ?_ _ _ _ ?_
  · rintro v r m nw ⟨ds, rr, tr, tq, qv, qs, ke, hds, hqs, hlo, hlf, hm, hlen, rfl⟩ hnext
    cases hds with
    | cons d t hds =>
      rw [← hm]
      rename List Int => ds'
      have hlo2 : (0 ≤ rr ∧ rr < 4096 ∧ bl (rr * 2 ^ n.toNat + d) - n ≤ 4000) ∧ okLoop y n ds' ((rr * 2 ^ n.toNat + d).fmod y) = true := by
        unfold okLoop at hlo
        rw [Bool.and_eq_true] at hlo
        exact ⟨of_decide_eq_true hlo.1, hlo.2⟩
      obtain ⟨⟨r0, r1, r2⟩, hlo3⟩ := hlo2
      have hq8 : qv.length ≤ 100 := by have := IntsAre.length hqs; omega
      obtain ⟨hn0, hn1⟩ : 0 < n ∧ n < 13 := by
        have h1 : 0 < n ∧ n < 13 ∧ 0 ≤ cntF x n ∧ cntF x n ≤ 8 := of_decide_eq_true (Bool.and_eq_true_iff.mp hok1.1).1
        exact ⟨h1.1, h1.2.1⟩
      have hx3 : ((Builtin.Int.intBits (rr * 2 ^ n.toNat + d) : Nat) : Int) - n ≤ 4000 := r2
      k_dflt (refine RevRest.succ (fun it h3 tk3 hit F3 N3 => ?_))
      clear F2 hm hlo
      k_steps
      rename News _ _ _ _ => N9
      rename Fr _ _ _ _ => F9
      k_dflt (refine UnrEnd.intro F9 N9 (_ :: nx) (fun p hp => .tail _ hp) ?_ ⟨.tail _ (by rw [hnx]; exact .head _), hnext _ _ ⟨ds', _, _, tq, _, _, _, hds, ints_app hqs (.cons _ _ .nil), hlo3, hlf, MP_eq (by rfl) (by rfl) (by rfl) (by rfl) (by rfl), by simp only [List.length_append, List.length_cons, List.length_nil] at hlen ⊢; omega, rfl⟩⟩)
      intro p hp
      rcases List.mem_cons.mp hp with rfl | hp
      · exact Nat.ne_of_lt qI
      · exact Nat.ne_of_lt (uI p (.tail _ hp))
  · rintro m nw ⟨ds, rr, tr, tq, qv, qs, ke, hds, hqs, hlo, hlf, hm, hlen, rfl⟩
    cases hds
    rw [← hm]
    have hq8 : qv.length ≤ 100 := by have := IntsAre.length hqs; omega
    k_dflt (refine RevRest.zero (fun h3 tk3 F3 N3 => ?_))
    clear F2 hm
    k_steps
    rename News _ _ _ _ => N9
    rename Fr _ _ _ _ => F9
    have hqf : qs = (loopF y n (i2dF x n).reverse 0 []).1 := congrArg Prod.fst hlf
    have hrf : rr = (loopF y n (i2dF x n).reverse 0 []).2 := congrArg Prod.snd hlf
    have hok3 : okD2i qs.reverse n = true := by rw [hqf]; exact hok1.2.2
    have n37 : @Ne Nat 37 c1 := nc1 _ (.head _)
    k_dflt (refine use_d2i (ke := ke) (news := (30, tabObj #[rawInt 32, rawInt 4, Value.ref c1]) :: (c1, o1) :: news) C2 B' F9 X' N9 (ints_rev hqs) T' rfl hst.t2 ?_ ?_ ?_ ?_ ?_ hok3 (by ktr_room) (by ktr_units) ?_)
    · intro q hq
      rw [hnx]
      simp only [List.mem_cons, List.mem_append] at hq ⊢
      rcases hq with h | h | h | h | h | h <;> simp [h]
    · exact Nat.ne_of_gt (uq (37, tabObj ps2) (by rw [hnx]; simp))
    · exact fun q hq => Nat.ne_of_lt (uq q (by rw [hnx]; simp [hq]))
    · intro q hq
      simp only [List.mem_cons, List.mem_append] at hq
      rcases hq with h | h | h | h
      · exact hst.n2 q (by simp [h])
      · rw [h]; exact (by decide : (30 : Nat) ≠ 37)
      · rw [h]; exact n37.symm
      · exact hst.n2 q (by simp [h])
    · intro q hq r hr
      simp only [List.mem_cons] at hq
      rcases hq with h | h | h
      · rw [h]; exact fun e => hst.n1 r (by simp [hr]) e.symm
      · rw [h]; exact fun e => nc1 r (by simp [hr]) e.symm
      · exact hst.a2 q h r hr
    clear F9 N9
    intro c2 o2 vs2 tq2 t2 h9 tk9 F9 N9 ho2 hv2 nc2 n372
    (try dsimp only)
    k_steps
    rename News h₀ L _ _ => kN
    rename (_ ∧ _ ∧ _ ∧ _ ∧ _) => l9
    have e9 : posF x y = (d2iF qs.reverse n, rr) := by
      unfold posF
      have e : bl y = n := hn
      simp only [e]
      rw [← hqf, ← hrf]
    rw [e9] at hret
    refine hret _ _ _ c1 o1 c2 o2 _ _ (by k_asm) (fun q hq => kN q (mem_q1 hq)) ⟨.inr ⟨c1, o1, vs1, t0, rfl, rfl, ho1, hv1⟩, .inr ⟨c2, o2, vs2, t2, rfl, rfl, ho2, hv2⟩, ?_, ?_, ?_, ?_, ?_⟩ ?_
    · intro q hq
      simp only [List.mem_cons, List.mem_append, List.not_mem_nil, or_false] at hq
      rcases hq with h | h | h
      · rw [h]; exact nc30
      · rw [h]; exact fun e => nc2 _ (.head _) e.symm
      · exact hst.n1 q (by simp [h])
    · intro q hq
      simp only [List.mem_cons, List.mem_append, List.not_mem_nil, or_false] at hq
      rcases hq with h | h | h
      · rw [h]; exact n37.symm
      · rw [h]; exact n372
      · exact hst.n2 q (by simp [h])
    · intro q hq r hr
      rw [List.mem_singleton.mp hr]
      exact nc1 q (by simp [hq])
    · intro q hq r hr
      rw [List.mem_singleton.mp hr]
      exact nc2 q (by simp [hq])
    · intro q hq r hr
      rw [List.mem_singleton.mp hr, List.mem_singleton.mp hq]
      exact fun e => nc2 (c1, o1) (.tail _ (.head _)) e.symm
    · intro q hq
      simp only [List.mem_cons, List.mem_append, List.not_mem_nil, or_false] at hq
      rcases hq with h | h | h | h | h
      · rw [h]; exact l9.2.2.1
      · rw [h]; exact l9.1
      · rw [h]; exact l9.2.2.2.1
      · rw [h]; exact l9.2.1
      · exact ktn_ltOf l9.2.2.2.2 q h
  · refine ⟨_, 0, _, _, [], [], 0, ints_rev hfs, .nil, hok1.2.1, rfl, MP_eq (by rfl) (by rfl) (by rfl) (by rfl) (by rfl), by simpa using i2d_len hok1.1, rfl⟩
end
end Mine
namespace Mine
open PySem.Calls
local macro_rules | `(tactic| walk_at "spare") => `(tactic| fail)
local macro_rules | `(tactic| walk_at "spare") => `(tactic| fail)
local macro_rules | `(tactic| walk_at "spare") => `(tactic| fail)
local macro_rules | `(tactic| walk_at "spare") => `(tactic| fail)
local macro_rules | `(tactic| walk_at "spare") => `(tactic| fail)
local macro_rules | `(tactic| walk_at "spare") => `(tactic| fail)
local macro_rules | `(tactic| walk_at "spare") => `(tactic| fail)
local macro_rules | `(tactic| walk_at "spare") => `(tactic| fail)
local macro_rules | `(tactic| walk_at "spare") => `(tactic| fail)
local macro_rules | `(tactic| walk_at "spare") => `(tactic| fail)
local macro_rules | `(tactic| walk_at "spare") => `(tactic| fail)
local macro_rules | `(tactic| walk_at "spare") => `(tactic| fail)
local macro_rules | `(tactic| walk_at "spare") => `(tactic| fail)
local macro_rules | `(tactic| walk_at "spare") => `(tactic| fail)
local macro_rules | `(tactic| walk_at "spare") => `(tactic| fail)
local macro_rules | `(tactic| walk_at "spare") => `(tactic| fail)
local macro_rules | `(tactic| walk_at "spare") => `(tactic| fail)
local macro_rules | `(tactic| walk_at "spare") => `(tactic| fail)
local macro_rules | `(tactic| walk_at "spare") => `(tactic| fail)
local macro_rules | `(tactic| walk_at "spare") => `(tactic| fail)
local macro_rules | `(tactic| walk_at "spare") => `(tactic| fail)
local macro_rules | `(tactic| walk_at "spare") => `(tactic| fail)
local macro_rules | `(tactic| walk_at "spare") => `(tactic| fail)
local macro_rules | `(tactic| walk_at "spare") => `(tactic| fail)
local macro_rules | `(tactic| walk_at "spare") => `(tactic| fail)
local macro_rules | `(tactic| walk_at "spare") => `(tactic| fail)
local macro_rules | `(tactic| walk_at "spare") => `(tactic| fail)
local macro_rules | `(tactic| walk_at "spare") => `(tactic| fail)
local macro_rules | `(tactic| walk_at "spare") => `(tactic| fail)
/-- the ledger ends in tl, what stands before it is pre -/
inductive EndsIn (tl : List (Addr × Obj)) : List (Addr × Obj) → List (Addr × Obj) → Prop
  | here : EndsIn tl tl []
  | next {x : Addr × Obj} {r pre : List (Addr × Obj)} : EndsIn tl r pre → EndsIn tl (x :: r) (x :: pre)
theorem EndsIn.eq {tl led pre : List (Addr × Obj)} (h : EndsIn tl led pre) : led = pre ++ tl := by
  induction h with
  | here => rfl
  | next _ ih => rw [ih]; rfl
/-- the tables of the made defs, at the ledger's end -/
def TailSt (tl : List (Addr × Obj)) : Prop := ∃ ps1 ps2 cz1 cz2, tl = (30, tabObj ps1) :: (37, tabObj ps2) :: (cz1 ++ (cz2 ++ [])) ∧ DivSt ps1 ps2 cz1 cz2 []
def Apart (pre tl : List (Addr × Obj)) : Prop := ∀ q ∈ pre, ∀ r ∈ tl, q.1 ≠ r.1
section
variable {w : World} {p : Program} {loose : List Str} {mean : ExcName → Option Value} {mg mb : Str → Option Value} {news : List (Addr × Obj)}
  {dp un : Nat} {gd : Option (List Code)} {cn : Str} {cs : Scope} {a : Addr} {ccd : Value} {cl : List (Str × Addr)} {outer : List Env} {A₀ : Around} {base h₀ : Heap} {L : Addr} {m : Str → Option Value} {s : Shared} {Q E : Value → Shared → Prop}
theorem use_pos {x y : Int} {tx ty : Tok} {tl led pre : List (Addr × Obj)} {u v : Int} (C1 : CodeHd base 34 30) (C2 : CodeHd base 41 37)
    (B : Below A₀ base outer h₀) (F : Fr h₀ L s.heap m) (X : (Mine.hd.heap_39 w.params).In h₀) (N : News h₀ L s.heap led) (T : Top p loose mean mg mb h₀) (hk : cs.kind = .function)
    (hend : EndsIn tl led pre) (ht : TailSt tl) (ha : Apart pre tl) (hok : okPos x y = true) (hy0 : 0 < y) (hy1 : y < 4096) (he : posF x y = (u, v))
    (hd : dp + 12 < recursionLimit) (hu : un + 120 < cLine)
    (hret : ∀ D t1 t2 tl' h' tk', Fr h₀ L h' m → News h₀ L h' ((D, ({ cls := .type "tuple", data := .seq (List.toArray [Value.int u t1, Value.int v t2]) } : Obj)) :: (pre ++ tl')) → TailSt tl' → Apart pre tl' → Under pre D → Under tl' D → Q (.ref D) { s with heap := h', toks := tk' }) :
    wpAny (model PySem.Challenge.rw_zz0006_01.row.prog w) (ktrTop dp un gd cn cs L a ccd cl outer) (call (.ref 49) [.int x tx, .int y ty]) Q E s := by
  obtain ⟨ps1, ps2, cz1, cz2, rfl, hst⟩ := ht
  have hle := hend.eq
  have hst' : DivSt ps1 ps2 cz1 cz2 pre := ⟨hst.t1, hst.t2, fun q hq => by
      simp only [List.mem_append] at hq
      rcases hq with h | h | h
      · exact hst.n1 q (by simp [h])
      · exact hst.n1 q (by simp [h])
      · exact ha q h _ (.head _), fun q hq => by
      simp only [List.mem_append] at hq
      rcases hq with h | h | h
      · exact hst.n2 q (by simp [h])
      · exact hst.n2 q (by simp [h])
      · exact ha q h _ (.tail _ (.head _)), fun q hq r hr => ha q hq r (by simp [hr]), fun q hq r hr => ha q hq r (by simp [hr]), hst.a3⟩
  have N2 : News h₀ L s.heap ((30, tabObj ps1) :: (37, tabObj ps2) :: (cz1 ++ (cz2 ++ pre))) := fun q hq => N q (by
    rw [hle]
    simp only [List.mem_cons, List.mem_append] at hq ⊢
    rcases hq with h | h | h | h | h <;> simp [h])
  refine ct_pos C1 C2 B F X N2 T hk hst' hok hy0 hy1 hd hu fun D t1 t2 c1 o1 c2 o2 h' tk' F' N' hst2 hun => ?_
  rw [he] at N'
  refine hret D t1 t2 ((30, tabObj #[rawInt 32, rawInt 4, .ref c1]) :: (37, tabObj #[rawInt 47, rawInt 4, .ref c2]) :: ([(c1, o1)] ++ ([(c2, o2)] ++ []))) h' tk' F' (fun q hq => N' q ?_) ⟨_, _, _, _, rfl, hst2.t1, hst2.t2, fun q hq => hst2.n1 q ?_, fun q hq => hst2.n2 q ?_, (fun _ h => nomatch h), (fun _ h => nomatch h), hst2.a3⟩ ?_ (fun q hq => hun q ?_) (fun q hq => hun q ?_)
  · simp only [List.mem_cons, List.mem_append] at hq ⊢
    rcases hq with h | h | h | h | h | h | h
    · exact .inl h
    · simp [h]
    · simp [h]
    · simp [h]
    · rcases h with h | h
      · simp [h]
      · simp at h
    · rcases h with h | h
      · simp [h]
      · simp at h
    · simp at h
  · simp only [List.mem_append] at hq ⊢
    rcases hq with h | h | h
    · exact .inl h
    · exact .inr (.inl h)
    · simp at h
  · simp only [List.mem_append] at hq ⊢
    rcases hq with h | h | h
    · exact .inl h
    · exact .inr (.inl h)
    · simp at h
  · intro q hq r hr
    simp only [List.mem_cons, List.mem_append, List.not_mem_nil, or_false] at hr
    rcases hr with h | h | h | h
    · rw [h]; exact hst2.n1 q (by simp [hq])
    · rw [h]; exact hst2.n2 q (by simp [hq])
    · rw [h]; exact hst2.a1 q hq _ (.head _)
    · rw [h]; exact hst2.a2 q hq _ (.head _)
  · simp [hq]
  · simp only [List.mem_cons, List.mem_append, List.not_mem_nil, or_false] at hq ⊢
    rcases hq with h | h | h | h <;> simp [h]
local macro_rules | `(tactic| walk_at "compareOp Eq int int") => `(tactic| (k_here; k_dflt (refine' eqi_no ?k1 ?_; (case k1 => with_reducible assumption))))
local macro_rules | `(tactic| walk_at "call ref") => `(tactic| (k_here; k_dflt (refine' use_pos ?c1 ?c2 ?k1 ?k2 ?k3 ?k4 ?k5 ?kK ?ke ?kt ?ka ?ko ?ky ?kz ?kq ?kd ?ku ?_; (case c1 => assumption); (case c2 => assumption); (case k1 => k_asm); (case k2 => k_asm); (case k3 => k_asm); (case k4 => k_asm); (case k5 => k_asm); (case kK => first | exact rfl | assumption); (case ke => assumption); (case kt => assumption); (case ka => assumption); (case ko => assumption); (case ky => assumption); (case kz => assumption); (case kq => assumption); (case kd => ktr_room); (case ku => ktr_units); k_whole; (intro D9 t9 u9 tl9 h9 tk9 F9 N9 st9 ap9 l9 lt9); (try dsimp only); (try k_sweep); walk_say "POS")))
theorem ct_div {x y : Int} {tx ty : Tok} {tl led pre : List (Addr × Obj)} {u v : Int} (C1 : CodeHd base 34 30) (C2 : CodeHd base 41 37)
    (B : Below A₀ base outer h₀) (F : Fr h₀ L s.heap m) (X : (Mine.hd.heap_39 w.params).In h₀) (N : News h₀ L s.heap led) (T : Top p loose mean mg mb h₀) (hk : cs.kind = .function)
    (hend : EndsIn tl led pre) (ht : TailSt tl) (ha : Apart pre tl) (hok : okPos x y = true) (hx0 : 0 ≤ x) (hy0 : 0 < y) (hy1 : y < 4096) (he : posF x y = (u, v))
    (hd : dp + 13 < recursionLimit) (hu : un + 130 < cLine)
    (hret : ∀ D t1 t2 tl' h' tk', Fr h₀ L h' m → News h₀ L h' ((D, ({ cls := .type "tuple", data := .seq (List.toArray [Value.int u t1, Value.int v t2]) } : Obj)) :: (pre ++ tl')) → TailSt tl' → Apart pre tl' → Under pre D → Under tl' D → Q (.ref D) { s with heap := h', toks := tk' }) :
    wpAny (model PySem.Challenge.rw_zz0006_01.row.prog w) (ktrTop dp un gd cn cs L a ccd cl outer) (call (.ref 56) [.int x tx, .int y ty]) Q E s := by
  have _hk : (Mine.hd.heap_39 w.params).In h₀ → PySem.Challenge.rw_zz0006_01.row.prog = PySem.Challenge.rw_zz0006_01.row.prog := by k_fill; exact fun _ => rfl
  clear _hk
  have hyn : ¬ y = 0 := by omega
  refine wpAny_call ?_
  k_dflt (refine' code_def ?k1 ?k2 ?k3 ?k4 ?k5 ?kA ?kF ?kK ?k6 ?k7 ?k8 ?k9 ?kB ?_ ?c2 ?c3 ?c4 ?c5)
  (case kA => exact rfl); (case kF => exact rfl); (case kK => assumption); (case k1 => k_asm); (case k2 => k_asm); (case k3 => k_asm); (case k4 => k_asm); (case k5 => k_asm); (case k6 => k_dflt k_is); (case k7 => k_dflt k_is); (case k8 => ktr_room); (case k9 => exact BindsTo.of_eq rfl); (case c5 => decide); (case kB => exact locs rfl); (case c2 => exact rfl); (case c3 => exact rfl); (case c4 => exact rfl); k_whole; intro g' L' h' FG' F' N' B' X' T'; (try dsimp only); (try k_lift B'); (try k_fold)
  k_steps
  exact hret _ _ _ _ _ _ (by k_asm) (by k_asm) (by assumption) (by assumption) (by assumption) (by assumption)
end
end Mine
namespace Mine
open PySem.Calls
local macro_rules | `(tactic| walk_at "spare") => `(tactic| fail)
local macro_rules | `(tactic| walk_at "spare") => `(tactic| fail)
local macro_rules | `(tactic| walk_at "spare") => `(tactic| fail)
local macro_rules | `(tactic| walk_at "spare") => `(tactic| fail)
local macro_rules | `(tactic| walk_at "spare") => `(tactic| fail)
local macro_rules | `(tactic| walk_at "spare") => `(tactic| fail)
local macro_rules | `(tactic| walk_at "spare") => `(tactic| fail)
local macro_rules | `(tactic| walk_at "spare") => `(tactic| fail)
local macro_rules | `(tactic| walk_at "spare") => `(tactic| fail)
local macro_rules | `(tactic| walk_at "spare") => `(tactic| fail)
local macro_rules | `(tactic| walk_at "spare") => `(tactic| fail)
local macro_rules | `(tactic| walk_at "spare") => `(tactic| fail)
local macro_rules | `(tactic| walk_at "spare") => `(tactic| fail)
local macro_rules | `(tactic| walk_at "spare") => `(tactic| fail)
local macro_rules | `(tactic| walk_at "spare") => `(tactic| fail)
local macro_rules | `(tactic| walk_at "spare") => `(tactic| fail)
local macro_rules | `(tactic| walk_at "spare") => `(tactic| fail)
local macro_rules | `(tactic| walk_at "spare") => `(tactic| fail)
local macro_rules | `(tactic| walk_at "spare") => `(tactic| fail)
local macro_rules | `(tactic| walk_at "spare") => `(tactic| fail)
local macro_rules | `(tactic| walk_at "spare") => `(tactic| fail)
local macro_rules | `(tactic| walk_at "spare") => `(tactic| fail)
local macro_rules | `(tactic| walk_at "spare") => `(tactic| fail)
local macro_rules | `(tactic| walk_at "spare") => `(tactic| fail)
local macro_rules | `(tactic| walk_at "spare") => `(tactic| fail)
local macro_rules | `(tactic| walk_at "spare") => `(tactic| fail)
local macro_rules | `(tactic| walk_at "spare") => `(tactic| fail)
local macro_rules | `(tactic| walk_at "spare") => `(tactic| fail)
local macro_rules | `(tactic| walk_at "spare") => `(tactic| fail)
local macro_rules | `(tactic| walk_at "spare") => `(tactic| fail)
local macro_rules | `(tactic| walk_at "spare") => `(tactic| fail)
local macro_rules | `(tactic| walk_at "spare") => `(tactic| fail)
def inEv : Nat → Int → Int → Int → Option (Int × Int)
  | 0, _, _, _ => none
  | k + 1, x, o, f => if okPos x o && decide (0 ≤ x ∧ 0 < o ∧ o < 4096) then (if (posF x o).2 = 0 then inEv k (posF x o).1 o (f + 1) else some (x, f)) else none
def outEv : Nat → Int → Int → Option Bool
  | 0, _, _ => none
  | k + 1, x, o => if 1 < x then (match inEv 8 x o 0 with
      | none => none
      | some (x', f) => if o.fmod 4 = 3 ∧ f.fmod 2 = 1 then some false else if 200 < o + 1 then none else outEv k x' (o + 1)) else some true
/-- a goal set aside -/
def Stop (P : Prop) : Prop := P
theorem stop_of {P : Prop} (h : Stop P) : P := h
theorem ends_app (pre tl : List (Addr × Obj)) : EndsIn tl (pre ++ tl) pre := by
  induction pre with
  | nil => exact .here
  | cons x r ih => exact .next ih
theorem apart_cons {D : Addr} {o : Obj} {pre tl : List (Addr × Obj)} (h : Under tl D) (h2 : Apart pre tl) : Apart ((D, o) :: pre) tl := by
  intro q hq r hr
  rcases List.mem_cons.mp hq with rfl | hq
  · exact Nat.ne_of_gt (h r hr)
  · exact h2 q hq r hr
theorem apart_tail {x : Addr × Obj} {pre tl : List (Addr × Obj)} (h : Apart (x :: pre) tl) : Apart pre tl := fun q hq => h q (.tail _ hq)
section
variable {prog : Program} {w : World} {A : Around} {E : Value → Shared → Prop} {env : Env} {test : PySem.Expr} {body orelse : List Stmt} {Q : Flow → Shared → Prop}
theorem whl_ind (R : Nat → Shared → Prop) (zero : ∀ s, R 0 s → False) (turn : ∀ k s, R (k + 1) s → (∀ s', R k s' → WhlRest prog w A E env test body orelse Q 0 s') → WhlRest prog w A E env test body orelse Q 1 s) :
    ∀ k s, R k s → WhlRest prog w A E env test body orelse Q 0 s
  | 0, s, h => (zero s h).elim
  | k + 1, s, h => turn k s h fun s' h' => whl_ind R zero turn k s' h'
end
section
variable {w : World} {p : Program} {loose : List Str} {mean : ExcName → Option Value} {mg mb : Str → Option Value} {news : List (Addr × Obj)}
  {dp un : Nat} {gd : Option (List Code)} {cn : Str} {cs : Scope} {a : Addr} {ccd : Value} {cl : List (Str × Addr)} {outer : List Env} {A₀ : Around} {base h₀ : Heap} {L : Addr} {m : Str → Option Value} {s : Shared} {Q E : Value → Shared → Prop}
def ME (x : Int) (tx : Tok) (o : Int) (to : Tok) (u : Str → Option Value) : Str → Option Value := fun z => if z = "number" then some (.int x tx) else if z = "one" then some (.int o to) else u z
theorem ME_eq {x : Int} {tx : Tok} {o : Int} {to : Tok} {m : Str → Option Value} (h1 : m "number" = some (.int x tx)) (h2 : m "one" = some (.int o to)) : ME x tx o to m = m := by
  funext z
  unfold ME
  repeat' split
  all_goals (first | rfl | (rename (_ = _) => e; rw [e]; symm; assumption))
def MI (x : Int) (tx : Tok) (o : Int) (to : Tok) (f : Int) (tf : Tok) (u : Str → Option Value) : Str → Option Value := fun z => if z = "number" then some (.int x tx) else if z = "one" then some (.int o to) else if z = "often" then some (.int f tf) else u z
theorem MI_eq {x : Int} {tx : Tok} {o : Int} {to : Tok} {f : Int} {tf : Tok} {m : Str → Option Value} (h1 : m "number" = some (.int x tx)) (h2 : m "one" = some (.int o to)) (h3 : m "often" = some (.int f tf)) : MI x tx o to f tf m = m := by
  funext z
  unfold MI
  repeat' split
  all_goals (first | rfl | (rename (_ = _) => e; rw [e]; symm; assumption))
local macro_rules | `(tactic| walk_at "exec While Compare cons nil") => `(tactic| (k_here; refine stop_of ?_))
local macro_rules | `(tactic| walk_at "WhlRest") => `(tactic| ((with_reducible show WhlRest _ _ _ _ _ _ _ _ _ 0 _); refine stop_of ?_))
theorem news_sub3 {h₀ h : Heap} {L : Addr} {x y z : Addr × Obj} {rest : List (Addr × Obj)} (N : News h₀ L h (x :: y :: z :: rest)) : News h₀ L h rest := fun q hq => N q (by simp [hq])
theorem news_sub1 {h₀ h : Heap} {L : Addr} {x : Addr × Obj} {rest : List (Addr × Obj)} (N : News h₀ L h (x :: rest)) : News h₀ L h rest := fun q hq => N q (by simp [hq])
local macro_rules | `(tactic| walk_at "call ref") => `(tactic| (k_here; k_dflt (refine' ct_div ?c1 ?c2 ?k1 ?k2 ?k3 ?k4 ?k5 ?kK ?ke ?kt ?ka ?ko ?kx ?ky ?kz ?kq ?kd ?ku ?_; (case c1 => assumption); (case c2 => assumption); (case k1 => k_asm); (case k2 => k_asm); (case k3 => k_asm); (case k4 => k_asm); (case k5 => k_asm); (case kK => first | exact rfl | assumption); (case ke => first | exact ends_app _ _ | exact .next (ends_app _ _)); (case kt => assumption); (case ka => first | assumption | exact apart_cons (by assumption) (by assumption)); (case ko => assumption); (case kx => assumption); (case ky => assumption); (case kz => assumption); (case kq => assumption); (case kd => ktr_room); (case ku => ktr_units); k_whole; (intro D9 t9 u9 tl9 h9 tk9 F9 N9 st9 ap9 l9 lt9); (try dsimp only); (try simp only [List.cons_append] at N9); (try k_sweep); walk_say "DIV")))
theorem outEv_end {k : Nat} {x o : Int} {b : Bool} (h : outEv (k + 1) x o = some b) (hx : ¬ 1 < x) : b = true := by
  unfold outEv at h
  rw [if_neg hx] at h
  cases h
  rfl
theorem outEv_step {k : Nat} {x o : Int} {b : Bool} (h : outEv (k + 1) x o = some b) (hx : 1 < x) : ∃ x' f, inEv 8 x o 0 = some (x', f) ∧ ((o.fmod 4 = 3 ∧ f.fmod 2 = 1 ∧ b = false) ∨ (¬ (o.fmod 4 = 3 ∧ f.fmod 2 = 1) ∧ ¬ 200 < o + 1 ∧ outEv k x' (o + 1) = some b)) := by
  unfold outEv at h
  rw [if_pos hx] at h
  cases hi : inEv 8 x o 0 with
  | none => rw [hi] at h; cases h
  | some q =>
    obtain ⟨x', f⟩ := q
    rw [hi] at h
    refine ⟨x', f, rfl, ?_⟩
    dsimp only at h
    by_cases hc : o.fmod 4 = 3 ∧ f.fmod 2 = 1
    · rw [if_pos hc] at h
      cases h
      exact .inl ⟨hc.1, hc.2, rfl⟩
    · rw [if_neg hc] at h
      by_cases h2 : 200 < o + 1
      · rw [if_pos h2] at h; cases h
      · rw [if_neg h2] at h
        exact .inr ⟨hc, h2, h⟩
theorem inEv_step {k : Nat} {x o f : Int} {r : Int × Int} (h : inEv (k + 1) x o f = some r) : okPos x o = true ∧ 0 ≤ x ∧ 0 < o ∧ o < 4096 ∧ (((posF x o).2 = 0 ∧ inEv k (posF x o).1 o (f + 1) = some r) ∨ (¬ (posF x o).2 = 0 ∧ r = (x, f))) := by
  unfold inEv at h
  by_cases hc : (okPos x o && decide (0 ≤ x ∧ 0 < o ∧ o < 4096)) = true
  · rw [if_pos hc] at h
    rw [Bool.and_eq_true] at hc
    have h2 := of_decide_eq_true hc.2
    refine ⟨hc.1, h2.1, h2.2.1, h2.2.2, ?_⟩
    by_cases h3 : (posF x o).2 = 0
    · rw [if_pos h3] at h; exact .inl ⟨h3, h⟩
    · rw [if_neg h3] at h; cases h; exact .inr ⟨h3, rfl⟩
  · rw [if_neg hc] at h; cases h
theorem ct_even {x : Int} {tx : Tok} {tl led pre : List (Addr × Obj)} {b : Bool} (C1 : CodeHd base 34 30) (C2 : CodeHd base 41 37)
    (B : Below A₀ base outer h₀) (F : Fr h₀ L s.heap m) (X : (Mine.hd.heap_39 w.params).In h₀) (N₀ : News h₀ L s.heap led) (T : Top p loose mean mg mb h₀) (hk : cs.kind = .function)
    (hend : EndsIn tl led pre) (ht : TailSt tl) (ha : Apart pre tl) (hev : outEv 100 x 2 = some b)
    (hd : dp + 15 < recursionLimit) (hu : un + 150 < cLine)
    (hret : ∀ (t : Tok) tl' h' tk', Fr h₀ L h' m → News h₀ L h' (pre ++ tl') → TailSt tl' → Apart pre tl' → Q (.bool b) { s with heap := h', toks := tk' }) :
    wpAny (model PySem.Challenge.rw_zz0006_01.row.prog w) (ktrTop dp un gd cn cs L a ccd cl outer) (call (.ref 86) [.int x tx]) Q E s := by
  have _hk : (Mine.hd.heap_39 w.params).In h₀ → PySem.Challenge.rw_zz0006_01.row.prog = PySem.Challenge.rw_zz0006_01.row.prog := by k_fill; exact fun _ => rfl
  clear _hk
  have N : News h₀ L s.heap (pre ++ tl) := hend.eq ▸ N₀
  clear hend N₀
  refine wpAny_call ?_
  k_dflt (refine' code_def ?k1 ?k2 ?k3 ?k4 ?k5 ?kA ?kF ?kK ?k6 ?k7 ?k8 ?k9 ?kB ?_ ?c2 ?c3 ?c4 ?c5)
  (case kA => exact rfl); (case kF => exact rfl); (case kK => assumption); (case k1 => k_asm); (case k2 => k_asm); (case k3 => k_asm); (case k4 => k_asm); (case k5 => k_asm); (case k6 => k_dflt k_is); (case k7 => k_dflt k_is); (case k8 => ktr_room); (case k9 => exact BindsTo.of_eq rfl); (case c5 => decide); (case kB => exact locs rfl); (case c2 => exact rfl); (case c3 => exact rfl); (case c4 => exact rfl); k_whole; intro g' L' h' FG' F' N' B' X' T'; (try dsimp only); (try k_lift B'); (try k_fold)
  k_steps
  rename News _ _ _ _ => N2
  rename Fr _ _ _ _ => F2
  unfold Stop
  k_dflt (refine whl_start 0 ?_)
  refine whl_ind (fun k s9 => ∃ (x o : Int) (tx to : Tok) (h : Heap) (tk : Nat) (m : Str → Option Value) (tl' : List (Addr × Obj)), s9 = { s with heap := h, toks := tk } ∧ outEv k x o = some b ∧ ME x tx o to m = m ∧ Fr g' L' h m ∧ News g' L' h (pre ++ tl') ∧ TailSt tl' ∧ Apart pre tl') ?_ ?_ 100 _ ⟨x, 2, _, _, _, _, _, tl, rfl, hev, ME_eq (by rfl) (by rfl), F2, N2, ht, ha⟩
  · rintro s9 ⟨x, o, _, _, _, _, _, _, _, h, _⟩
    cases h
  clear F2 N2 ht ha hev N F
  rintro k s9 ⟨x, o, tx, to, h3, tk3, m3, tl3, rfl, hev, hm, F3, N3, ht, ha⟩ hnext
  rw [← hm] at F3
  k_steps
  by_cases hx : 1 < x
  · obtain ⟨x', f', hin, hout⟩ := outEv_step hev hx
    refine WhlIf.yes (decide_eq_true hx) ?_
    k_steps
    rename News _ _ _ _ => N2
    rename Fr _ _ _ _ => F2
    unfold Stop
    k_dflt (refine whl_start 0 ?_)
    refine whl_ind (fun k s9 => ∃ (x1 f1 : Int) (tx to tf : Tok) (h : Heap) (tk : Nat) (m : Str → Option Value) (tl' : List (Addr × Obj)), s9 = { s with heap := h, toks := tk } ∧ inEv k x1 o f1 = some (x', f') ∧ MI x1 tx o to f1 tf m = m ∧ Fr g' L' h m ∧ News g' L' h (pre ++ tl') ∧ TailSt tl' ∧ Apart pre tl') ?_ ?_ 8 _ ⟨x, 0, _, _, _, _, _, _, tl3, rfl, hin, MI_eq (by rfl) (by rfl) (by rfl), F2, N2, ht, ha⟩
    · rintro s9 ⟨x, o, _, _, _, _, _, _, _, _, h, _⟩
      cases h
    clear F2 N2 ht ha hev hm hin
    rintro k s9 ⟨x1, f1, tx1, to1, tf1, h3, tk3, m3, tl3, rfl, hin, hm, F3, N3, ht, ha⟩ hnexti
    rw [← hm] at F3
    obtain ⟨hok, hx0, ho0, ho1, hstep⟩ := inEv_step hin
    obtain ⟨u, v, hp⟩ : ∃ u v, posF x1 o = (u, v) := ⟨_, _, rfl⟩
    rw [hp] at hstep
    dsimp only at hstep
    k_steps
    rcases hstep with ⟨hv, hin2⟩ | ⟨hv, he⟩
    · refine WhlIf.yes (beq_iff_eq.mpr hv) ?_
      k_steps
      rename News _ _ _ _ => N9
      rename Fr _ _ _ _ => F9
      exact hnexti _ ⟨u, f1 + 1, _, _, _, _, _, _, _, rfl, hin2, MI_eq (by rfl) (by rfl) (by rfl), F9, news_sub3 N9, by assumption, apart_tail (by assumption)⟩
    · obtain ⟨rfl, rfl⟩ := Prod.mk.inj he
      refine WhlIf.no (beq_eq_false_iff_ne.mpr hv) ?_
      k_steps
      · have hb : b = false := by
          rcases hout with ⟨_, _, e⟩ | ⟨e, _⟩
          · exact e
          · exact absurd ⟨by assumption, by assumption⟩ e
        rw [hb] at hret
        rename News h₀ L _ _ => kN
        exact hret 0 _ _ _ (by k_asm) (news_sub1 kN) (by assumption) (by assumption)
      all_goals (
        rename News g' L' _ _ => N9
        rename Fr g' L' _ _ => F9
        rcases hout with ⟨e1, e2, _⟩ | ⟨_, _, hnx⟩
        · first | exact absurd e1 (by assumption) | exact absurd e2 (by assumption)
        · exact hnext _ ⟨x', o + 1, _, _, _, _, _, _, rfl, hnx, ME_eq (by rfl) (by rfl), F9, news_sub1 N9, by assumption, by assumption⟩)
  · refine WhlIf.no (decide_eq_false hx) ?_
    k_steps
    rw [outEv_end hev hx] at hret
    exact hret 0 _ _ _ (by k_asm) (by k_asm) ht ha
end
end Mine
namespace Mine
open PySem.Calls
def cellNames (x a b : Str) : List (Str × NameKind) := [((".0" : Str), NameKind.local), (x, .cell), (a, .free), (b, .free)]
section
variable {M : Model} {A : Around} {E : Value → Shared → Prop} {s : Shared}
/-- the frame of a comprehension whose own name is a cell -/
theorem nfe_cell {scope : Scope} {globals : Addr} {cl : List (Str × Addr)} {qual : Str} {env : Env} {x a b : Str} {Q : Env → Shared → Prop} (hn : scope.names = cellNames x a b)
    (h : Q { scope := scope, locals := s.heap.objs.size, globals := globals, cells := (x, s.heap.objs.size + 1) :: cl, qual := qual, func := none, code := env.code, frame := env.frame, builtins := env.builtins }
      { s with heap := (s.heap.push { cls := .type "dict", data := .dict #[] }).push { cls := .type "cell", data := .cell none } }) :
    wpAny M A (newFunctionEnv scope globals cl [] qual none .none (some env)) Q E s := by
  simp only [newFunctionEnv, Option.isSome_some, if_true]
  refine wpAny_bind (wpAny_alloc ?_)
  refine wpAny_bind (wpAny_layCells _ (fun name kind cells => by cases hkc : kind == NameKind.cell <;> simp [hkc]) _ _ _ _ ?_)
  rw [hn]
  have e1 : (NameKind.local == NameKind.cell) = false := by decide
  have e2 : (NameKind.cell == NameKind.cell) = true := by decide
  have e3 : (NameKind.free == NameKind.cell) = false := by decide
  simp only [cellNames, cellsFrom, pushCells, e1, e2, e3, if_true, Bool.false_eq_true, if_false, Heap.size_push]
  rw [List.forIn_nil]
  exact wpAny_bind (wpAny_pure (wpAny_pure h))
end
section
variable {prog : Program} {w : World} {A : Around} {E : Value → Shared → Prop} {s : Shared} {h₀ : Heap} {L : Addr} {m : Str → Option Value} {env : Env}
def KeptAt (h₀ : Heap) (L : Addr) (m : Str → Option Value) (s : Shared) (led : List (Addr × Obj)) (s' : Shared) : Prop := ∃ h' tk', s' = { s with heap := h', toks := tk' } ∧ Fr h₀ L h' m ∧ News h₀ L h' led
def CellOff (I C K D : Addr) (news : List (Addr × Obj)) : Prop := ∀ p ∈ news, p.1 ≠ I ∧ p.1 ≠ C ∧ p.1 ≠ K ∧ p.1 ≠ D
def TurnYes (h₀ : Heap) (L : Addr) (m : Str → Option Value) (s : Shared) (led : List (Addr × Obj)) (p : Int → Bool) (k : Int) (y : Value) (s' : Shared) : Prop := (p k = true ∧ ∃ t, y = .int k t) ∧ KeptAt h₀ L m s led s'
def TurnNo (h₀ : Heap) (L : Addr) (m : Str → Option Value) (s : Shared) (led : List (Addr × Obj)) (p : Int → Bool) (k : Int) (s' : Shared) : Prop := p k = false ∧ KeptAt h₀ L m s led s'
theorem block_cell {ct elt iter : PySem.Expr} {x a b : Str} {px : Pos} {scope : Scope} {cl : List (Str × Addr)} {pos : Pos} {s₂ : Shared} {I : Addr} {fp : List Addr} {n : Nat} {P : Nat → Value → Prop} {St : Nat → Heap → Prop} {news : List (Addr × Obj)}
    {RR : Value → Addr → Result → Shared → Prop} {ns : List Int} (p : Int → Bool)
    (W : Walks prog w A I fp [I] n P St) (hsz : n ≤ sizeLine) (hIo : ∀ i h, St i h → ∃ o, h.get? I = some o)
    (hSt : ∀ i h h' o, St i h → h.get? I = some o → h'.get? I = some o → Fr h₀ L h' m → News h₀ L h' news → St i h')
    (hnm : scope.names = cellNames x a b) (hx0 : (x == (".0" : Str)) = false) (hkind : scope.kind = .function) (hst : St 0 s₂.heap) (hfp : ∀ b ∈ fp, b < s₂.heap.objs.size)
    (hP : ∀ i v, i < n → P i v → ∃ k t, ns[i]? = some k ∧ v = .int k t) (hlen : ns.length = n)
    (F : Fr h₀ L s₂.heap m) (N : News h₀ L s₂.heap news) (hIL : L ≠ I) (hI₀ : h₀.get? I = none) (off : ∀ p ∈ news, p.1 ≠ I)
    (turn : ∀ k t I oI C oC K oK D ys h tk (E' : Value → Shared → Prop), oK.data = .cell (some (.int k t)) → Fr h₀ L h m → News h₀ L h ((I, oI) :: (C, oC) :: (K, oK) :: (D, LCg.lst ys) :: news) → CellOff I C K D news →
      ((@Ne Nat I C) ∧ (@Ne Nat I K) ∧ (@Ne Nat I D) ∧ (@Ne Nat C K) ∧ (@Ne Nat C D) ∧ (@Ne Nat K D)) →
      wpAny (model prog w) A (isTrue ct (compEnvC scope ((x, K) :: cl) C env) (eval ct (compEnvC scope ((x, K) :: cl) C env))) (fun ok s' => if ok = true then
        wpAny (model prog w) A (eval elt (compEnvC scope ((x, K) :: cl) C env)) (TurnYes h₀ L m { s₂ with heap := h, toks := tk } ((I, oI) :: (C, oC) :: (K, oK) :: (D, LCg.lst ys) :: news) p k) E' s'
        else TurnNo h₀ L m { s₂ with heap := h, toks := tk } ((I, oI) :: (C, oC) :: (K, oK) :: (D, LCg.lst ys) :: news) p k s') E' { s₂ with heap := h, toks := tk })
    (hRR : ∀ D C h tk m' ys, Fr h₀ L h m → News h₀ L h ((D, LCg.lst ys) :: news) → (∀ p ∈ news, p.1 < D) → h.Ns C m' → h₀.get? C = none → h₀.get? D = none → C ≠ L → D ≠ L → C ≠ D → (∀ p ∈ news, p.1 ≠ C) → IntsAre ys (ns.filter p) → RR (.ref D) C (.ok .next) { s₂ with heap := h, toks := tk }) :
    wpAny (model prog w) A (newList []) (fun acc s₃ => wpAny (model prog w) A (newFunctionEnv scope env.globals cl [] env.qual none .none (some env)) (fun cenv s₄ =>
      codeAny (model prog w) A (.compStart (.ListComp elt [⟨.Name x px, iter, [ct], 0⟩] scope pos) 0 (.ref I) acc { cenv with scope := relabel scope env }) (RR acc cenv.locals) s₄) E s₃) E s₂ := by
  refine wpAny_newObj_type (nfe_cell hnm ?_)
  dsimp only
  generalize hH2 : s₂.heap.push { cls := .type "list", dict := none, data := .seq ([] : List Value).toArray } = H2
  have hC : H2.objs.size = s₂.heap.objs.size + 1 := by rw [← hH2, Heap.size_push]
  generalize hH3 : H2.push { cls := .type "dict", data := .dict #[] } = H3
  have hK : H3.objs.size = H2.objs.size + 1 := by rw [← hH3, Heap.size_push]
  generalize hH4 : H3.push { cls := .type "cell", data := .cell none } = H4
  obtain ⟨D, hDe⟩ : ∃ D, s₂.heap.objs.size = D := ⟨_, rfl⟩
  obtain ⟨C, hCe⟩ : ∃ C, H2.objs.size = C := ⟨_, rfl⟩
  obtain ⟨K, hKe⟩ : ∃ K, H2.objs.size + 1 = K := ⟨_, rfl⟩
  have eCD : C = D + 1 := by rw [← hCe, ← hDe]; exact hC
  have eKC : K = C + 1 := by rw [← hKe, hCe]
  have up4 : ∀ b o, H3.get? b = some o → H4.get? b = some o := fun b o e => hH4 ▸ Heap.get?_push_of_some _ e
  have up3 : ∀ b o, H2.get? b = some o → H3.get? b = some o := fun b o e => hH3 ▸ Heap.get?_push_of_some _ e
  have old : ∀ b o, s₂.heap.get? b = some o → H4.get? b = some o := fun b o e => up4 b o (up3 b o (hH2 ▸ Heap.get?_push_of_some _ e))
  have hacc : H4.get? D = some (LCg.lst []) := hDe ▸ up4 _ _ (up3 _ _ (hH2 ▸ Heap.get?_push_size _ rfl))
  have hnsC : H4.Ns C (fun _ => none) := by
    have h3 : H3.Ns H2.objs.size (fun _ => none) := hH3 ▸ Heap.Ns.new H2 (.type "dict")
    exact hCe ▸ h3.keeps up4
  have hcK : H4.get? K = some { cls := .type "cell", data := .cell none } := by
    have e : H4.get? H3.objs.size = some { cls := .type "cell", data := .cell none } := hH4 ▸ Heap.get?_push_size _ rfl
    rw [hK, hKe] at e
    exact e
  rw [hDe, hCe, show C + 1 = K from eKC.symm]
  have ltD : ∀ b, b < s₂.heap.objs.size → b < D := fun b hb => hDe ▸ hb
  have fresh : ∀ a, D ≤ a → s₂.heap.get? a = none := fun a ha => by
    cases e : s₂.heap.get? a with
    | none => rfl
    | some o' => exact absurd (ltD _ (Heap.lt_size e)) (Nat.not_lt.mpr ha)
  have fresh₀ : ∀ a, D ≤ a → h₀.get? a = none := fun a ha => by
    cases e : h₀.get? a with
    | none => rfl
    | some o' => have := F.keep a o' e; rw [fresh a ha] at this; cases this
  have hDC : D ≤ C := by rw [eCD]; exact Nat.le_succ _
  have hDK : D ≤ K := by rw [eKC]; exact Nat.le_trans hDC (Nat.le_succ _)
  have hD₀ := fresh₀ D (Nat.le_refl _)
  have hC₀ := fresh₀ C hDC
  have hK₀ := fresh₀ K hDK
  have nCD : C ≠ D := by rw [eCD]; exact Nat.ne_of_gt (Nat.lt_succ_self _)
  have nKC : K ≠ C := by rw [eKC]; exact Nat.ne_of_gt (Nat.lt_succ_self _)
  have nKD : K ≠ D := by rw [eKC, eCD]; exact Nat.ne_of_gt (Nat.lt_succ_of_lt (Nat.lt_succ_self _))
  have below : ∀ b, b < s₂.heap.objs.size → b ≠ D ∧ b ≠ C ∧ b ≠ K := fun b hb => by
    have := ltD b hb
    exact ⟨Nat.ne_of_lt this, Nat.ne_of_lt (Nat.lt_of_lt_of_le this hDC), Nat.ne_of_lt (Nat.lt_of_lt_of_le this hDK)⟩
  have hIlt : I < s₂.heap.objs.size := hfp I (W.sub I (List.mem_singleton.mpr rfl))
  have hLlt : L < s₂.heap.objs.size := F.ns.lt
  obtain ⟨hLD, hLC, hLK⟩ := below L hLlt
  obtain ⟨hID, hIC, hIK⟩ := below I hIlt
  have offN : ∀ q ∈ news, q.1 ≠ D ∧ q.1 ≠ C ∧ q.1 ≠ K := fun q hq => below _ (Heap.lt_size (N q hq).1)
  have ltN' : ∀ q ∈ news, q.1 < D := fun q hq => ltD _ (Heap.lt_size (N q hq).1)
  have hDf : D ∉ fp := fun hm => Nat.lt_irrefl _ (ltD _ (hfp _ hm))
  have hKf : K ∉ fp := fun hm => absurd (ltD _ (hfp _ hm)) (Nat.not_lt.mpr hDK)
  have hst4 : St 0 H4 := W.frame _ _ _ hst fun b _ o e => old b o e
  have hkc : (compEnvC scope ((x, K) :: cl) C env).kindOf x = some .cell := by
    show List.lookup x (relabel scope env).names = some NameKind.cell
    unfold relabel
    rw [hnm]
    simp only [cellNames, List.map_cons, List.map_nil]
    rw [List.lookup_cons]
    have e1 : (NameKind.local == NameKind.free) = false := by decide
    have e2 : (NameKind.cell == NameKind.free) = false := by decide
    simp only [e1, e2, Bool.false_and, Bool.false_eq_true, if_false, hx0]
    rw [List.lookup_cons]
    simp
  have loop : ∀ s₃ : Shared, s₃ = { s₂ with heap := H4 } →
      codeAny (model prog w) A (.compLoop (.ListComp elt [⟨.Name x px, iter, [ct], 0⟩] scope pos) 0 (.ref I) (.ref D) (compEnvC scope ((x, K) :: cl) C env)) (RR (.ref D) C) s₃ := by
    rintro s₃ rfl
    refine codeAny_compLoop_tests
      (fun k s' => ∃ h' tk i ys oK vK, s' = { s₂ with heap := h', toks := tk } ∧ i ≤ n ∧ k = n + 1 - i ∧ ys.length ≤ i ∧ St i h' ∧ Fr h₀ L h' m ∧ h'.Ns C (fun _ => none) ∧ oK.data = Data.cell vK ∧ News h₀ L h' ((K, oK) :: (D, LCg.lst ys) :: news) ∧ IntsAre ys ((ns.take i).filter p)) ?_ (n + 1)
      ⟨H4, s₂.toks, 0, [], { cls := .type "cell", data := .cell none }, none, rfl, Nat.zero_le _, rfl, Nat.le_refl _, hst4, F.keeps old, hnsC, rfl, fun q hq => ?_, .nil⟩
    · rintro k s' ⟨h', tk, i, ys, oK, vK, rfl, hi, rfl, hyl, hst', F', hn', hdK, N', hys⟩
      have inK := (N' (K, oK) List.mem_cons_self).1
      have zD' := (N' (D, LCg.lst ys) (.tail _ (.head _))).1
      have nws : ∀ q ∈ news, h'.get? q.1 = some q.2 := fun q hq => (N' q (.tail _ (.tail _ hq))).1
      by_cases hlt : i < n
      · refine W.item i _ _ _ hlt hst' fun v h₂ tk₂ hPv hst₂ hk₂ => ?_
        obtain ⟨kk, t, hkk, rfl⟩ := hP i v hlt hPv
        have keepI : ∀ b o, b ≠ I → h'.get? b = some o → h₂.get? b = some o := fun b o hb e => hk₂ b o (by simpa using hb) e
        refine wpAny_assign_Name (wpAny_storeName_cell (by simp [compEnvC, relabel, hkind]) hkc (c := K) (by simp [compEnvC]) ⟨oK, keepI _ _ (Ne.symm hIK) inK, hdK⟩ fun h₃ hv₃ hs₃ => ?_)
        refine wpAny_tests_one ?_
        obtain ⟨oK', hoK', hdK'⟩ := hv₃
        have hst₃ : St (i + 1) h₃ := W.frame _ _ _ hst₂ fun b hb o e => hs₃.extBut b o (fun q => hKf (q ▸ hb)) e
        obtain ⟨oI, heI⟩ := hIo _ _ hst₃
        have hnC₃ : h₃.Ns C (fun _ => none) := (hn'.at' fun o e => keepI C o (Ne.symm hIC) e).sameBut hs₃ (Ne.symm nKC)
        obtain ⟨oC, heC, hoC⟩ := LCg.ns_obj hnC₃
        have F₃ : Fr h₀ L h₃ m := (LCg.fr_but F' hk₂ hIL hI₀).change hs₃ (Ne.symm hLK) hK₀
        have N₃ : News h₀ L h₃ ((I, oI) :: (C, oC) :: (K, oK') :: (D, LCg.lst ys) :: news) := fun q hq => by
          rcases List.mem_cons.mp hq with rfl | hq
          · exact ⟨heI, Ne.symm hIL, hI₀⟩
          rcases List.mem_cons.mp hq with rfl | hq
          · exact ⟨heC, Ne.symm hLC, hC₀⟩
          rcases List.mem_cons.mp hq with rfl | hq
          · exact ⟨hoK', Ne.symm hLK, hK₀⟩
          rcases List.mem_cons.mp hq with rfl | hq
          · exact ⟨hs₃.extBut _ _ (Ne.symm nKD) (keepI _ _ (Ne.symm hID) zD'), Ne.symm hLD, hD₀⟩
          · exact ⟨hs₃.extBut _ _ (offN q hq).2.2 (keepI _ _ (off q hq) (nws q hq)), (N q hq).2⟩
        have hs : (ns.take (i + 1)).filter p = (ns.take i).filter p ++ (if p kk then [kk] else []) := by
          rw [List.take_add_one, hkk, List.filter_append]
          cases hpk : p kk <;> simp [hpk]
        refine wpAny_mono (turn kk t I oI C oC K oK' D ys h₃ _ _ hdK' F₃ N₃ (fun q hq => ⟨off q hq, (offN q hq).2.1, (offN q hq).2.2, (offN q hq).1⟩) ⟨hIC, hIK, hID, Ne.symm nKC, nCD, nKD⟩) (fun ok s₄ h₄ => ?_) fun _ _ e => e
        cases ok with
        | true =>
          simp only [if_true] at h₄ ⊢
          refine wpAny_mono h₄ (fun y s₅ h₅ => ?_) fun _ _ e => e
          obtain ⟨⟨hpk, t', rfl⟩, h₄, tk₄, rfl, F₄, N₄⟩ := h₅
          have zI := (N₄ (I, oI) (.head _)).1
          have zC := (N₄ (C, oC) (.tail _ (.head _))).1
          have zK := (N₄ (K, oK') (.tail _ (.tail _ (.head _)))).1
          have zD := (N₄ (D, LCg.lst ys) (.tail _ (.tail _ (.tail _ (.head _))))).1
          have N₄' : News h₀ L h₄ news := fun q hq => N₄ q (.tail _ (.tail _ (.tail _ (.tail _ hq))))
          have hst₄ : St (i + 1) h₄ := hSt _ _ _ _ hst₃ heI zI F₄ N₄'
          refine append_at (hsz := by show ys.toArray.size ≤ sizeLine; rw [List.size_toArray]; exact Nat.le_trans (Nat.le_trans hyl hi) hsz) zD fun h₅ hs₅ hD₅ => ?_
          refine ⟨n + 1 - (i + 1), by omega, h₅, tk₄, i + 1, ys ++ [.int kk t'], oK', _, rfl, hlt, rfl, by rw [List.length_append, List.length_singleton]; exact Nat.succ_le_succ hyl, W.frame _ _ _ hst₄ fun b hb o e => hs₅.extBut b o (fun q => hDf (q ▸ hb)) e, F₄.change hs₅ (Ne.symm hLD) hD₀,
            (hoC.ns zC).sameBut hs₅ nCD, hdK', fun q hq => ?_, ?_⟩
          · rcases List.mem_cons.mp hq with rfl | hq
            · exact ⟨hs₅.extBut _ _ nKD zK, Ne.symm hLK, hK₀⟩
            rcases List.mem_cons.mp hq with rfl | hq
            · exact ⟨hD₅.trans (congrArg some (LCg.lst_snoc ys _)), Ne.symm hLD, hD₀⟩
            · exact ⟨hs₅.extBut _ _ (offN q hq).1 (N₄' q hq).1, (N₄' q hq).2⟩
          · rw [hs, hpk]
            exact IntsAre.append hys (.cons kk t' .nil)
        | false =>
          simp only [Bool.false_eq_true, if_false] at h₄ ⊢
          obtain ⟨hpk, h₄, tk₄, rfl, F₄, N₄⟩ := h₄
          have zI := (N₄ (I, oI) (.head _)).1
          have zC := (N₄ (C, oC) (.tail _ (.head _))).1
          have N₄' : News h₀ L h₄ news := fun q hq => N₄ q (.tail _ (.tail _ (.tail _ (.tail _ hq))))
          have hst₄ : St (i + 1) h₄ := hSt _ _ _ _ hst₃ heI zI F₄ N₄'
          refine ⟨n + 1 - (i + 1), by omega, h₄, tk₄, i + 1, ys, oK', _, rfl, hlt, rfl, Nat.le_succ_of_le hyl, hst₄, F₄, hoC.ns zC, hdK', fun q hq => N₄ q (.tail _ (.tail _ hq)), ?_⟩
          rw [hs, hpk]
          simpa using hys
      · obtain rfl : i = n := Nat.le_antisymm hi (Nat.not_lt.mp hlt)
        refine W.done _ _ _ hst' fun h₂ tk₂ hk₂ => ?_
        have keepI : ∀ b o, b ≠ I → h'.get? b = some o → h₂.get? b = some o := fun b o hb e => hk₂ b o (by simpa using hb) e
        have e : ns.take i = ns := by rw [← hlen, List.take_length]
        rw [e] at hys
        refine hRR D C h₂ tk₂ _ ys (LCg.fr_but F' hk₂ hIL hI₀) (fun q hq => ?_) ltN' (hn'.at' fun o e => keepI C o (Ne.symm hIC) e) hC₀ hD₀ (Ne.symm hLC) (Ne.symm hLD) nCD (fun q hq => (offN q hq).2.1) hys
        rcases List.mem_cons.mp hq with rfl | hq
        · exact ⟨keepI _ _ (Ne.symm hID) zD', Ne.symm hLD, hD₀⟩
        · exact ⟨keepI _ _ (off q hq) (nws q hq), (N q hq).2⟩
    · rcases List.mem_cons.mp hq with rfl | hq
      · exact ⟨hcK, Ne.symm hLK, hK₀⟩
      rcases List.mem_cons.mp hq with rfl | hq
      · exact ⟨hacc, Ne.symm hLD, hD₀⟩
      · exact ⟨old _ _ (N q hq).1, (N q hq).2⟩
  exact codeAny_compStart_list (loop _ rfl) (W.self 0 _ _ _ hst4 (loop _ rfl))
theorem assign_cell {ct elt iter : PySem.Expr} {x y a b : Str} {px py : Pos} {scope : Scope} {cl : List (Str × Addr)} {pos spos : Pos} {Q : Flow → Shared → Prop} {ax : Addr} {vs : List Value} {k : Nat} {ns : List Int} {news : List (Addr × Obj)} (p : Int → Bool)
    (hnm : scope.names = cellNames x a b) (hx0 : (x == (".0" : Str)) = false) (hLe : env.locals = L)
    (hsw : swapsWith (.ListComp elt [⟨.Name x px, iter, [ct], 0⟩] scope pos) (some (.Name y py)) spos.line env = pure true)
    (hclos : closureFor scope env = pure cl) (hkind : scope.kind = .function)
    (hnames : ∀ z ∈ scope.names, z.2 = .local → scope.names.lookup z.1 = some .local)
    (hy : env.kindOf y = some .local) (hp : (env.scope.kind == .class || (env.scope.kind == .module && env.locals != env.globals)) = false)
    (hh : A.handled = none) (F : Fr h₀ L s.heap m) (N : News h₀ L s.heap news) (hm : (ax, ({ cls := .type "list", data := .seq vs.toArray k } : Obj)) ∈ news) (hi : IntsAre vs ns) (hsz : vs.length ≤ sizeLine)
    (hiter : ∀ Q' E', Q' (.ref ax) s → wpAny (model prog w) A (eval iter env) Q' E' s)
    (turn : ∀ k t I oI C oC K oK D ys h tk (E' : Value → Shared → Prop), oK.data = .cell (some (.int k t)) → Fr h₀ L h m → News h₀ L h ((I, oI) :: (C, oC) :: (K, oK) :: (D, LCg.lst ys) :: news) → CellOff I C K D news →
      ((@Ne Nat I C) ∧ (@Ne Nat I K) ∧ (@Ne Nat I D) ∧ (@Ne Nat C K) ∧ (@Ne Nat C D) ∧ (@Ne Nat K D)) →
      wpAny (model prog w) A (isTrue ct (compEnvC scope ((x, K) :: cl) C env) (eval ct (compEnvC scope ((x, K) :: cl) C env))) (fun ok s' => if ok = true then
        wpAny (model prog w) A (eval elt (compEnvC scope ((x, K) :: cl) C env)) (TurnYes h₀ L m { s with heap := h, toks := tk } ((I, oI) :: (C, oC) :: (K, oK) :: (D, LCg.lst ys) :: news) p k) E' s'
        else TurnNo h₀ L m { s with heap := h, toks := tk } ((I, oI) :: (C, oC) :: (K, oK) :: (D, LCg.lst ys) :: news) p k s') E' { s with heap := h, toks := tk })
    (fin : ∀ D ys h' tk', Fr h₀ L h' (fun z => if z = y then some (.ref D) else m z) → News h₀ L h' ((D, LCg.lst ys) :: news) → (∀ p ∈ news, p.1 < D) → IntsAre ys (ns.filter p) → Q .next { s with heap := h', toks := tk' })
    (hs : ∀ x, foldedSetIterable iter env x = pure x := by intro _; rfl) :
    wpAny (model prog w) A (exec (.Assign [.Name y py] (.ListComp elt [⟨.Name x px, iter, [ct], 0⟩] scope pos) spos) env) Q E s := by
  subst hLe
  rw [exec_Assign_Name_used _ _ _ _ hsw]
  refine wpAny_bind (wpAny_standAt (wpAny_bind ?_))
  show wpAny _ A (do let _ ← comprehension (.ListComp elt [⟨.Name x px, iter, [ct], 0⟩] scope pos) scope env _ (newList []) false (eval iter env) (some (assign (.Name y py) env))) _ _ s
  refine wpAny_bind (wpAny_mono (wpAny_comprehension_free (use := some (assign (.Name y py) env)) (Q := fun _ s' => Q .next s') rfl hs hclos hkind hnames
    (hiter _ _ ?_)) (fun _ s' hq => wpAny_pure (wpAny_pure hq)) fun _ _ e => e)
  have hl : s.heap.IsList ax vs.toArray := ⟨_, (N _ hm).1, rfl, _, rfl⟩
  have hlt : ax < s.heap.objs.size := Heap.lt_size (N _ hm).1
  refine wpAny_pyIter_list hl ?_
  have up : ∀ b o, s.heap.get? b = some o → (s.heap.push { cls := .type "list_iterator", data := .fields #[.ref ax, .int 0 0] }).get? b = some o := fun b o e => Heap.get?_push_of_some _ e
  refine block_cell (ns := ns) p (Walks.list hh s.heap.objs.size ax (Nat.ne_of_lt hlt) vs.toArray) (by rw [List.size_toArray]; exact hsz) (fun i h st => by obtain ⟨o, e, _⟩ := st.1; exact ⟨o, e⟩)
    (fun i h h' o st e e' F' N' => ?_) hnm hx0 hkind ⟨⟨_, Heap.get?_push_size _ rfl, rfl, rfl⟩, hl.push _⟩ (fun b hb => ?_)
    (fun i v _ hv => ?_) (by rw [List.size_toArray]; exact hi.length.symm) (F.keeps up) (N.grown up) (Nat.ne_of_lt F.ns.lt) (next_is_new F) (fun p hp => Nat.ne_of_lt (Heap.lt_size (N p hp).1))
    (fun k t I oI C oC K oK D ys h tk E' => turn k t I oI C oC K oK D ys h tk E') ?_
  · obtain ⟨⟨o', e1, r⟩, l⟩ := st
    rw [e] at e1; cases e1
    exact ⟨⟨o, e', r⟩, ⟨_, (N' _ hm).1, rfl, _, rfl⟩⟩
  · show b < (s.heap.push _).objs.size
    rw [Heap.size_push]
    rcases List.mem_cons.mp hb with rfl | hb
    · exact Nat.lt_succ_self _
    · rw [List.mem_singleton.mp hb]; exact Nat.lt_succ_of_lt hlt
  · obtain ⟨k', t, e, hk⟩ := IntsAre.at hi i v (by simpa using hv)
    exact ⟨k', t, hk, e⟩
  · intro D C h' tk m' ys F' N' lD hn hC₀ hD₀ hCL hDL hCD offC hys
    show wpAny _ A (assign (.Name y py) env (.ref D)) _ _ _
    refine wpAny_assign_Name (wpAny_storeName_local hy F'.ns (fun h₂ hn₂ hs₂ => ?_) hp)
    have hL₀ : h₀.get? env.locals = none := Heap.get?_none_of_le F'.above
    have F₂ : Fr h₀ env.locals h₂ (fun z => if z = y then some (.ref D) else m z) := ⟨hn₂, fun b o e => hs₂.extBut b o (fun q => by rw [q, hL₀] at e; cases e) (F'.keep b o e), F'.above⟩
    refine ⟨m', hn.sameBut hs₂ hCL, fun h'' hs'' => fin D ys h'' _ (F₂.change hs'' hCL hC₀) (fun p hp => ?_) lD hys⟩
    have z : h₂.get? p.1 = some p.2 := hs₂.extBut _ _ (N' p hp).2.1 (N' p hp).1
    refine ⟨hs''.extBut _ _ ?_ z, (N' p hp).2⟩
    rcases List.mem_cons.mp hp with rfl | hp
    · exact Ne.symm hCD
    · exact offC p hp
end
end Mine
namespace Mine
open PySem.Calls
theorem sq_row {ys : List Value} (h : IntsAre ys (List.map (fun k' => k' * k') (rangeKs 0 (9 - 0 : Int).toNat))) : ∃ t0 t1 t2 t3 t4 t5 t6 t7 t8 : Tok, ys = [.int 0 t0, .int 1 t1, .int 4 t2, .int 9 t3, .int 16 t4, .int 25 t5, .int 36 t6, .int 49 t7, .int 64 t8] := by
  have e : List.map (fun k' => k' * k') (rangeKs 0 (9 - 0 : Int).toNat) = [0, 1, 4, 9, 16, 25, 36, 49, 64] := by decide +kernel
  rw [e] at h
  cases h with | cons _ t0 h => cases h with | cons _ t1 h => cases h with | cons _ t2 h => cases h with | cons _ t3 h => cases h with | cons _ t4 h => cases h with | cons _ t5 h => cases h with | cons _ t6 h => cases h with | cons _ t7 h => cases h with | cons _ t8 h => cases h with | nil => exact ⟨t0, t1, t2, t3, t4, t5, t6, t7, t8, rfl⟩
def tup2 (i j : Int) (t1 t2 : Tok) : Obj := { cls := .type "tuple", data := .seq (List.toArray [Value.int i t1, Value.int j t2]) }
/-- the pairs so far: each a tuple in PR -/
def PairsIn (pv : List Value) (PR : List (Addr × Obj)) : Prop := (∀ v ∈ pv, ∃ D i j t1 t2, v = .ref D ∧ (D, tup2 i j t1 t2) ∈ PR ∧ (0 ≤ i ∧ i < 10) ∧ (0 ≤ j ∧ j < 10)) ∧ ∀ q ∈ PR, ∃ i j t1 t2, q.2 = tup2 i j t1 t2
section
variable {prog : Program} {w : World} {A : Around} {E : Value → Shared → Prop} {s : Shared} {env : Env} {h₀ : Heap} {target : PySem.Expr} {body : List Stmt} {Q : Flow → Shared → Prop}
theorem turns_ind {ws : List (Addr × String)} {keep : List (Addr × Obj)} (R : List Value → (Str → Option Value) → List (Addr × Obj) → Prop)
    (fin : ∀ m news, R [] m news → ItemsRest prog w A E h₀ env target body Q s ws keep [] m news)
    (turn : ∀ v r m news, R (v :: r) m news → (∀ m' news', R r m' news' → ItemsRest prog w A E h₀ env target body Q s ws keep (r.map .val) m' news') → ItemsRest prog w A E h₀ env target body Q s ws keep (.val v :: r.map .val) m news) :
    ∀ (vs : List Value) m news, R vs m news → ItemsRest prog w A E h₀ env target body Q s ws keep (vs.map .val) m news
  | [], m, news, h => fin m news h
  | v :: r, m, news, h => turn v r m news h fun m' news' h' => turns_ind R fin turn r m' news' h'
end
def Plain (o : Obj) : Prop := ∀ vs, o.data ≠ .fields vs
theorem tail_fields {tl : List (Addr × Obj)} (h : TailSt tl) : ∀ r ∈ tl, ∃ vs, r.2.data = .fields vs := by
  obtain ⟨ps1, ps2, cz1, cz2, rfl, hst⟩ := h
  have hc : ∀ {ln col q ps cz}, TabSt ln col q ps cz → ∀ r ∈ cz, ∃ vs, r.2.data = Data.fields vs := by
    intro ln col q ps cz ht r hr
    rcases ht with ⟨_, rfl⟩ | ⟨c, oc, vs, t, _, rfl, hd, _⟩
    · cases hr
    · rw [List.mem_singleton.mp hr]; exact ⟨vs, hd⟩
  intro r hr
  simp only [List.mem_cons, List.mem_append, List.not_mem_nil, or_false] at hr
  rcases hr with rfl | rfl | hr | hr
  · exact ⟨_, rfl⟩
  · exact ⟨_, rfl⟩
  · exact hc hst.t1 r hr
  · exact hc hst.t2 r hr
theorem apart_of {h₀ h : Heap} {L : Addr} {led pre tl : List (Addr × Obj)} (N : News h₀ L h led) (hend : EndsIn tl led pre) (ht : TailSt tl) (hp : ∀ q ∈ pre, Plain q.2 ∨ ∀ r ∈ tl, q.1 ≠ r.1) : Apart pre tl := by
  intro q hq r hr e
  have hle := hend.eq
  rcases hp q hq with h | h
  · obtain ⟨vs, hv⟩ := tail_fields ht r hr
    have e1 := (N q (hle ▸ List.mem_append_left _ hq)).1
    have e2 := (N r (hle ▸ List.mem_append_right _ hr)).1
    rw [e] at e1
    have := Option.some.inj (e1.symm.trans e2)
    exact h vs (this ▸ hv)
  · exact h r hr e
/-- what stands in the ledger as a cell lies apart from what is none -/
theorem off_cell {h₀ h : Heap} {L c : Addr} {o : Obj} {v : Option Value} {led : List (Addr × Obj)} (N : News h₀ L h led) (hm : (c, o) ∈ led) (hd : o.data = .cell v) {q : Addr × Obj} (hq : q ∈ led) (hn : ∀ v, q.2.data ≠ .cell v) : q.1 ≠ c := by
  intro e
  have e1 := (N q hq).1
  have e2 := (N _ hm).1
  rw [e] at e1
  have := Option.some.inj (e1.symm.trans e2)
  exact hn v (this ▸ hd)
theorem law_offs {h₀ h : Heap} {L I Dws lp Dsq C2 C1 : Addr} {oI oW oSq oN oS : Obj} {pv : List Value} {k : Nat} {PR tl : List (Addr × Obj)} {vN : Option Value}
    (N : News h₀ L h ((I, oI) :: (Dws, oW) :: (lp, W.listOf pv.toArray k) :: (Dsq, oSq) :: (C2, oN) :: (C1, oS) :: (PR ++ tl))) (hd : oN.data = .cell vN) (hp : PairsIn pv PR) (ht : TailSt tl) :
    (∀ p ∈ PR ++ tl, p.1 ≠ C2) ∧ @Ne Nat lp C2 := by
  have hm : (C2, oN) ∈ (I, oI) :: (Dws, oW) :: (lp, W.listOf pv.toArray k) :: (Dsq, oSq) :: (C2, oN) :: (C1, oS) :: (PR ++ tl) := by simp
  refine ⟨fun p hq => ?_, off_cell (q := (lp, W.listOf pv.toArray k)) N hm hd (by simp) (by intro v h; cases h)⟩
  refine off_cell N hm hd (by simp only [List.mem_cons]; exact .inr (.inr (.inr (.inr (.inr (.inr hq)))))) ?_
  rcases List.mem_append.mp hq with h | h
  · obtain ⟨i, j, t1, t2, e⟩ := hp.2 p h
    rw [e]; intro v h; cases h
  · obtain ⟨vs, e⟩ := tail_fields ht p h
    rw [e]; intro v h; cases h
def LawR (I Dws Dsq C1 C2 : Addr) (oW oSq oS : Obj) (vs : List Value) (m : Str → Option Value) (news : List (Addr × Obj)) : Prop :=
  ∃ (ns : List Int) (pv : List Value) (k : Nat) (lp : Addr) (oN : Obj) (PR tl : List (Addr × Obj)), IntsAre vs ns ∧ vs.length + pv.length ≤ 2 ∧ PairsIn pv PR ∧ m "pairs" = some (.ref lp) ∧ (∃ vN, oN.data = .cell vN) ∧
    news = (Dws, oW) :: (lp, W.listOf pv.toArray k) :: (Dsq, oSq) :: (C2, oN) :: (C1, oS) :: (PR ++ tl) ∧ TailSt tl ∧ ∀ r ∈ tl, @Ne Nat I r.1
def ML (lp : Addr) (u : Str → Option Value) : Str → Option Value := fun z => if z = "pairs" then some (.ref lp) else u z
theorem ML_eq {lp : Addr} {m : Str → Option Value} (h1 : m "pairs" = some (.ref lp)) : ML lp m = m := by
  funext z
  unfold ML
  split
  · rename (_ = _) => e; rw [e, h1]
  · rfl
theorem law_start {h₀ h : Heap} {L : Addr} {x y z u v r a b : Addr × Obj} (N : News h₀ L h [x, y, z, u, v, r, a, b]) : News h₀ L h (x :: z :: u :: v :: r :: ([] ++ (b :: a :: ([] ++ ([] ++ []))))) := fun q hq => N q (by
  simp only [List.nil_append, List.append_nil, List.mem_cons, List.not_mem_nil, or_false] at hq ⊢
  rcases hq with h | h | h | h | h | h | h <;> simp [h])
theorem tail_start : TailSt ((30, tabObj #[]) :: (37, tabObj #[]) :: ([] ++ ([] ++ []))) := by
  refine ⟨_, _, [], [], rfl, .inl ⟨rfl, rfl⟩, .inl ⟨rfl, rfl⟩, ?_, ?_, ?_, ?_, ?_⟩ <;> intro q hq <;> cases hq
def sqs : List Int := [0, 1, 4, 9, 16, 25, 36, 49, 64]
def p1 (n x : Int) : Bool := decide (x ≤ n)
def p3 (n x : Int) : Bool := decide (x ≤ n) && (two (n - x)).isSome
def p5 (n x y : Int) : Bool := decide (y ≤ n - x) && (two (n - x - y)).isSome
def p4 (n x : Int) : Bool := decide (x ≤ n) && !(decide (sqs.filter (p5 n x) = []))
def pk (n k : Int) : Bool := decide (k * k = n)
def FYes (p : Int → Bool) (k : Int) (news news' : List (Addr × Obj)) (y : Value) : Prop := news' = news ∧ p k = true ∧ ∃ t, y = .int k t
def FNo (p : Int → Bool) (k : Int) (news news' : List (Addr × Obj)) : Prop := news' = news ∧ p k = false
theorem row_ints (t0 t1 t2 t3 t4 t5 t6 t7 t8 : Tok) : IntsAre [Value.int 0 t0, Value.int 1 t1, Value.int 4 t2, Value.int 9 t3, Value.int 16 t4, Value.int 25 t5, Value.int 36 t6, Value.int 49 t7, Value.int 64 t8] sqs :=
  .cons _ _ (.cons _ _ (.cons _ _ (.cons _ _ (.cons _ _ (.cons _ _ (.cons _ _ (.cons _ _ (.cons _ _ .nil))))))))
section
variable {prog : Program} {w : World} {A : Around} {h₀ : Heap} {L : Addr} {m : Str → Option Value} {env : Env} {ct elt : PySem.Expr} {x : Str} {scope : Scope} {cl : List (Str × Addr)} {s : Shared} {S : List (Addr × Obj) → Prop} {P : Nat → Value → Prop} {Fin : List Value → List (Addr × Obj) → Prop} {news : List (Addr × Obj)}
theorem comp_filt {n : Nat} {ks : List Int} (p : Int → Bool) (hks : ks.length = n) (hP : ∀ i v, i < n → P i v → ∃ k t, ks[i]? = some k ∧ v = .int k t)
    (turn : ∀ k t I oI C oC D m₂ ys h tk (E' : Value → Shared → Prop), k ∈ ks → LCg.NsObj oC m₂ → m₂ x = some (.int k t) → Fr h₀ L h m → News h₀ L h ((I, oI) :: (C, oC) :: (D, LCg.lst ys) :: news) → LCg.Off3 I C D news → ((@Ne Nat I C) ∧ (@Ne Nat I D) ∧ (@Ne Nat C D)) →
      wpAny (model prog w) A (isTrue ct (compEnvC scope cl C env) (eval ct (compEnvC scope cl C env))) (fun b s' => if b = true then wpAny (model prog w) A (eval elt (compEnvC scope cl C env)) (LCg.CompEnd h₀ L m { s with heap := h, toks := tk } I oI C oC D (LCg.lst ys) S (fun y news' => FYes p k news news' y)) E' s'
        else LCg.CompEnd h₀ L m { s with heap := h, toks := tk } I oI C oC D (LCg.lst ys) S (fun _ news' => FNo p k news news') Value.none s') E' { s with heap := h, toks := tk })
    (fin : ∀ ys, IntsAre ys (ks.filter p) → Fin ys news) : LCt.CompRestT prog w A h₀ L m env ct elt x scope cl s S P Fin n 0 [] news := by
  have key : ∀ (j i : Nat) (ys : List Value), i + j = n → IntsAre ys ((ks.take i).filter p) → LCt.CompRestT prog w A h₀ L m env ct elt x scope cl s S P Fin j i ys news := by
    intro j
    induction j with
    | zero =>
      intro i ys hi hy
      have e : i = ks.length := by omega
      subst e
      rw [List.take_length] at hy
      exact LCt.CompRestT.zero (fin ys hy)
    | succ j ih =>
      intro i ys hi hy
      refine LCt.CompRestT.succ ?_
      intro v I oI C oC D m₂ h tk E' hv hC hx F N off ne
      obtain ⟨k, t, hk, hv'⟩ := hP i v (by omega) hv
      rw [hv'] at hx
      have hs : (ks.take (i + 1)).filter p = (ks.take i).filter p ++ (if p k then [k] else []) := by
        rw [List.take_add_one, hk, List.filter_append]
        cases hpk : p k <;> simp [hpk]
      refine wpAny_mono (turn k t I oI C oC D m₂ ys h tk E' (List.mem_of_getElem? hk) hC hx F N off ne) (fun b s₂ hq => ?_) fun _ _ e => e
      cases b with
      | true =>
        simp only [if_true] at hq ⊢
        refine wpAny_mono hq (fun y s₃ hr => ?_) fun _ _ e => e
        obtain ⟨h', tk', nw, e, F', N', off', hS, rfl, hp, t', rfl⟩ := hr
        refine ⟨h', tk', _, e, F', N', off', hS, ih (i + 1) _ (by omega) ?_⟩
        rw [hs, hp]
        exact IntsAre.append hy (.cons k t' .nil)
      | false =>
        simp only [Bool.false_eq_true, if_false] at hq ⊢
        obtain ⟨h', tk', nw, e, F', N', off', hS, rfl, hp⟩ := hq
        refine ⟨h', tk', _, e, F', N', off', hS, ih (i + 1) _ (by omega) ?_⟩
        rw [hs, hp]
        simpa using hy
  exact key n 0 [] (by omega) .nil
end
section
variable {prog : Program} {w : World} {A : Around} {E : Value → Shared → Prop} {s : Shared} {h₀ : Heap} {L : Addr} {m : Str → Option Value} {env : Env} {ct elt : PySem.Expr} {x : Str} {scope : Scope} {cl : List (Str × Addr)} {news : List (Addr × Obj)} {s₁ : Shared}
theorem src_row {Fin : Shared → List Value → List (Addr × Obj) → Prop} {ax : Addr} {t0 t1 t2 t3 t4 t5 t6 t7 t8 : Tok} {k : Nat} (p : Int → Bool)
    (hh : A.handled = none) (F : Fr h₀ L s₁.heap m) (N : News h₀ L s₁.heap news)
    (hm : (ax, ({ cls := .type "list", data := .seq (List.toArray [Value.int 0 t0, Value.int 1 t1, Value.int 4 t2, Value.int 9 t3, Value.int 16 t4, Value.int 25 t5, Value.int 36 t6, Value.int 49 t7, Value.int 64 t8]) k } : Obj)) ∈ news)
    (turn : ∀ k' t I oI C oC D m₂ ys h tk (E' : Value → Shared → Prop), k' ∈ sqs → LCg.NsObj oC m₂ → m₂ x = some (.int k' t) → Fr h₀ L h m → News h₀ L h ((I, oI) :: (C, oC) :: (D, LCg.lst ys) :: news) → LCg.Off3 I C D news → ((@Ne Nat I C) ∧ (@Ne Nat I D) ∧ (@Ne Nat C D)) →
      wpAny (model prog w) A (isTrue ct (compEnvC scope cl C env) (eval ct (compEnvC scope cl C env))) (fun b s' => if b = true then wpAny (model prog w) A (eval elt (compEnvC scope cl C env)) (LCg.CompEnd h₀ L m { s₁ with heap := h, toks := tk } I oI C oC D (LCg.lst ys) (LCg.SrcAt h₀ ax (List.toArray [Value.int 0 t0, Value.int 1 t1, Value.int 4 t2, Value.int 9 t3, Value.int 16 t4, Value.int 25 t5, Value.int 36 t6, Value.int 49 t7, Value.int 64 t8])) (fun y news' => FYes p k' news news' y)) E' s'
        else LCg.CompEnd h₀ L m { s₁ with heap := h, toks := tk } I oI C oC D (LCg.lst ys) (LCg.SrcAt h₀ ax (List.toArray [Value.int 0 t0, Value.int 1 t1, Value.int 4 t2, Value.int 9 t3, Value.int 16 t4, Value.int 25 t5, Value.int 36 t6, Value.int 49 t7, Value.int 64 t8])) (fun _ news' => FNo p k' news news') Value.none s') E' { s₁ with heap := h, toks := tk })
    (fin : ∀ g ys, IntsAre ys (sqs.filter p) → Fin { s₁ with heap := g } ys news) : LCt.CompSrcT prog w A h₀ L m env ct elt x scope cl Fin (.ref ax) s₁ := by
  refine LCt.CompSrcT.ledger hh F N hm (Nat.le_of_ble_eq_true rfl) fun g => ?_
  refine comp_filt (ks := sqs) p rfl (fun i v _ hv => ?_) (fun k' t I oI C oC D m₂ ys h tk E' => turn k' t I oI C oC D m₂ ys h tk E') (fin g)
  obtain ⟨k', t, e, hk⟩ := IntsAre.at (row_ints t0 t1 t2 t3 t4 t5 t6 t7 t8) i v (by simpa using hv)
  exact ⟨k', t, hk, e⟩
theorem filt_yes {p : Int → Bool} {k : Int} {t : Tok} {I C D : Addr} {oI oC oD : Obj} {all : List (Addr × Obj)} {S : List (Addr × Obj) → Prop} {h' : Heap} {tk : Nat} (F : Fr h₀ L h' m) (N : News h₀ L h' all) (off : LCg.Off3 I C D news) (sub : ∀ q ∈ (I, oI) :: (C, oC) :: (D, oD) :: news, q ∈ all) (hS : S news) (hp : p k = true) :
    LCg.CompEnd h₀ L m s₁ I oI C oC D oD S (fun y news' => FYes p k news news' y) (.int k t) { s₁ with heap := h', toks := tk } := .intro F N _ sub off hS ⟨rfl, hp, _, rfl⟩
theorem filt_no {p : Int → Bool} {k : Int} {v : Value} {I C D : Addr} {oI oC oD : Obj} {all : List (Addr × Obj)} {S : List (Addr × Obj) → Prop} {h' : Heap} {tk : Nat} (F : Fr h₀ L h' m) (N : News h₀ L h' all) (off : LCg.Off3 I C D news) (sub : ∀ q ∈ (I, oI) :: (C, oC) :: (D, oD) :: news, q ∈ all) (hS : S news) (hp : p k = false) :
    LCg.CompEnd h₀ L m s₁ I oI C oC D oD S (fun _ news' => FNo p k news news') v { s₁ with heap := h', toks := tk } := .intro F N _ sub off hS ⟨rfl, hp⟩
theorem mod_is {x y q : Int} {t u : Tok} {Q : Value → Shared → Prop} (hy0 : y ≠ 0) (hq : x.fmod y = q) (h : ∀ t tk', Q (.int q t) { s with toks := tk' }) : wpAny (model prog w) A (binaryOp .Mod (.int x t) (.int y u)) Q E s := mod_int hy0 (hq ▸ h _ _)
theorem eqn_is {a b : Addr} {vs us : List Value} {ns : List Int} {bb : Bool} {Q : Value → Shared → Prop} (hl : s.heap.IsList a vs.toArray) (hi : IntsAre vs ns) (hl' : s.heap.IsList b us.toArray) (hi' : IntsAre us []) (hu : A.units + 64 < cLine) (hb : decide (ns = []) = bb)
    (h : Q (.bool bb) s) : wpAny (model prog w) A (compareOp .Eq (.ref a) (.ref b)) Q E s := eq_intsK hl hi hl' hi' hu (hb ▸ h)
theorem nen_is {a b : Addr} {vs us : List Value} {ns : List Int} {bb : Bool} {Q : Value → Shared → Prop} (hl : s.heap.IsList a vs.toArray) (hi : IntsAre vs ns) (hl' : s.heap.IsList b us.toArray) (hi' : IntsAre us []) (hu : A.units + 64 < cLine) (hb : (!decide (ns = [])) = bb)
    (h : Q (.bool bb) s) : wpAny (model prog w) A (compareOp .NotEq (.ref a) (.ref b)) Q E s := ne_intsK hl hi hl' hi' hu (hb ▸ h)
end
theorem twoF_in {n i j : Int} : ∀ {l : List (Int × Int)}, twoF n l = some (i, j) → ∃ a ∈ l, twoStop n a = true ∧ i = a.1 ∧ j = bis (n - a.2)
  | a :: r, h => by
    unfold twoF at h
    by_cases hs : twoStop n a = true
    · rw [if_pos hs] at h
      cases h
      exact ⟨a, .head _, hs, rfl, rfl⟩
    · rw [if_neg hs] at h
      obtain ⟨b, hb, r⟩ := twoF_in h
      exact ⟨b, .tail _ hb, r⟩
theorem isq_bis {x : Int} (h : isq x = true) : bis x * bis x = x ∧ 0 ≤ bis x ∧ bis x < 10 := by
  have h := of_decide_eq_true h
  rcases h with rfl | rfl | rfl | rfl | rfl | rfl | rfl | rfl | rfl <;> decide
theorem sql_sq : ∀ a ∈ SQL, a.1 * a.1 = a.2 ∧ 0 ≤ a.1 ∧ a.1 < 10 := by decide
theorem two_ok {n i j : Int} (h : two n = some (i, j)) : (0 ≤ i ∧ i < 10) ∧ (0 ≤ j ∧ j < 10) ∧ i * i + j * j = n := by
  obtain ⟨a, ha, hs, rfl, rfl⟩ := twoF_in h
  obtain ⟨e1, e2, e3⟩ := sql_sq a ha
  unfold twoStop at hs
  rw [Bool.and_eq_true] at hs
  obtain ⟨f1, f2, f3⟩ := isq_bis hs.2
  refine ⟨⟨e2, e3⟩, ⟨f2, f3⟩, ?_⟩
  rw [e1, f1]; omega
def leftF : Nat → Int → Option Int
  | 0, _ => none
  | k + 1, x => if 0 < x then (if okPos x 4 = true ∧ 0 ≤ (posF x 4).1 then (if (posF x 4).2 = 0 then leftF k (posF x 4).1 else some x) else none) else some x
structure LawOK (n : Int) : Prop where
  b1 : decide (sqs.filter (p1 n) = []) = false
  b4 : decide (sqs.filter (p4 n) = []) = false
  lf : ∃ lv u8 v8, leftF 4 n = some lv ∧ 0 ≤ lv ∧ okPos lv 8 = true ∧ posF lv 8 = (u8, v8) ∧ decide (v8 = 7) = decide (sqs.filter (p3 n) = [])
  ev : 0 < n → outEv 100 n 2 = some (two n).isSome
  is : (!decide ((rangeKs 0 8).filter (pk n) = [])) = isq n
theorem leftF_step {k : Nat} {x lv : Int} (h : leftF (k + 1) x = some lv) : (¬ 0 < x ∧ lv = x) ∨ (0 < x ∧ okPos x 4 = true ∧ 0 ≤ (posF x 4).1 ∧ ((¬ (posF x 4).2 = 0 ∧ lv = x) ∨ ((posF x 4).2 = 0 ∧ leftF k (posF x 4).1 = some lv))) := by
  unfold leftF at h
  by_cases hx : 0 < x
  · rw [if_pos hx] at h
    by_cases ho : okPos x 4 = true ∧ 0 ≤ (posF x 4).1
    · rw [if_pos ho] at h
      by_cases hv : (posF x 4).2 = 0
      · rw [if_pos hv] at h; exact .inr ⟨hx, ho.1, ho.2, .inr ⟨hv, h⟩⟩
      · rw [if_neg hv] at h; cases h; exact .inr ⟨hx, ho.1, ho.2, .inl ⟨hv, rfl⟩⟩
    · rw [if_neg ho] at h; cases h
  · rw [if_neg hx] at h; cases h; exact .inl ⟨hx, rfl⟩
def M5 (p t th f l : Value) (u : Str → Option Value) : Str → Option Value := fun z => if z = "pairs" then some p else if z = "two" then some t else if z = "three" then some th else if z = "four" then some f else if z = "left" then some l else u z
theorem M5_eq {p t th f l : Value} {m : Str → Option Value} (h1 : m "pairs" = some p) (h2 : m "two" = some t) (h3 : m "three" = some th) (h4 : m "four" = some f) (h5 : m "left" = some l) : M5 p t th f l m = m := by
  funext z
  unfold M5
  repeat' split
  all_goals (first | rfl | (rename (_ = _) => e; rw [e]; symm; assumption))
section
variable {prog : Program} {w : World} {A : Around} {E : Value → Shared → Prop} {s : Shared} {h₀ : Heap} {L : Addr} {m : Str → Option Value}
theorem sq2_is {x : Int} {t u : Tok} {Q : Value → Shared → Prop} (h0 : 0 ≤ x) (h1 : x < 4096) (h : ∀ t tk', Q (.int (x * x) t) { s with toks := tk' }) : wpAny (model prog w) A (binaryOp .Pow (.int x t) (.int 2 u)) Q E s :=
  pow_int_small (by decide) (by decide) (by omega) (by
    have e : x ^ (2 : Int).toNat = x * x := by rw [show (2 : Int).toNat = 2 from rfl, Int.pow_succ, Int.pow_succ, Int.pow_zero, Int.one_mul]
    rw [e]; exact h _ _)
theorem nei_no {x y : Int} {t u : Tok} {Q : Value → Shared → Prop} (h : x = y) (hq : Q (.bool false) s) : wpAny (model prog w) A (compareOp .NotEq (.int x t) (.int y u)) Q E s := ne_int (by rw [h, bne_self_eq_false]; exact hq)
theorem eqd_is {x y : Int} {b : Bool} {t u : Tok} {Q : Value → Shared → Prop} (h : decide (x = y) = b) (hq : Q (.bool b) s) : wpAny (model prog w) A (compareOp .Eq (.int x t) (.int y u)) Q E s := eq_int (by
  have e : (x == y) = b := by rw [← h]; by_cases hh : x = y <;> simp [hh]
  rw [e]; exact hq)
theorem neb_same {b c : Bool} {Q : Value → Shared → Prop} (h : b = c) (hq : Q (.bool false) s) : wpAny (model prog w) A (compareOp .NotEq (.bool b) (.bool c)) Q E s := ne_bool (by rw [h, bne_self_eq_false]; exact hq)
theorem kept_of {s₁ : Shared} {led all : List (Addr × Obj)} {h' : Heap} {tk : Nat} (F : Fr h₀ L h' m) (N : News h₀ L h' all) (sub : ∀ q ∈ led, q ∈ all) : KeptAt h₀ L m s₁ led { s₁ with heap := h', toks := tk } := ⟨h', tk, rfl, F, fun q hq => N q (sub q hq)⟩
end
theorem p3_none {n x : Int} (h : two (n - x) = none) : p3 n x = false := by unfold p3; rw [h]; simp
theorem p3_le {n x : Int} (h : ¬ x ≤ n) : p3 n x = false := by unfold p3; rw [decide_eq_false h]; rfl
theorem p3_some {n x : Int} {r : Int × Int} (h : x ≤ n) (h2 : two (n - x) = some r) : p3 n x = true := by unfold p3; rw [decide_eq_true h, h2]; rfl
theorem p5_none {n x y : Int} (h : two (n - x - y) = none) : p5 n x y = false := by unfold p5; rw [h]; simp
theorem p5_le {n x y : Int} (h : ¬ y ≤ n - x) : p5 n x y = false := by unfold p5; rw [decide_eq_false h]; rfl
theorem p5_some {n x y : Int} {r : Int × Int} (h : y ≤ n - x) (h2 : two (n - x - y) = some r) : p5 n x y = true := by unfold p5; rw [decide_eq_true h, h2]; rfl
theorem p4_le {n x : Int} (h : ¬ x ≤ n) : p4 n x = false := by unfold p4; rw [decide_eq_false h]; rfl
theorem p4_is {n x : Int} {b : Bool} (h : x ≤ n) (h2 : (!decide (sqs.filter (p5 n x) = [])) = b) : p4 n x = b := by unfold p4; rw [decide_eq_true h, h2]; rfl
/-- what the name two holds -/
def TwoVal (n : Int) (V : Value) (PR : List (Addr × Obj)) (b : Bool) : Prop := (b = false ∧ V = .none ∧ two n = none) ∨ (b = true ∧ ∃ D i j t1 t2, V = .ref D ∧ (D, tup2 i j t1 t2) ∈ PR ∧ two n = some (i, j))
theorem TwoVal.isnot {n : Int} {V : Value} {PR : List (Addr × Obj)} {b : Bool} (h : TwoVal n V PR b) : (!(V == Value.none)) = b := by
  rcases h with ⟨rfl, rfl, _⟩ | ⟨rfl, D, i, j, t1, t2, rfl, _⟩
  · rfl
  · rfl
theorem TwoVal.some {n : Int} {V : Value} {PR : List (Addr × Obj)} {b : Bool} (h : TwoVal n V PR b) : (two n).isSome = b := by
  rcases h with ⟨rfl, rfl, h⟩ | ⟨rfl, D, i, j, t1, t2, rfl, _, h⟩ <;> rw [h] <;> rfl
def MT (p t : Value) (u : Str → Option Value) : Str → Option Value := fun z => if z = "pairs" then some p else if z = "two" then some t else u z
theorem MT_eq {p t : Value} {m : Str → Option Value} (h1 : m "pairs" = some p) (h2 : m "two" = some t) : MT p t m = m := by
  funext z
  unfold MT
  repeat' split
  all_goals (first | rfl | (rename (_ = _) => e; rw [e]; symm; assumption))
section
variable {M : Model} {prog : Program} {w : World} {A : Around} {E : Value → Shared → Prop} {s : Shared} {h₀ : Heap} {L : Addr} {m : Str → Option Value} {env : Env}
theorem isn_is {v : Value} {b : Bool} {Q : Value → Shared → Prop} (h : (!(v == Value.none)) = b) (hq : Q (.bool b) s) : wpAny M A (compareOp .IsNot v .none) Q E s := isnot_none_gen (by rw [h]; exact hq)
def TwoEnd (H : Heap) (L : Addr) (s₁ : Shared) (n : Int) (pv : List Value) (lp : Addr) (led tl : List (Addr × Obj)) (s' : Shared) : Prop :=
  ∃ V2 b PR2 h tk m', s' = { s₁ with heap := h, toks := tk } ∧ TwoVal n V2 PR2 b ∧ PairsIn pv PR2 ∧ m' "pairs" = some (.ref lp) ∧ m' "two" = some V2 ∧ Fr H L h m' ∧ News H L h (led ++ (PR2 ++ tl))
theorem cut_two {a b : Stmt} {rest : List Stmt} {Q : Flow → Shared → Prop} (n : Int) (pv : List Value) (lp : Addr) {x y a1 a2 a3 a4 a5 a6 : Addr × Obj} {PR tl : List (Addr × Obj)} (N : News h₀ L s.heap (x :: y :: a1 :: a2 :: a3 :: a4 :: a5 :: a6 :: (PR ++ tl)))
    (hA : News h₀ L s.heap (a1 :: a2 :: a3 :: a4 :: a5 :: a6 :: (PR ++ tl)) → wpAny M A (exec a env) (fun f s' => match f with | .next => wpAny M A (exec b env) (fun f s'' => f = .next ∧ TwoEnd h₀ L s n pv lp [a1, a2, a3, a4, a5, a6] tl s'') E s' | _ => False) E s)
    (h2 : ∀ V2 b PR2 h tk m', TwoVal n V2 PR2 b → PairsIn pv PR2 → m' "pairs" = some (.ref lp) → m' "two" = some V2 → Fr h₀ L h m' → News h₀ L h (a1 :: a2 :: a3 :: a4 :: a5 :: a6 :: (PR2 ++ tl)) → wpAny M A (execs rest env) Q E { s with heap := h, toks := tk }) :
    wpAny M A (execs (a :: b :: rest) env) Q E s := by
  refine wpAny_execs_cons (wpAny_mono (hA fun q hq => N q (.tail _ (.tail _ hq))) (fun f s' hf => ?_) fun _ _ e => e)
  cases f <;> try exact hf.elim
  refine wpAny_execs_cons (wpAny_mono hf (fun f s' hf => ?_) fun _ _ e => e)
  obtain ⟨rfl, V2, b, PR2, h, tk, m', rfl, h1, h3, h4, h5, h6, h7⟩ := hf
  exact h2 V2 b PR2 h tk m' h1 h3 h4 h5 h6 h7
theorem two_perm {h : Heap} {T a1 a2 a3 a4 a5 a6 : Addr × Obj} {PR tl : List (Addr × Obj)} (N : News h₀ L h (T :: a1 :: a2 :: a3 :: a4 :: a5 :: a6 :: (PR ++ tl))) : News h₀ L h ([a1, a2, a3, a4, a5, a6] ++ ((T :: PR) ++ tl)) := fun q hq => N q (by
  simp only [List.cons_append, List.nil_append, List.mem_cons] at hq ⊢
  rcases hq with h | h | h | h | h | h | h | h <;> simp [h])
theorem pairs_more {pv : List Value} {PR : List (Addr × Obj)} {D : Addr} {i j : Int} {t1 t2 : Tok} (h : PairsIn pv PR) : PairsIn pv ((D, tup2 i j t1 t2) :: PR) := by
  refine ⟨fun v hv => ?_, fun q hq => ?_⟩
  · obtain ⟨D, i, j, t1, t2, e, hm, hb⟩ := h.1 v hv
    exact ⟨D, i, j, t1, t2, e, .tail _ hm, hb⟩
  · rcases List.mem_cons.mp hq with rfl | hq
    · exact ⟨i, j, t1, t2, rfl⟩
    · exact h.2 q hq
theorem pairs_push {pv : List Value} {PR : List (Addr × Obj)} {n : Int} {V : Value} (h : PairsIn pv PR) (hV : TwoVal n V PR true) : PairsIn (pv ++ [V]) PR := by
  refine ⟨fun v hv => ?_, h.2⟩
  rcases List.mem_append.mp hv with hv | hv
  · exact h.1 v hv
  · rw [List.mem_singleton.mp hv]
    rcases hV with ⟨e, _⟩ | ⟨_, D, i, j, t1, t2, e, hm, h2⟩
    · cases e
    · exact ⟨D, i, j, t1, t2, e, hm, (two_ok h2).1, (two_ok h2).2.1⟩
theorem whl_left {test : PySem.Expr} {body orelse : List Stmt} {Q : Flow → Shared → Prop} {p t th f : Value} {lv : Int} {x : Int} {tx : Tok} {led pre tl : List (Addr × Obj)} (hend : EndsIn tl led pre) (F : Fr h₀ L s.heap m) (hm : M5 p t th f (.int x tx) m = m) (N : News h₀ L s.heap led) (ht : TailSt tl) (ha : Apart pre tl)
    (hl : leftF 4 x = some lv) (hx : 0 ≤ x)
    (turn : ∀ k x tx h tk m tl, leftF (k + 1) x = some lv → 0 ≤ x → M5 p t th f (.int x tx) m = m → Fr h₀ L h m → News h₀ L h (pre ++ tl) → TailSt tl → Apart pre tl →
      (∀ x tx h tk m tl, leftF k x = some lv → 0 ≤ x → M5 p t th f (.int x tx) m = m → Fr h₀ L h m → News h₀ L h (pre ++ tl) → TailSt tl → Apart pre tl → WhlRest prog w A E env test body orelse Q 0 { s with heap := h, toks := tk }) →
      WhlRest prog w A E env test body orelse Q 1 { s with heap := h, toks := tk }) : WhlRest prog w A E env test body orelse Q 0 s := by
  refine whl_ind (fun k s9 => ∃ (x : Int) (tx : Tok) (h : Heap) (tk : Nat) (m : Str → Option Value) (tl : List (Addr × Obj)), s9 = { s with heap := h, toks := tk } ∧ leftF k x = some lv ∧ 0 ≤ x ∧ M5 p t th f (.int x tx) m = m ∧ Fr h₀ L h m ∧ News h₀ L h (pre ++ tl) ∧ TailSt tl ∧ Apart pre tl) ?_ ?_ 4 s ⟨x, tx, s.heap, s.toks, m, tl, rfl, hl, hx, hm, F, hend.eq ▸ N, ht, ha⟩
  · rintro s9 ⟨x, tx, h, tk, m, tl, _, hl, _⟩
    cases hl
  · rintro k s9 ⟨x, tx, h, tk, m, tl, rfl, hl, hx, hm, F, N, ht, ha⟩ hnext
    exact turn k x tx h tk m tl hl hx hm F N ht ha fun x tx h tk m tl a b c d e f g => hnext _ ⟨x, tx, h, tk, m, tl, rfl, a, b, c, d, e, f, g⟩
theorem src_range {Fin : Shared → List Value → List (Addr × Obj) → Prop} {ct elt : PySem.Expr} {x : Str} {scope : Scope} {cl : List (Str × Addr)} {news : List (Addr × Obj)} {s₁ : Shared} {r : Addr} {t u v : Tok} (p : Int → Bool)
    (hh : A.handled = none) (F : Fr h₀ L s₁.heap m) (N : News h₀ L s₁.heap news) (hr : IsRange s₁.heap r 0 8 1 t u v)
    (turn : ∀ k' t I oI C oC D m₂ ys h tk (E' : Value → Shared → Prop), 0 ≤ k' → k' < 8 → LCg.NsObj oC m₂ → m₂ x = some (.int k' t) → Fr h₀ L h m → News h₀ L h ((I, oI) :: (C, oC) :: (D, LCg.lst ys) :: news) → LCg.Off3 I C D news → ((@Ne Nat I C) ∧ (@Ne Nat I D) ∧ (@Ne Nat C D)) →
      wpAny (model prog w) A (isTrue ct (compEnvC scope cl C env) (eval ct (compEnvC scope cl C env))) (fun b s' => if b = true then wpAny (model prog w) A (eval elt (compEnvC scope cl C env)) (LCg.CompEnd h₀ L m { s₁ with heap := h, toks := tk } I oI C oC D (LCg.lst ys) (fun _ => True) (fun y news' => FYes p k' news news' y)) E' s'
        else LCg.CompEnd h₀ L m { s₁ with heap := h, toks := tk } I oI C oC D (LCg.lst ys) (fun _ => True) (fun _ news' => FNo p k' news news') Value.none s') E' { s₁ with heap := h, toks := tk })
    (fin : ∀ g ys, IntsAre ys ((rangeKs 0 8).filter p) → Fin { s₁ with heap := g } ys news) : LCt.CompSrcT prog w A h₀ L m env ct elt x scope cl Fin (.ref r) s₁ := by
  refine LCt.CompSrcT.range (n := 8) hh F N hr (by decide) (by decide) (Nat.le_of_ble_eq_true rfl) fun g => ?_
  refine comp_filt (ks := rangeKs 0 8) p (rangeKs_length 0 8) (fun i v hi hv => ?_) (fun k' t I oI C oC D m₂ ys h tk E' hk => turn k' t I oI C oC D m₂ ys h tk E' (mem_rangeKs hk).1 (mem_rangeKs hk).2) (fin g)
  obtain ⟨t, e⟩ := hv
  exact ⟨0 + (i : Int), t, by simp [rangeKs, hi], e⟩
end
theorem plain_lst {ys : List Value} : Plain (LCg.lst ys) := fun _ h => nomatch h
theorem plain_listOf {its : Array Value} {k : Nat} : Plain (W.listOf its k) := fun _ h => nomatch h
theorem plain_seq {its : Array Value} {k : Nat} {c : Value} {d : Option Addr} : Plain { cls := c, dict := d, data := .seq its k } := fun _ h => nomatch h
theorem plain_cell {o : Obj} {v : Option Value} (h : o.data = .cell v) : Plain o := fun vs e => by rw [h] at e; cases e
inductive ApL (tl : List (Addr × Obj)) : List (Addr × Obj) → Prop
  | old {pre : List (Addr × Obj)} (h : Apart pre tl) : ApL tl pre
  | new {D : Addr} {o : Obj} {pre : List (Addr × Obj)} (h : Plain o) : ApL tl pre → ApL tl ((D, o) :: pre)
  | far {D : Addr} {o : Obj} {pre : List (Addr × Obj)} (h : ∀ r ∈ tl, @Ne Nat D r.1) : ApL tl pre → ApL tl ((D, o) :: pre)
theorem apL_all {tl pre : List (Addr × Obj)} (h : ApL tl pre) : ∀ q ∈ pre, Plain q.2 ∨ ∀ r ∈ tl, q.1 ≠ r.1 := by
  induction h with
  | old h => exact fun q hq => .inr (h q hq)
  | new h _ ih =>
    intro q hq
    rcases List.mem_cons.mp hq with rfl | hq
    · exact .inl h
    · exact ih q hq
  | far h _ ih =>
    intro q hq
    rcases List.mem_cons.mp hq with rfl | hq
    · exact .inr h
    · exact ih q hq
theorem apart_list {h₀ h : Heap} {L : Addr} {led pre tl : List (Addr × Obj)} (N : News h₀ L h led) (hend : EndsIn tl led pre) (ht : TailSt tl) (hp : ApL tl pre) : Apart pre tl := apart_of N hend ht (apL_all hp)
theorem pairs_apL {tl PR : List (Addr × Obj)} {pv : List Value} (h : PairsIn pv PR) : ApL tl PR := by
  have h2 := h.2
  clear h
  induction PR with
  | nil => exact .old fun _ h => nomatch h
  | cons q r ih =>
    obtain ⟨D, o⟩ := q
    obtain ⟨i, j, t1, t2, e⟩ := h2 (D, o) (.head _)
    have e' : o = tup2 i j t1 t2 := e
    exact .new (e' ▸ fun _ h => nomatch h) (ih fun q hq => h2 q (.tail _ hq))
section
variable {M : Model} {prog : Program} {w : World} {A : Around} {E : Value → Shared → Prop} {s : Shared} {h₀ : Heap} {L : Addr} {m : Str → Option Value} {env : Env}
def LeftEnd (H : Heap) (L : Addr) (s₁ : Shared) (p t th f : Value) (lv : Int) (pre : List (Addr × Obj)) (s' : Shared) : Prop :=
  ∃ tx h tk m tl, s' = { s₁ with heap := h, toks := tk } ∧ M5 p t th f (.int lv tx) m = m ∧ Fr H L h m ∧ News H L h (pre ++ tl) ∧ TailSt tl ∧ Apart pre tl
theorem cut_left {a : Stmt} {rest : List Stmt} {Q : Flow → Shared → Prop} {p t th f : Value} {x : Int} {tx : Tok} {led pre tl : List (Addr × Obj)} (lv : Int) (_hend : EndsIn tl led pre) (_F : Fr h₀ L s.heap m) (_hm : M5 p t th f (.int x tx) m = m) (_N : News h₀ L s.heap led)
    (hA : wpAny M A (exec a env) (fun f' s' => f' = .next ∧ LeftEnd h₀ L s p t th f lv pre s') E s)
    (h2 : ∀ tx h tk m tl, M5 p t th f (.int lv tx) m = m → Fr h₀ L h m → News h₀ L h (pre ++ tl) → TailSt tl → Apart pre tl → wpAny M A (execs rest env) Q E { s with heap := h, toks := tk }) :
    wpAny M A (execs (a :: rest) env) Q E s := by
  refine wpAny_execs_cons (wpAny_mono hA (fun f' s' hf => ?_) fun _ _ e => e)
  obtain ⟨rfl, tx, h, tk, m, tl, rfl, h1, h3, h4, h5, h6⟩ := hf
  exact h2 tx h tk m tl h1 h3 h4 h5 h6
end
theorem brahma1 (a b c d : Int) : (a * c - b * d) * (a * c - b * d) + (a * d + b * c) * (a * d + b * c) = (a * a + b * b) * (c * c + d * d) := by grind
theorem brahma2 (a b c d : Int) : (a * c + b * d) * (a * c + b * d) + (a * d - b * c) * (a * d - b * c) = (a * a + b * b) * (c * c + d * d) := by grind
theorem mul_81 {x y : Int} (hx : 0 ≤ x ∧ x < 10) (hy : 0 ≤ y ∧ y < 10) : 0 ≤ x * y ∧ x * y ≤ 81 := by
  refine ⟨Int.mul_nonneg hx.1 hy.1, ?_⟩
  have h1 : x * y ≤ 9 * y := Int.mul_le_mul_of_nonneg_right (by omega) hy.1
  omega
section
variable {prog : Program} {w : World} {A : Around} {E : Value → Shared → Prop} {s : Shared} {h₀ h : Heap} {L : Addr} {m : Str → Option Value} {news : List (Addr × Obj)}
theorem mulb_is {x y : Int} {t u : Tok} {Q : Value → Shared → Prop} (h0 : -4096 ≤ x) (h1 : x < 4096) (h : ∀ t tk', Q (.int (x * y) t) { s with toks := tk' }) : wpAny (model prog w) A (binaryOp .Mult (.int x t) (.int y u)) Q E s := mul_is h0 h1 rfl h
theorem sqn_is {x : Int} {t u : Tok} {Q : Value → Shared → Prop} (h0 : -4096 < x) (h1 : x < 4096) (h : ∀ t tk', Q (.int (x * x) t) { s with toks := tk' }) : wpAny (model prog w) A (binaryOp .Pow (.int x t) (.int 2 u)) Q E s :=
  pow_int_small (by decide) (by decide) (by omega) (by
    have e : x ^ (2 : Int).toNat = x * x := by rw [show (2 : Int).toNat = 2 from rfl, Int.pow_succ, Int.pow_succ, Int.pow_zero, Int.one_mul]
    rw [e]; exact h _ _)
theorem add_pv {a b : Addr} {vs ws : List Value} {Q : Value → Shared → Prop} (F : Fr h₀ L s.heap m) (N : News h₀ L s.heap news) {k1 k2 : Nat} (ha : (a, W.listOf vs.toArray k1) ∈ news) (hb : (b, W.listOf ws.toArray k2) ∈ news) (h1 : vs.length ≤ 2) (h2 : ws.length ≤ 2)
    (h : ∀ D h', Fr h₀ L h' m → News h₀ L h' ((D, W.listOf (vs ++ ws).toArray 0) :: news) → (∀ p ∈ news, p.1 < D) → Q (.ref D) { s with heap := h' }) : wpAny (model prog w) A (binaryOp .Add (.ref a) (.ref b)) Q E s :=
  add_lists F N ⟨_, (N _ ha).1, rfl, _, rfl⟩ ⟨_, (N _ hb).1, rfl, _, rfl⟩ (fun h' F' N' => h _ h' F' N' fun p hp => Heap.lt_size (N p hp).1) (Nat.le_trans (Nat.add_le_add h1 h2) (Nat.le_of_ble_eq_true rfl))
theorem law_end {n1 g1 g2 g3 i1 w1 p1 q1 c2 c1 : Addr × Obj} {PR tl : List (Addr × Obj)} (N : News h₀ L h (n1 :: g1 :: g2 :: g3 :: i1 :: w1 :: p1 :: q1 :: c2 :: c1 :: (PR ++ tl))) :
    News h₀ L h (i1 :: w1 :: n1 :: q1 :: c2 :: c1 :: (PR ++ tl)) := fun q hq => N q (by
  simp only [List.mem_cons] at hq ⊢
  rcases hq with h | h | h | h | h | h | h <;> simp [h])
theorem law_off {I Dws Dn Dsq C2 C1 : Addr} {oI oW on oSq oN oS : Obj} {PR tl : List (Addr × Obj)} {pv : List Value} (N : News h₀ L h ((I, oI) :: (Dws, oW) :: (Dn, on) :: (Dsq, oSq) :: (C2, oN) :: (C1, oS) :: (PR ++ tl))) (hpv : PairsIn pv PR) (hc : oI.cls = .type "list_iterator")
    (ht : ∀ r ∈ tl, @Ne Nat I r.1) (e1 : @LT.lt Nat _ Dws I) (e2 : @LT.lt Nat _ I Dn) (e3 : @LT.lt Nat _ Dsq I) (e4 : @LT.lt Nat _ C2 I) (e5 : @LT.lt Nat _ C1 I) :
    ∀ p ∈ (Dws, oW) :: (Dn, on) :: (Dsq, oSq) :: (C2, oN) :: (C1, oS) :: (PR ++ tl), ∀ q ∈ [(I, oI)], p.1 ≠ q.1 := by
  intro p hp q hq
  rw [List.mem_singleton.mp hq]
  have hI := (N _ (.head _)).1
  rcases List.mem_cons.mp hp with rfl | hp
  · exact Nat.ne_of_lt e1
  rcases List.mem_cons.mp hp with rfl | hp
  · exact Nat.ne_of_gt e2
  rcases List.mem_cons.mp hp with rfl | hp
  · exact Nat.ne_of_lt e3
  rcases List.mem_cons.mp hp with rfl | hp
  · exact Nat.ne_of_lt e4
  rcases List.mem_cons.mp hp with rfl | hp
  · exact Nat.ne_of_lt e5
  rcases List.mem_append.mp hp with hp | hp
  · intro e
    have hq := (N p (.tail _ (.tail _ (.tail _ (.tail _ (.tail _ (.tail _ (List.mem_append_left _ hp)))))))).1
    obtain ⟨i, j, t1, t2, e'⟩ := hpv.2 p hp
    have e9 : p.1 = I := e
    rw [e9, hI] at hq
    have e2 : oI = p.2 := Option.some.inj hq
    rw [e2, e'] at hc
    have hc' : Value.type "tuple" = Value.type "list_iterator" := hc
    injection hc' with h1
    exact absurd h1 (by decide)
  · exact Ne.symm (ht p hp)
theorem pick_tabs {Dws lp Dsq C2 C1 : Addr} {oW op oSq oN oS : Obj} {PR : List (Addr × Obj)} {ps1 ps2 : Array Value} {cz : List (Addr × Obj)} (N : News h₀ L h ((Dws, oW) :: (lp, op) :: (Dsq, oSq) :: (C2, oN) :: (C1, oS) :: (PR ++ ((30, tabObj ps1) :: (37, tabObj ps2) :: cz)))) {xs : List (Addr × Obj)} (hx : ∀ q ∈ xs, q ∈ PR) :
    News h₀ L h ((lp, op) :: (37, tabObj ps2) :: (30, tabObj ps1) :: xs) := fun q hq => N q (by
  simp only [List.mem_cons, List.mem_append] at hq ⊢
  rcases hq with h | h | h | h
  · simp [h]
  · simp [h]
  · simp [h]
  · simp [hx q h])
end
theorem apart_at {q : Addr × Obj} {pre tl : List (Addr × Obj)} (h : Apart pre tl) (hq : q ∈ pre) : ∀ r ∈ tl, @Ne Nat q.1 r.1 := fun r hr => h q hq r hr
section
variable {M : Model} {A : Around} {E : Value → Shared → Prop} {s : Shared} {h₀ : Heap} {L : Addr} {m : Str → Option Value} {env : Env}
def IfEnd (H : Heap) (L : Addr) (s₁ : Shared) (m : Str → Option Value) (pre : List (Addr × Obj)) (s' : Shared) : Prop := ∃ h tk tl, s' = { s₁ with heap := h, toks := tk } ∧ Fr H L h m ∧ News H L h (pre ++ tl) ∧ TailSt tl ∧ Apart pre tl
theorem cut_if {a : Stmt} {rest : List Stmt} {Q : Flow → Shared → Prop} {g1 g2 g3 g4 g5 a1 a2 a3 a4 a5 a6 : Addr × Obj} {PR tl : List (Addr × Obj)} (_F : Fr h₀ L s.heap m) (N : News h₀ L s.heap (g1 :: g2 :: g3 :: g4 :: g5 :: a1 :: a2 :: a3 :: a4 :: a5 :: a6 :: (PR ++ tl)))
    (ha : Apart (g2 :: g3 :: g4 :: g5 :: a1 :: a2 :: a3 :: a4 :: a5 :: a6 :: PR) tl)
    (hA : News h₀ L s.heap (a1 :: a2 :: a3 :: a4 :: a5 :: a6 :: (PR ++ tl)) → Apart (a1 :: a2 :: a3 :: a4 :: a5 :: a6 :: PR) tl → wpAny M A (exec a env) (fun f s' => f = .next ∧ IfEnd h₀ L s m (a1 :: a2 :: a3 :: a4 :: a5 :: a6 :: PR) s') E s)
    (h2 : ∀ h tk tl, Fr h₀ L h m → News h₀ L h (a1 :: a2 :: a3 :: a4 :: a5 :: a6 :: (PR ++ tl)) → TailSt tl → Apart (a1 :: a2 :: a3 :: a4 :: a5 :: a6 :: PR) tl → wpAny M A (execs rest env) Q E { s with heap := h, toks := tk }) :
    wpAny M A (execs (a :: rest) env) Q E s := by
  refine wpAny_execs_cons (wpAny_mono (hA (fun q hq => N q (.tail _ (.tail _ (.tail _ (.tail _ (.tail _ hq)))))) (apart_tail (apart_tail (apart_tail (apart_tail ha))))) (fun f s' hf => ?_) fun _ _ e => e)
  obtain ⟨rfl, h, tk, tl, rfl, h1, h3, h4, h5⟩ := hf
  exact h2 h tk tl h1 h3 h4 h5
end
end Mine
namespace Mine
open PySem.Calls
def chk (n : Int) : Bool :=
  sqs.any (p1 n) && sqs.any (fun x => decide (x ≤ n) && sqs.any (p5 n x)) && (match leftF 4 n with
    | none => false
    | some lv => decide (0 ≤ lv) && okPos lv 8 && (decide ((posF lv 8).2 = 7) == !(sqs.any (p3 n)))) &&
  (decide (n ≤ 0) || (match outEv 100 n 2 with | none => false | some b => b == (two n).isSome)) && ((rangeKs 0 8).any (pk n) == isq n)
theorem filt_any (p : Int → Bool) (l : List Int) : decide (l.filter p = []) = !l.any p := by
  induction l with
  | nil => rfl
  | cons a r ih =>
    cases h : p a
    · rw [List.filter_cons_of_neg (by rw [h]; decide), ih, List.any_cons, h, Bool.false_or]
    · rw [List.filter_cons_of_pos h, List.any_cons, h, Bool.true_or]; rfl
theorem ok_of_chk {n : Int} (h : chk n = true) : LawOK n := by
  unfold chk at h
  simp only [Bool.and_eq_true] at h
  obtain ⟨⟨⟨⟨h1, h4⟩, hl⟩, he⟩, hi⟩ := h
  refine ⟨by rw [filt_any, h1]; rfl, ?_, ?_, ?_, by rw [filt_any, Bool.not_not]; exact eq_of_beq hi⟩
  · rw [filt_any]
    have e : p4 n = fun x => decide (x ≤ n) && sqs.any (p5 n x) := by
      funext x
      unfold p4
      rw [filt_any, Bool.not_not]
    rw [e, h4]; rfl
  · cases hlf : leftF 4 n with
    | none => rw [hlf] at hl; cases hl
    | some lv =>
      rw [hlf] at hl
      simp only [Bool.and_eq_true] at hl
      obtain ⟨⟨g1, g2⟩, g3⟩ := hl
      exact ⟨lv, _, _, rfl, of_decide_eq_true g1, g2, rfl, by rw [filt_any]; exact eq_of_beq g3⟩
  · intro hn
    rw [decide_eq_false (by omega), Bool.false_or] at he
    cases ho : outEv 100 n 2 with
    | none => rw [ho] at he; cases he
    | some b => rw [ho] at he; rw [eq_of_beq he]
theorem chk_0 : (List.range' 0 4).all (fun k => chk (k : Int)) = true := by decide +kernel
theorem chk_1 : (List.range' 4 4).all (fun k => chk (k : Int)) = true := by decide +kernel
theorem chk_2 : (List.range' 8 4).all (fun k => chk (k : Int)) = true := by decide +kernel
theorem chk_3 : (List.range' 12 4).all (fun k => chk (k : Int)) = true := by decide +kernel
theorem chk_4 : (List.range' 16 4).all (fun k => chk (k : Int)) = true := by decide +kernel
theorem chk_5 : (List.range' 20 4).all (fun k => chk (k : Int)) = true := by decide +kernel
theorem chk_6 : (List.range' 24 4).all (fun k => chk (k : Int)) = true := by decide +kernel
theorem chk_7 : (List.range' 28 4).all (fun k => chk (k : Int)) = true := by decide +kernel
theorem chk_8 : (List.range' 32 4).all (fun k => chk (k : Int)) = true := by decide +kernel
theorem chk_9 : (List.range' 36 4).all (fun k => chk (k : Int)) = true := by decide +kernel
theorem chk_10 : (List.range' 40 4).all (fun k => chk (k : Int)) = true := by decide +kernel
theorem chk_11 : (List.range' 44 4).all (fun k => chk (k : Int)) = true := by decide +kernel
theorem chk_12 : (List.range' 48 4).all (fun k => chk (k : Int)) = true := by decide +kernel
theorem chk_13 : (List.range' 52 4).all (fun k => chk (k : Int)) = true := by decide +kernel
theorem chk_14 : (List.range' 56 4).all (fun k => chk (k : Int)) = true := by decide +kernel
theorem chk_15 : (List.range' 60 1).all (fun k => chk (k : Int)) = true := by decide +kernel
theorem chk_all {k : Nat} (h : k < 61) : chk (k : Int) = true := by
  by_cases h0 : k < 4
  · exact List.all_eq_true.mp chk_0 k (List.mem_range'_1.mpr ⟨by omega, by omega⟩)
  by_cases h1 : k < 8
  · exact List.all_eq_true.mp chk_1 k (List.mem_range'_1.mpr ⟨by omega, by omega⟩)
  by_cases h2 : k < 12
  · exact List.all_eq_true.mp chk_2 k (List.mem_range'_1.mpr ⟨by omega, by omega⟩)
  by_cases h3 : k < 16
  · exact List.all_eq_true.mp chk_3 k (List.mem_range'_1.mpr ⟨by omega, by omega⟩)
  by_cases h4 : k < 20
  · exact List.all_eq_true.mp chk_4 k (List.mem_range'_1.mpr ⟨by omega, by omega⟩)
  by_cases h5 : k < 24
  · exact List.all_eq_true.mp chk_5 k (List.mem_range'_1.mpr ⟨by omega, by omega⟩)
  by_cases h6 : k < 28
  · exact List.all_eq_true.mp chk_6 k (List.mem_range'_1.mpr ⟨by omega, by omega⟩)
  by_cases h7 : k < 32
  · exact List.all_eq_true.mp chk_7 k (List.mem_range'_1.mpr ⟨by omega, by omega⟩)
  by_cases h8 : k < 36
  · exact List.all_eq_true.mp chk_8 k (List.mem_range'_1.mpr ⟨by omega, by omega⟩)
  by_cases h9 : k < 40
  · exact List.all_eq_true.mp chk_9 k (List.mem_range'_1.mpr ⟨by omega, by omega⟩)
  by_cases h10 : k < 44
  · exact List.all_eq_true.mp chk_10 k (List.mem_range'_1.mpr ⟨by omega, by omega⟩)
  by_cases h11 : k < 48
  · exact List.all_eq_true.mp chk_11 k (List.mem_range'_1.mpr ⟨by omega, by omega⟩)
  by_cases h12 : k < 52
  · exact List.all_eq_true.mp chk_12 k (List.mem_range'_1.mpr ⟨by omega, by omega⟩)
  by_cases h13 : k < 56
  · exact List.all_eq_true.mp chk_13 k (List.mem_range'_1.mpr ⟨by omega, by omega⟩)
  by_cases h14 : k < 60
  · exact List.all_eq_true.mp chk_14 k (List.mem_range'_1.mpr ⟨by omega, by omega⟩)
  exact List.all_eq_true.mp chk_15 k (List.mem_range'_1.mpr ⟨by omega, by omega⟩)
theorem law_ok (n : Int) (h0 : 0 ≤ n) (h1 : n < 61) : LawOK n := by
  obtain ⟨k, rfl⟩ := Int.eq_ofNat_of_zero_le h0
  exact ok_of_chk (chk_all (by omega))
end Mine
namespace Mine
open PySem.Calls
local macro_rules | `(tactic| walk_at "spare") => `(tactic| fail)
local macro_rules | `(tactic| walk_at "spare") => `(tactic| fail)
local macro_rules | `(tactic| walk_at "spare") => `(tactic| fail)
local macro_rules | `(tactic| walk_at "spare") => `(tactic| fail)
local macro_rules | `(tactic| walk_at "spare") => `(tactic| fail)
local macro_rules | `(tactic| walk_at "spare") => `(tactic| fail)
local macro_rules | `(tactic| walk_at "spare") => `(tactic| fail)
local macro_rules | `(tactic| walk_at "spare") => `(tactic| fail)
local macro_rules | `(tactic| walk_at "spare") => `(tactic| fail)
local macro_rules | `(tactic| walk_at "spare") => `(tactic| fail)
local macro_rules | `(tactic| walk_at "spare") => `(tactic| fail)
local macro_rules | `(tactic| walk_at "spare") => `(tactic| fail)
local macro_rules | `(tactic| walk_at "spare") => `(tactic| fail)
local macro_rules | `(tactic| walk_at "spare") => `(tactic| fail)
local macro_rules | `(tactic| walk_at "spare") => `(tactic| fail)
local macro_rules | `(tactic| walk_at "spare") => `(tactic| fail)
local macro_rules | `(tactic| walk_at "spare") => `(tactic| fail)
local macro_rules | `(tactic| walk_at "spare") => `(tactic| fail)
local macro_rules | `(tactic| walk_at "spare") => `(tactic| fail)
local macro_rules | `(tactic| walk_at "spare") => `(tactic| fail)
local macro_rules | `(tactic| walk_at "spare") => `(tactic| fail)
local macro_rules | `(tactic| walk_at "spare") => `(tactic| fail)
local macro_rules | `(tactic| walk_at "spare") => `(tactic| fail)
local macro_rules | `(tactic| walk_at "spare") => `(tactic| fail)
local macro_rules | `(tactic| walk_at "spare") => `(tactic| fail)
local macro_rules | `(tactic| walk_at "spare") => `(tactic| fail)
local macro_rules | `(tactic| walk_at "spare") => `(tactic| fail)
local macro_rules | `(tactic| walk_at "spare") => `(tactic| fail)
local macro_rules | `(tactic| walk_at "spare") => `(tactic| fail)
local macro_rules | `(tactic| walk_at "spare") => `(tactic| fail)
local macro_rules | `(tactic| walk_at "spare") => `(tactic| fail)
local macro_rules | `(tactic| walk_at "spare") => `(tactic| fail)
local macro_rules | `(tactic| walk_at "spare") => `(tactic| fail)
local macro_rules | `(tactic| walk_at "spare") => `(tactic| fail)
local macro_rules | `(tactic| walk_at "spare") => `(tactic| fail)
local macro_rules | `(tactic| walk_at "spare") => `(tactic| fail)
theorem drop2 {h₀ h : Heap} {L : Addr} {x y : Addr × Obj} {r : List (Addr × Obj)} (N : News h₀ L h (x :: y :: r)) : News h₀ L h r := fun q hq => N q (.tail _ (.tail _ hq))
local macro_rules | `(tactic| walk_at "binaryOp Mod int int") => `(tactic| (k_here; k_dflt (refine' mod_is ?k1 ?k2 ?_; (case k2 => with_reducible assumption); (case k1 => decide); k_whole); (intro t9 tk9); (try dsimp only)))
local macro_rules | `(tactic| walk_at "compareOp Eq ref ref") => `(tactic| (k_here; (with_unfolding_all refine' eqn_is ?k1 ?k2 ?k3 ?k4 ?k5 ?k6 ?_; (case k1 => is_list); (case k2 => l_intsC); (case k3 => is_list); (case k4 => l_intsC); (case k5 => units_room); (case k6 => with_reducible assumption); k_whole)))
local macro_rules | `(tactic| walk_at "compareOp NotEq ref ref") => `(tactic| (k_here; (with_unfolding_all refine' nen_is ?k1 ?k2 ?k3 ?k4 ?k5 ?k6 ?_; (case k1 => is_list); (case k2 => l_intsC); (case k3 => is_list); (case k4 => l_intsC); (case k5 => units_room); (case k6 => with_reducible assumption); k_whole)))
local macro_rules | `(tactic| walk_at "compareOp Eq int int") => `(tactic| (k_here; k_dflt (refine' eqd_is ?k1 ?_; (case k1 => with_reducible assumption))))
local macro_rules | `(tactic| walk_at "compareOp NotEq bool bool") => `(tactic| (k_here; k_dflt (refine' neb_same ?k1 ?_; (case k1 => first | exact rfl | with_reducible assumption))))
local macro_rules | `(tactic| walk_at "binaryOp Pow int int") => `(tactic| (k_here; k_dflt (refine' sqn_is ?k1 ?k2 ?_; (case k1 => omega); (case k2 => omega); k_whole); (intro t9 tk9); (try dsimp only)))
local macro_rules | `(tactic| walk_at "binaryOp Mult int int") => `(tactic| (k_here; k_dflt (refine' mulb_is ?k1 ?k2 ?_; (case k1 => omega); (case k2 => omega); k_whole); (intro t9 tk9); (try dsimp only)))
local macro_rules | `(tactic| walk_at "compareOp NotEq int int") => `(tactic| (k_here; k_dflt (refine' nei_no ?k1 ?_; (case k1 => first | with_reducible assumption | exact brahma1 _ _ _ _ | exact brahma2 _ _ _ _))))
local macro_rules | `(tactic| walk_at "binaryOp Add ref ref") => `(tactic| (k_here; k_dflt (refine' add_pv ?k1 ?k2 ?k3 ?k4 ?k5 ?k6 ?_; (case k1 => k_asm); (case k2 => k_asm); (case k3 => k_mem); (case k4 => k_mem); (case k5 => with_reducible assumption); (case k6 => exact Nat.le_of_ble_eq_true rfl); k_whole); (intro D9 h9 F9 N9 l9); (k_lt l9); (try dsimp only); (try k_sweep)))
local macro_rules | `(tactic| k_all) => `(tactic| with_reducible assumption)
local macro_rules | `(tactic| walk_at "exec For Name Subscript cons nil") => `(tactic| (k_here; refine stop_of ?_))
local macro_rules | `(tactic| walk_at "exec While BoolOp cons nil") => `(tactic| (k_here; refine stop_of ?_))
local macro_rules | `(tactic| walk_at "WhlRest") => `(tactic| ((with_reducible show WhlRest _ _ _ _ _ _ _ _ _ 0 _); refine stop_of ?_))
local macro_rules | `(tactic| walk_at "exec Assign cons ListComp") => `(tactic| (k_here; (with_reducible show wpAny _ _ (exec (Stmt.Assign _ (Expr.ListComp _ [⟨_, _, [Expr.BoolOp _ [_, Expr.Compare (Expr.ListComp _ _ _ _) _ _ _] _], _⟩] _ _) _) _) _ _ _); refine stop_of ?_))
local macro_rules | `(tactic| walk_at "CompSrcT") => `(tactic| (k_here; refine stop_of ?_))
local macro_rules | `(tactic| walk_at "compareOp IsNot") => `(tactic| (k_here; k_dflt (refine' isn_is ?k1 ?_; (case k1 => with_reducible assumption))))
local macro_rules | `(tactic| walk_at "execs cons") => `(tactic| (k_here; (with_reducible show wpAny _ _ (execs (Stmt.Assign [Expr.Name "two" _] _ _ :: _) _) _ _ _); refine stop_of ?_))
local macro_rules | `(tactic| walk_at "execs cons") => `(tactic| (k_here; (with_reducible show wpAny _ _ (execs (Stmt.While _ _ _ _ :: _) _) _ _ _); refine stop_of ?_))
local macro_rules | `(tactic| walk_at "execs cons") => `(tactic| (k_here; (with_reducible show wpAny _ _ (execs (Stmt.If (Expr.BoolOp _ [Expr.Compare (Expr.Name "number" _) _ _ _, _] _) _ _ _ :: _) _) _ _ _); refine stop_of ?_))
local macro_rules | `(tactic| walk_at "call ref") => `(tactic| (k_here; k_dflt (refine' ct_two ?k1 ?k2 ?k3 ?k4 ?k5 ?kK ?ko ?km ?kd ?ku ?_ ?_; (case k1 => k_asm); (case k2 => k_asm); (case k3 => k_asm); (case k4 => k_asm); (case k5 => k_asm); (case kK => first | exact rfl | assumption); (case km => k_mem); (case ko => exact ⟨_, _, _, _, _, _, _, _, _, _, rfl⟩); (case kd => ktr_room); (case ku => ktr_units); k_whole); (focus ((intro hn9 h9 tk9 F9 N9); (try dsimp only); (try k_sweep); walk_say "TWO none")); (rotate_left); (focus ((intro i9 j9 hij9 D9 t9 u9 h9 tk9 F9 N9 l9); (obtain ⟨⟨hi8, hi9⟩, ⟨hj8, hj9⟩, hsq9⟩ := two_ok hij9); (k_lt l9); (try dsimp only); (try k_sweep); walk_say "TWO some")); (rotate_right)))
local macro_rules | `(tactic| walk_at "call ref") => `(tactic| (k_here; k_dflt (refine' ct_is ?k1 ?k2 ?k3 ?k4 ?k5 ?kK ?ko ?km ?kd ?ku ?_; (case k1 => k_asm); (case k2 => k_asm); (case k3 => k_asm); (case k4 => k_asm); (case k5 => k_asm); (case kK => first | exact rfl | assumption); (case km => k_mem); (case ko => exact ⟨_, _, _, _, _, _, _, _, _, _, rfl⟩); (case kd => ktr_room); (case ku => ktr_units); k_whole; (intro t9 h9 tk9 F9 N9); (try dsimp only); (try k_sweep); walk_say "IS")))
local macro_rules | `(tactic| walk_at "call ref") => `(tactic| (k_here; k_dflt (refine' ct_div ?c1 ?c2 ?k1 ?k2 ?k3 ?k4 ?k5 ?kK ?ke ?kt ?ka ?ko ?kx ?ky ?kz ?kq ?kd ?ku ?_; (case c1 => assumption); (case c2 => assumption); (case k1 => k_asm); (case k2 => k_asm); (case k3 => k_asm); (case k4 => k_asm); (case k5 => k_asm); (case kK => first | exact rfl | assumption); (case ke => first | exact EndsIn.next (.next (.next (.next (.next (.next (ends_app _ _)))))) | exact EndsIn.next (.next (.next (.next (.next (.next (.next (.next (ends_app _ _)))))))) | exact EndsIn.next (.next (.next (.next (.next (.next (.next (.next (.next (ends_app _ _))))))))) | exact EndsIn.next (.next (.next (.next (.next (.next (.next (.next (.next (.next (ends_app _ _)))))))))) | exact EndsIn.next (.next (.next (.next (.next (.next (.next (.next (.next (.next (.next (ends_app _ _))))))))))) | exact EndsIn.next (.next (.next (.next (.next (.next (.next (.next (.next (.next (.next (.next (ends_app _ _))))))))))))); (case kt => assumption); (case ka => first | assumption | exact apart_cons (by assumption) (by assumption) | exact apart_list (by k_asm) (by first | exact EndsIn.next (.next (.next (.next (.next (.next (ends_app _ _)))))) | exact EndsIn.next (.next (.next (.next (.next (.next (.next (.next (ends_app _ _)))))))) | exact EndsIn.next (.next (.next (.next (.next (.next (.next (.next (.next (ends_app _ _))))))))) | exact EndsIn.next (.next (.next (.next (.next (.next (.next (.next (.next (.next (ends_app _ _)))))))))) | exact EndsIn.next (.next (.next (.next (.next (.next (.next (.next (.next (.next (.next (ends_app _ _))))))))))) | exact EndsIn.next (.next (.next (.next (.next (.next (.next (.next (.next (.next (.next (.next (ends_app _ _))))))))))))) (by assumption) (by repeat' (first | exact ApL.old (by assumption) | exact ApL.old (apart_cons (by assumption) (by assumption)) | refine ApL.new (by first | exact plain_lst | exact plain_listOf | exact plain_seq) ?_))); (case ko => assumption); (case kx => assumption); (case ky => decide); (case kz => decide); (case kq => assumption); (case kd => ktr_room); (case ku => ktr_units); k_whole; (intro D9 t9 u9 tl9 h9 tk9 F9 N9 st9 ap9 l9 lt9); (try dsimp only); (try simp only [List.cons_append] at N9); (try k_sweep); walk_say "DIV")))
local macro_rules | `(tactic| walk_at "call ref") => `(tactic| (k_here; (rename (_ → outEv _ _ _ = _) => hev9); k_dflt (refine' ct_even ?c1 ?c2 ?k1 ?k2 ?k3 ?k4 ?k5 ?kK ?ke ?kt ?ka ?kv ?kd ?ku ?_; (case c1 => assumption); (case c2 => assumption); (case k1 => k_asm); (case k2 => k_asm); (case k3 => k_asm); (case k4 => k_asm); (case k5 => k_asm); (case kK => first | exact rfl | assumption); (case ke => first | exact EndsIn.next (.next (.next (.next (.next (.next (ends_app _ _)))))) | exact EndsIn.next (.next (.next (.next (.next (.next (.next (.next (ends_app _ _)))))))) | exact EndsIn.next (.next (.next (.next (.next (.next (.next (.next (.next (ends_app _ _))))))))) | exact EndsIn.next (.next (.next (.next (.next (.next (.next (.next (.next (.next (ends_app _ _)))))))))) | exact EndsIn.next (.next (.next (.next (.next (.next (.next (.next (.next (.next (.next (ends_app _ _))))))))))) | exact EndsIn.next (.next (.next (.next (.next (.next (.next (.next (.next (.next (.next (.next (ends_app _ _))))))))))))); (case kt => assumption); (case ka => first | assumption | exact apart_cons (by assumption) (by assumption) | exact apart_list (by k_asm) (by first | exact EndsIn.next (.next (.next (.next (.next (.next (ends_app _ _)))))) | exact EndsIn.next (.next (.next (.next (.next (.next (.next (.next (ends_app _ _)))))))) | exact EndsIn.next (.next (.next (.next (.next (.next (.next (.next (.next (ends_app _ _))))))))) | exact EndsIn.next (.next (.next (.next (.next (.next (.next (.next (.next (.next (ends_app _ _)))))))))) | exact EndsIn.next (.next (.next (.next (.next (.next (.next (.next (.next (.next (.next (ends_app _ _))))))))))) | exact EndsIn.next (.next (.next (.next (.next (.next (.next (.next (.next (.next (.next (.next (ends_app _ _))))))))))))) (by assumption) (by repeat' (first | exact ApL.old (by assumption) | exact ApL.old (apart_cons (by assumption) (by assumption)) | refine ApL.new (by first | exact plain_lst | exact plain_listOf | exact plain_seq) ?_))); (case kv => exact hev9 (by omega)); (case kd => ktr_room); (case ku => ktr_units); k_whole; (intro t9 tl9 h9 tk9 F9 N9 st9 ap9); (try dsimp only); (try simp only [List.cons_append] at N9); (try k_sweep); walk_say "EVEN")))
theorem law_holds : PySem.Challenge.rw_zz0006_01.Holds := Mine.hd (by
  w_on
  w_strict (k_go0; (all_goals try k_fold); k_steps)
  unfold Stop
  rename Fr _ _ _ _ => F2
  rename News _ _ _ _ => N2
  rename (IntsAre _ (List.map _ _)) => hsq
  obtain ⟨t0, t1, t2, t3, t4, t5, t6, t7, t8, rfl⟩ := sq_row hsq
  with_unfolding_all refine' For_turns F2 ?_
  k_steps
  rename Fr _ _ _ _ => F3
  rename News _ _ _ _ => N3
  rename (IntsAre _ (List.take 2 _)) => hws
  with_unfolding_all refine iter_listTurns (by rfl) F3 (law_start N3) (.head _) (by rfl) (by rfl) ?_
  intro I hI
  with_unfolding_all refine turns_ind (LawR I _ _ _ _ _ _ _) ?_ ?_ _ _ _ ⟨_, [], _, _, _, [], (30, tabObj #[]) :: (37, tabObj #[]) :: ([] ++ ([] ++ [])), hws, (by rw [hws.length, List.length_take]; simp only [List.length_nil]; omega), ⟨(fun _ h => nomatch h), (fun _ h => nomatch h)⟩, by rfl, ⟨_, by with_unfolding_all assumption⟩, rfl, tail_start, fun r hr => Nat.ne_of_gt (hI r (.tail _ (.tail _ (.tail _ (.tail _ (.tail _ hr))))))⟩
  · intro m news hR
    obtain ⟨ns, pv, kp, lp, oN, PR, tl, hi, hlen, hpv, hm, ⟨vN, hoN⟩, rfl, ht, hIt⟩ := hR
    obtain ⟨ps1, ps2, cz1, cz2, rfl, _⟩ := ht
    clear N3 F3 hI hIt hws hsq
    with_unfolding_all refine ItemsRest.zero (fun h3 tk3 F3 N3 => ?_)
    rw [← ML_eq hm] at F3
    match pv, hlen, hpv with
    | [], _, _ =>
      have N4 := pick_tabs N3 (xs := []) (fun _ h => nomatch h)
      clear N3
      k_steps
    | [a], _, _ =>
      have N4 := pick_tabs N3 (xs := []) (fun _ h => nomatch h)
      clear N3
      k_steps
    | [a, b], _, hpv =>
      obtain ⟨D1, i1, j1, t1', u1, rfl, hm1, hb1, hb2⟩ := hpv.1 a (.head _)
      obtain ⟨D2, i2, j2, t2', u2, rfl, hm2, hb3, hb4⟩ := hpv.1 b (.tail _ (.head _))
      have N4 := pick_tabs N3 (xs := [(D1, tup2 i1 j1 t1' u1), (D2, tup2 i2 j2 t2' u2)]) (fun q hq => by
        rcases List.mem_cons.mp hq with rfl | hq
        · exact hm1
        · rw [List.mem_singleton.mp hq]; exact hm2)
      clear N3
      unfold tup2 at N4
      have f1 := mul_81 hb1 hb1
      have f2 := mul_81 hb2 hb2
      have f3 := mul_81 hb3 hb3
      have f4 := mul_81 hb4 hb4
      have f5 := mul_81 hb1 hb3
      have f6 := mul_81 hb1 hb4
      have f7 := mul_81 hb2 hb3
      have f8 := mul_81 hb2 hb4
      k_steps
    | _ :: _ :: _ :: _, hlen, _ => simp only [List.length_cons, List.length_nil] at hlen; omega
  · intro v r m news hR hnext
    clear N3 hsq hws
    obtain ⟨ns, pv, kp, lp, oN, PR, tl, hi, hlen, hpv, hm, ⟨vN, hoN⟩, rfl, ht, hIt⟩ := hR
    cases hi with | cons n0 tn0 hi =>
    rename_i ns'
    clear F3
    with_unfolding_all refine ItemsRest.val (fun h3 tk3 F3 => ?_)
    ktu_objs
    rw [← ML_eq hm] at F3
    rename News _ _ _ _ => N3
    obtain ⟨hPT, hlp⟩ := law_offs N3 hoN hpv ht
    have hI2 := ltN (hI _ (.tail _ (.tail _ (.tail _ (.head _)))))
    have hI3 := ltN (hI _ (.head _))
    have hI4 := ltN (hI _ (.tail _ (.tail _ (.head _))))
    clear hI
    dsimp only at hI2 hI3 hI4
    obtain ⟨n, hn⟩ : ∃ n : Int, n0.fmod 61 = n := ⟨_, rfl⟩
    have hok : LawOK n := hn ▸ law_ok _ (Int.fmod_nonneg_of_pos _ (by decide)) (Int.fmod_lt_of_pos _ (by decide))
    have hpl : pv.length ≤ 2 := by simp only [List.length_cons] at hlen; omega
    have hn0 : 0 ≤ n := hn ▸ Int.fmod_nonneg_of_pos _ (by decide)
    have hb1 := hok.b1
    have hb4 := hok.b4
    obtain ⟨lv, u8, v8, hlf, hlv, hok8, hp8, h87⟩ := hok.lf
    obtain ⟨b3, hb3⟩ : ∃ b, decide (sqs.filter (p3 n) = []) = b := ⟨_, rfl⟩
    rw [hb3] at h87
    k_steps
    rename Fr _ _ _ _ => F4
    rename News _ _ _ _ => N4
    unfold Stop
    refine src_row (p1 n) (by rfl) F4 N4 (by k_mem) ?_ ?_
    · intro k' t' I' oI' C' oC' D' m' ys' h' tk' E' hk' hC' hx' F' N' off' ne'
      clear F4 N4
      have off0 := off'
      clear off'
      k_steps
      · exact filt_yes (by assumption) (by assumption) off0 (fun _ h => h) (.inr ⟨_, by k_mem, rfl, _, rfl⟩) (decide_eq_true (by assumption))
      · exact filt_no (by assumption) (by assumption) off0 (fun _ h => h) (.inr ⟨_, by k_mem, rfl, _, rfl⟩) (decide_eq_false (by assumption))
    · intro g ys hys
      clear F4 N4
      k_steps
      rename News _ _ _ _ => N5
      unfold Stop
      refine cut_two n pv lp N5 ?_ ?_
      · intro N6
        clear N5
        k_steps
        · rename Fr _ _ _ _ => F7
          rename News _ _ _ _ => N7
          exact ⟨.none, false, PR, _, _, _, rfl, .inl ⟨rfl, rfl, by assumption⟩, hpv, by rfl, by rfl, F7, N7⟩
        · rename Fr _ _ _ _ => F7
          rename News _ _ _ _ => N7
          exact ⟨_, true, _ :: PR, _, _, _, rfl, .inr ⟨rfl, _, _, _, _, _, rfl, .head _, by assumption⟩, pairs_more hpv, by rfl, by rfl, F7, two_perm N7⟩
      · intro V2 b PR2 h5 tk5 m5 hV hpv2 hm5 hm6 F5 N6
        clear N5
        rename Fr _ _ _ _ => F6
        rw [← MT_eq hm5 hm6] at F6
        have hVn := hV.isnot
        have hev := hok.ev
        rw [hV.some] at hev
        have his := hok.is
        k_steps
        rename Fr _ _ _ _ => F4
        rename News _ _ _ _ => N4
        unfold Stop
        refine src_row (p3 n) (by rfl) F4 N4 (by k_mem) ?_ ?_
        · intro k' t' I' oI' C' oC' D' m' ys' h' tk' E' hk' hC' hx' F' N' off' ne'
          clear F4 N4
          have off0 := off'
          clear off'
          k_steps
          · exact filt_no (by assumption) (by assumption) off0 (fun _ h => h) (.inr ⟨_, by k_mem, rfl, _, rfl⟩) (p3_none (by assumption))
          · exact filt_yes (by assumption) (by assumption) off0 (fun _ h => .tail _ h) (.inr ⟨_, by k_mem, rfl, _, rfl⟩) (p3_some (by assumption) (by assumption))
          · exact filt_no (by assumption) (by assumption) off0 (fun _ h => h) (.inr ⟨_, by k_mem, rfl, _, rfl⟩) (p3_le (by assumption))
        · intro g ys3 hys3
          clear F4 N4
          k_steps
          rename Fr _ _ _ _ => F4
          rename News _ _ _ _ => N4
          unfold Stop
          refine assign_cell (p4 n) (vs := [Value.int 0 t0, Value.int 1 t1, Value.int 4 t2, Value.int 9 t3, Value.int 16 t4, Value.int 25 t5, Value.int 36 t6, Value.int 49 t7, Value.int 64 t8]) (by rfl) (by rfl) (by rfl) (by with_unfolding_all rfl) (by with_unfolding_all rfl) (by rfl) (by decide) (by rfl) (by rfl) (by rfl) F4 N4 (by k_mem) (row_ints _ _ _ _ _ _ _ _ _) (Nat.le_of_ble_eq_true rfl) (fun Q9 E9 hq9 => by walk1; exact hq9) ?_ ?_
          · intro k' t' I' oI' C' oC' K' oK' D' ys' h' tk' E' hd' F' N' off' ne'
            clear F4 N4
            k_steps
            · rename Fr _ _ _ _ => F4
              rename News _ _ _ _ => N4
              unfold Stop
              obtain ⟨bb, hbb⟩ : ∃ bb, (!decide (sqs.filter (p5 n k') = [])) = bb := ⟨_, rfl⟩
              refine src_row (p5 n k') (by rfl) F4 N4 (by k_mem) ?_ ?_
              · intro k2 t2' I2 oI2 C2 oC2 D2 m2 ys2 h2 tk2 E2 hk2 hC2 hx2 F2' N2' off2 ne2
                clear F4 N4
                have off0 := off2
                clear off2
                k_steps
                · exact filt_no (by assumption) (by assumption) off0 (fun _ h => h) (.inr ⟨_, by k_mem, rfl, _, rfl⟩) (p5_none (by assumption))
                · exact filt_yes (by assumption) (by assumption) off0 (fun _ h => .tail _ h) (.inr ⟨_, by k_mem, rfl, _, rfl⟩) (p5_some (by assumption) (by assumption))
                · exact filt_no (by assumption) (by assumption) off0 (fun _ h => h) (.inr ⟨_, by k_mem, rfl, _, rfl⟩) (p5_le (by assumption))
              · intro g ys5 hys5
                clear F4 N4
                cases bb with
                | true =>
                  k_steps
                  exact ⟨⟨p4_is (by assumption) hbb, _, rfl⟩, kept_of (by assumption) (by assumption) (fun _ h => .tail _ (.tail _ h))⟩
                | false =>
                  k_steps
                  exact ⟨p4_is (by assumption) hbb, kept_of (by assumption) (by assumption) (fun _ h => .tail _ (.tail _ h))⟩
            · exact ⟨p4_le (by assumption), kept_of (by assumption) (by assumption) (fun _ h => h)⟩
          · intro D4 ys4 h6 tk6 F6 N6 l6 hys4
            clear F4 N4
            k_lt l6
            k_steps
            rename Fr _ _ _ _ => F7
            rename News _ _ _ _ => N7
            unfold Stop
            refine' cut_left (tl := tl) lv ?he F7 (M5_eq (by rfl) (by rfl) (by rfl) (by rfl) (by rfl)) N7 ?hA ?h2
            case he => first | exact EndsIn.next (.next (.next (.next (.next (.next (ends_app _ _)))))) | exact EndsIn.next (.next (.next (.next (.next (.next (.next (.next (ends_app _ _)))))))) | exact EndsIn.next (.next (.next (.next (.next (.next (.next (.next (.next (ends_app _ _))))))))) | exact EndsIn.next (.next (.next (.next (.next (.next (.next (.next (.next (.next (ends_app _ _)))))))))) | exact EndsIn.next (.next (.next (.next (.next (.next (.next (.next (.next (.next (.next (ends_app _ _))))))))))) | exact EndsIn.next (.next (.next (.next (.next (.next (.next (.next (.next (.next (.next (.next (ends_app _ _))))))))))))
            case hA =>
              have hap : Apart _ tl := apart_list N7 (by first | exact EndsIn.next (.next (.next (.next (.next (.next (ends_app _ _)))))) | exact EndsIn.next (.next (.next (.next (.next (.next (.next (.next (ends_app _ _)))))))) | exact EndsIn.next (.next (.next (.next (.next (.next (.next (.next (.next (ends_app _ _))))))))) | exact EndsIn.next (.next (.next (.next (.next (.next (.next (.next (.next (.next (ends_app _ _)))))))))) | exact EndsIn.next (.next (.next (.next (.next (.next (.next (.next (.next (.next (.next (ends_app _ _))))))))))) | exact EndsIn.next (.next (.next (.next (.next (.next (.next (.next (.next (.next (.next (.next (ends_app _ _))))))))))))) ht (by repeat' (first | exact pairs_apL hpv2 | refine ApL.far (fun r hr => hIt r hr) ?_ | refine ApL.new (by first | exact plain_lst | exact plain_listOf | exact plain_seq | exact plain_cell (by assumption)) ?_))
              k_steps
              unfold Stop
              k_dflt (refine whl_start 0 ?_)
              refine' whl_left (tl := tl) ?he F7 (M5_eq (by rfl) (by rfl) (by rfl) (by rfl) (by rfl)) N7 ht hap hlf hn0 ?turn
              case he => first | exact EndsIn.next (.next (.next (.next (.next (.next (ends_app _ _)))))) | exact EndsIn.next (.next (.next (.next (.next (.next (.next (.next (ends_app _ _)))))))) | exact EndsIn.next (.next (.next (.next (.next (.next (.next (.next (.next (ends_app _ _))))))))) | exact EndsIn.next (.next (.next (.next (.next (.next (.next (.next (.next (.next (ends_app _ _)))))))))) | exact EndsIn.next (.next (.next (.next (.next (.next (.next (.next (.next (.next (.next (ends_app _ _))))))))))) | exact EndsIn.next (.next (.next (.next (.next (.next (.next (.next (.next (.next (.next (.next (ends_app _ _))))))))))))
              case turn =>
              clear F7 N7 ht hap hlf
              intro k7 x7 tx7 h7 tk7 m7 tl7 hl7 hx7 hm7 F8 N8 ht7 ha7 hnext7
              rw [← hm7] at F8
              simp only [List.cons_append] at N8
              obtain ⟨u7, v7, hp7⟩ : ∃ u v, posF x7 4 = (u, v) := ⟨_, _, rfl⟩
              rcases leftF_step hl7 with ⟨hx8, rfl⟩ | ⟨hx8, ho7, hu7, hr7⟩
              · k_steps
                rename Fr _ _ _ _ => F9
                rename News _ _ _ _ => N9
                exact ⟨_, _, _, _, _, rfl, M5_eq (by rfl) (by rfl) (by rfl) (by rfl) (by rfl), F9, N9, ht7, ha7⟩
              · rw [hp7] at hr7 hu7
                dsimp only at hr7 hu7
                rcases hr7 with ⟨hv7, rfl⟩ | ⟨hv7, hl8⟩
                · have hv8 := decide_eq_false hv7
                  k_steps
                  rename Fr _ _ _ _ => F9
                  rename News _ _ _ _ => N9
                  exact ⟨_, _, _, _, _, rfl, M5_eq (by rfl) (by rfl) (by rfl) (by rfl) (by rfl), F9, news_sub1 N9, by assumption, by assumption⟩
                · have hv8 := decide_eq_true hv7
                  k_steps
                  rename Fr _ _ _ _ => F9
                  rename News _ _ _ _ => N9
                  unfold Stop
                  exact hnext7 u7 _ _ _ _ _ hl8 hu7 (M5_eq (by rfl) (by rfl) (by rfl) (by rfl) (by rfl)) F9 (drop2 N9) (by assumption) (apart_tail (by assumption))
            case h2 =>
              clear F7 N7
              intro tx7 h7 tk7 m7 tl7 hm7 F8 N8 ht7 ha7
              rw [← hm7] at F8
              simp only [List.cons_append] at N8
              k_steps
              rename Fr _ _ _ _ => F4
              rename News _ _ _ _ => N4
              rename Apart _ _ => hAp8
              unfold Stop
              clear hys hys3 hys4 hlf h87 hb1 hb4 hb3
              refine cut_if F4 N4 hAp8 ?_ ?_
              · intro N6 hAp7
                clear N4 hAp8 ha7 ht7
                k_steps
                all_goals (
                  rename Fr _ _ _ _ => F9
                  rename News _ _ _ _ => N9
                  exact ⟨_, _, _, rfl, F9, N9, by assumption, by assumption⟩)
              · clear ht7 ha7
                intro h6 tk6 tl6 F5 N6 ht6 hAp6
                clear N4 F4 hAp8
                k_steps
                rename Fr _ _ _ _ => F4
                rename News _ _ _ _ => N4
                unfold Stop
                refine src_range (pk n) (by rfl) F4 N4 (by assumption) ?_ ?_
                · intro k' t' I' oI' C' oC' D' m' ys' h' tk' E' hk1' hk2' hC' hx' F' N' off' ne'
                  clear F4 N4
                  have off0 := off'
                  clear off'
                  k_steps
                  · exact filt_yes (by assumption) (by assumption) off0 (fun _ h => h) trivial (decide_eq_true (by assumption))
                  · exact filt_no (by assumption) (by assumption) off0 (fun _ h => h) trivial (decide_eq_false (by assumption))
                · intro g ysk hysk
                  clear F4 N4
                  cases b with
                  | true =>
                    k_steps
                    rename Fr _ _ _ _ => F9
                    rename News _ _ _ _ => N9
                    have N8 := law_end N9
                    rename Apart _ _ => hAp9
                    have hIt9 := apart_at (q := (I, _)) hAp9 (by k_mem)
                    refine unr_end F9 N8 (fun p hp => by rw [List.mem_singleton.mp hp]; exact .head _) (fun p hp => .tail _ hp) (law_off N8 hpv2 (by assumption) hIt9 (by omega) (by omega) (by omega) (by omega) (by omega)) ⟨⟨.head _, trivial⟩, hnext _ _ ⟨ns', _, _, _, _, PR2, _, hi, ?_, pairs_push hpv2 hV, by rfl, ⟨_, by assumption⟩, rfl, by assumption, hIt9⟩⟩
                    simp only [List.length_cons, List.length_append, List.length_nil] at hlen ⊢
                    omega
                  | false =>
                    k_steps
                    rename Fr _ _ _ _ => F9
                    rename News _ _ _ _ => N9
                    rename Apart _ _ => hAp9
                    have hIt9 := apart_at (q := (I, _)) hAp9 (by k_mem)
                    have N8 := law_end N9
                    refine unr_end F9 N8 (fun p hp => by rw [List.mem_singleton.mp hp]; exact .head _) (fun p hp => .tail _ hp) (law_off N8 hpv2 (by assumption) hIt9 (by omega) (by omega) (by omega) (by omega) (by omega)) ⟨⟨.head _, trivial⟩, hnext _ _ ⟨ns', pv ++ [], _, _, _, PR2, _, hi, ?_, by rw [List.append_nil]; exact hpv2, by rfl, ⟨_, by assumption⟩, rfl, by assumption, hIt9⟩⟩
                    simp only [List.length_cons, List.length_append, List.length_nil] at hlen ⊢
                    omega)
end Mine
theorem PySem.Challenge.cw_zz0006_01_holds : PySem.Challenge.rw_zz0006_01.Holds :=
  Mine.law_holds
