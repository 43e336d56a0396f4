import PyProof.Rows.All
import Wide.All
import OpenK.AllK
import Wide.FinOn
import PySem.Challenge.RW_jf0011_01
open PySem PySem.W PyProof.Rows PySem.Calls PySem.Spec
set_option Elab.async false
set_option maxRecDepth 100000
set_option maxHeartbeats 8000000
set_option pp.maxSteps 4000
set_option pp.deepTerms false
set_option linter.unusedVariables false
namespace Mine
open_top hd for PySem.Challenge.rw_jf0011_01
/-- the common tails of the lines below, laid once -/
theorem words_laid : (0 : Nat) = 0 := by
  k_with "zq code_def" => ((case kA => exact rfl); (case kF => exact rfl); (case kK => first | exact rfl | assumption); (case k1 => k_asm); (case k2 => k_asm); (case k3 => k_asm); (case k4 => k_asm); (case k5 => k_asm); (case k6 => k_is); (case k7 => k_is); (case k8 => k_room); (case k9 => first | exact BindsTo.of_eq rfl | exact binds_K (by k_in) rfl (by k_is) rfl rfl rfl); (case c5 => decide); (case kB => exact locs rfl); (case c2 => exact rfl); (case c3 => exact rfl); (case c4 => exact rfl); k_whole)
  k_with "zq code_defC" => ((case kA => exact rfl); (case kF => exact rfl); (case kK => first | exact rfl | assumption); (case k1 => k_asm); (case k2 => k_asm); (case k3 => k_asm); (case k4 => k_asm); (case k5 => k_asm); (case k6 => k_is); (case k7 => k_is); (case k8 => k_room); (case k9 => first | exact BindsTo.of_eq rfl | exact binds_K (by k_in) rfl (by k_is) rfl rfl rfl); (case kB => exact rfl); (case kD => decide +kernel); (case c2 => exact rfl); (case c3 => exact rfl); (case c4 => exact rfl); k_whole)
  k_with "zq base" => ((case zqB => k_asm); (case zqF => k_asm); (case zqX => k_asm); (case zqN => k_asm); (case zqT => k_asm); (case zqK => first | exact rfl | assumption))
  k_with "zq bits" => ((case zqb0 => omega); (case zqb1 => omega))
  k_with "zq room" => ((case zqD => k_room); (case zqU => k_units); k_whole)
  k_with "zq end" => ((try dsimp only); (try (delta PySem.W.CmpBack; dsimp only)); (try k_sweep))
  k_with "zq code_defS0" => ((case kA => exact rfl); (case k2 => k_asm); (case k1 => k_asm); (case k3 => k_asm); (case k4 => k_asm); (case k5 => k_asm); (case k6 => k_is); (case k7 => k_is); (case k8 => k_room); (case k9 => first | exact BindsTo.of_eq rfl | exact binds_K (by k_in) rfl (by k_is) rfl rfl rfl); (case kB => exact locs rfl); (case cK => assumption); (case c2 => exact rfl); (case c3 => exact rfl); (case c4 => exact rfl); (case c5 => decide); k_whole)
  k_with "zq mem4" => ((case zqhx => k_mem); (case zqhd => k_mem); (case zqhy => k_mem); (case zqhe => k_mem))
  k_with "zq mem2" => ((case zqhx => k_mem); (case zqhd => k_mem))
  k_with "zq code_defS" => ((case kA => exact rfl); (case k2 => k_asm); (case k1 => k_asm); (case XB => assumption); (case TB => assumption); (case D => assumption); (case T0 => first | assumption | exact KtsTurn.refl); (case k3 => k_asm); (case k4 => k_asm); (case k5 => k_asm); (case k6 => k_is); (case k7 => k_is); (case k8 => k_room); (case k9 => first | exact BindsTo.of_eq rfl | exact binds_K (by k_in) rfl (by k_is) rfl rfl rfl); (case kB => exact locs rfl); (case cK => exact rfl); (case c2 => exact rfl); (case c3 => exact rfl); (case c4 => exact rfl); (case c5 => decide); k_whole)
  k_with "zq base0" => ((case zqB => k_asm); (case zqF => k_asm); (case zqX => k_asm); (case zqN => k_asm); (case zqT => k_asm); (case zqXB => k_asm); (case zqTB => k_asm); (case zqK => first | exact rfl | assumption))
  rfl
local macro_rules | `(tactic| k_room) => `(tactic| ((try simp only [depth_under_make, depth_under_kw, depth_in1, depth_deeper, depth_caller]); (try dsimp only [ktrTop]); (try simp only [recursionLimit]); omega))
local macro_rules | `(tactic| k_units) => `(tactic| ((try simp only [units_in1, units_deeper, Around.mark_units, units_caller]); (try dsimp only [ktrTop]); (try simp only [cLine]); omega))
local macro_rules | `(tactic| k_enter) => `(tactic| (refine' code_def ?k1 ?k2 ?k3 ?k4 ?k5 ?kA ?kF ?kK ?k6 ?k7 ?k8 ?k9 ?kB ?_ ?c2 ?c3 ?c4 ?c5; k_extra "zq code_def"; intro g' L' h' FG' F' N' B' X' T'; (try dsimp only); (try k_lift B'); (try k_fold)))
section
theorem allNe {d : Addr} {l : List (Addr × Obj)} (h : ∀ p ∈ l, p.1 < d) : ∀ p ∈ l, p.1 ≠ d := fun p hp => Nat.ne_of_lt (h p hp)
theorem allNe2 {d e : Addr} {l : List (Addr × Obj)} (h : ∀ p ∈ l, p.1 < e) (he : @LE.le Nat _ e d) : ∀ p ∈ l, p.1 ≠ d := fun p hp => Nat.ne_of_lt (Nat.lt_of_lt_of_le (h p hp) he)
theorem allS1 {d : Addr} {a : Addr × Obj} {l : List (Addr × Obj)} (h : ∀ p ∈ a :: l, p.1 < d) : ∀ p ∈ l, p.1 < d := fun p hp => h p (.tail _ hp)
theorem allS2 {d : Addr} {a b : Addr × Obj} {l : List (Addr × Obj)} (h : ∀ p ∈ a :: b :: l, p.1 < d) : ∀ p ∈ l, p.1 < d := allS1 (allS1 h)
theorem allS3 {d : Addr} {a b c : Addr × Obj} {l : List (Addr × Obj)} (h : ∀ p ∈ a :: b :: c :: l, p.1 < d) : ∀ p ∈ l, p.1 < d := allS1 (allS2 h)
theorem allS4 {d : Addr} {a b c e : Addr × Obj} {l : List (Addr × Obj)} (h : ∀ p ∈ a :: b :: c :: e :: l, p.1 < d) : ∀ p ∈ l, p.1 < d := allS1 (allS3 h)
theorem allS5 {d : Addr} {a b c e f : Addr × Obj} {l : List (Addr × Obj)} (h : ∀ p ∈ a :: b :: c :: e :: f :: l, p.1 < d) : ∀ p ∈ l, p.1 < d := allS1 (allS4 h)
theorem fill0 : PySem.Challenge.rw_jf0011_01 = PySem.Challenge.rw_jf0011_01 ∧ hd.heap_39 = hd.heap_39 := by k_fill; exact ⟨rfl, rfl⟩
/-- two to the b -/
@[irreducible] def P2 (b : Int) : Int := 2 ^ b.toNat
theorem P2_pos (b : Int) : 0 < P2 b := by unfold P2; exact Int.pow_pos (by decide)
theorem P2_ne (b : Int) : P2 b ≠ 0 := Int.ne_of_gt (P2_pos b)
theorem P2_succ {b : Int} (h : 1 ≤ b) : P2 b = 2 * P2 (b - 1) := by
  unfold P2
  have e : b.toNat = (b - 1).toNat + 1 := by omega
  rw [e, Int.pow_succ, Int.mul_comm]
section
variable {prog : Program} {w : World} {A : Around} {E : Value → Shared → Prop} {s : Shared} {Q : Value → Shared → Prop}
theorem my_pow {n : Int} {t u : Tok} (h0 : 0 ≤ n) (h1 : n ≤ 41) (h : Q (.int (P2 n) s.toks) { s with toks := s.toks + 1 }) :
    wpAny (model prog w) A (binaryOp .Pow (.int 2 t) (.int n u)) Q E s := by
  unfold P2 at h
  exact pow_int_small h0 (by omega) (by decide) h
theorem my_mod {a b : Int} {t u : Tok} (h : Q (.int (a.fmod (P2 b)) s.toks) { s with toks := s.toks + 1 }) :
    wpAny (model prog w) A (binaryOp .Mod (.int a t) (.int (P2 b) u)) Q E s := mod_int' (P2_ne b) h
end
local macro_rules | `(tactic| k_all) => `(tactic| exact allNe (by assumption))
local macro_rules | `(tactic| walk_at "execs cons") => `(tactic| (k_here; first | k_gentoks | ((with_reducible refine wpAny_execs_cons ?_); try dsimp only)))
local macro_rules | `(tactic| walk_at "binaryOp Pow int int") => `(tactic| (k_here; (with_reducible refine my_pow ?kb1 ?kb2 ?_); (case kb1 => omega); (case kb2 => omega)))
local macro_rules | `(tactic| walk_at "binaryOp Mod int int") => `(tactic| (k_here; (with_reducible refine my_mod ?_)))
/-- the dict of a Serial -/
abbrev serD (P : Params) (v b : Int) (k1 t1 k2 t2 : Tok) : Obj :=
  dictOf [⟨PyData.keyHash P (Str.ofString "value"), .str (Str.ofString "value") k1, .int v t1⟩, ⟨PyData.keyHash P (Str.ofString "bits"), .str (Str.ofString "bits") k2, .int b t2⟩] 2

abbrev Cl (lim : Nat) (w : World) (mean : ExcName → Option Value) (mg mb : Str → Option Value) (f : Addr) (vs : List Value) (news : List (Addr × Obj))
    (RET : Heap → Addr → (Str → Option Value) → Shared → (Value → Shared → Prop) → Prop) : Prop :=
  ∀ (dp un : Nat) (gd : Option (List Code)) (cn : Str) (cs : Scope) (a : Addr) (ccd : Value) (cl : List (Str × Addr)) (outer : List Env) (A₀ : Around) (base h₀ : Heap) (L : Addr) (m : Str → Option Value) (s : Shared) (Q E : Value → Shared → Prop),
    Below A₀ base outer h₀ → Fr h₀ L s.heap m → (hd.heap_39 w.params).In h₀ → News h₀ L s.heap news → Top hd.view_39 (looseW hd.view_39 []) mean mg mb h₀ → cs.kind = .function → dp ≤ lim → un ≤ lim →
    RET h₀ L m s Q →
    wpAny (model PySem.Challenge.rw_jf0011_01.row.prog w) (ktrTop dp un gd cn cs L a ccd cl outer) (call (.ref f) vs) Q E s

theorem c_new {w : World} {mean : ExcName → Option Value} {mg mb : Str → Option Value} {news : List (Addr × Obj)} {v b : Int} {t u : Tok} (hb0 : 0 ≤ b) (hb : b ≤ 41) :
    Cl 900 w mean mg mb 109 [.int v t, .int b u] news (fun h₀ L m s Q =>
      ∀ x dx k1 t1 k2 t2 h' tk', Fr h₀ L h' m → News h₀ L h' ((x, instObj 109 dx) :: (dx, serD w.params (v.fmod (P2 b)) b k1 t1 k2 t2) :: news) → (∀ p ∈ news, p.1 < dx) → dx < x → Q (.ref x) { s with heap := h', toks := tk' }) := by
  intro dp un gd cn cs a ccd cl outer A₀ base h₀ L m s Q E B F X N T hk hdp hun hret
  k_steps
  all_goals exact hret _ _ _ _ _ _ _ _ (by assumption) (by assumption) (by assumption) (by assumption)
section
open PyProof.Rows.LCg PyProof.Rows.LCt
variable {prog : Program} {w : World} {A : Around} {E : Value → Shared → Prop} {s : Shared} {h₀ : Heap} {L : Addr} {m : Str → Option Value} {env : Env}
/-- the source of a comprehension is a made tuple -/
def TupSrc (prog : Program) (w : World) (A : Around) (h₀ : Heap) (L : Addr) (m : Str → Option Value) (env : Env) (ct elt : Expr) (x : Str) (scope : Scope) (cl : List (Str × Addr)) (Q : Value → Shared → Prop) (xv : Value) (s₁ : Shared) : Prop :=
  ∃ (ax : Addr) (its : Array Value) (k : Nat) (news : List (Addr × Obj)), xv = .ref ax ∧ A.handled = none ∧ Fr h₀ L s₁.heap m ∧ News h₀ L s₁.heap news ∧ (ax, ({ cls := .type "tuple", data := .seq its k } : Obj)) ∈ news ∧ its.size ≤ sizeLine ∧
    ∀ g : Heap, CompRestT prog w A h₀ L m env ct elt x scope cl { s₁ with heap := g } (fun nw => (ax, ({ cls := .type "tuple", data := .seq its k } : Obj)) ∈ nw) (fun i v => its[i]? = some v) (FinE h₀ L m { s₁ with heap := g } Q) its.size 0 [] news
theorem ListComp_tup {ct elt iter : Expr} {x : Str} {px : Pos} {scope : Scope} {cl : List (Str × Addr)} {pos : Pos} {Q : Value → Shared → Prop} (_F₀ : Fr h₀ L s.heap m)
    (hclos : closureFor scope env = pure cl) (hcell : ∀ y ∈ scope.names, y.2 ≠ .cell) (hkind : scope.kind = .function)
    (hnames : ∀ y ∈ scope.names, y.2 = .local → scope.names.lookup y.1 = some .local) (hx : scope.names.lookup x = some .local)
    (h : wpAny (model prog w) A (eval iter env) (TupSrc prog w A h₀ L m env ct elt x scope cl Q) E s)
    (hs : ∀ x, foldedSetIterable iter env x = pure x := by intro _; rfl) :
    wpAny (model prog w) A (eval (.ListComp elt [⟨.Name x px, iter, [ct], 0⟩] scope pos) env) Q E s := by
  rw [eval_ListComp]
  refine wpAny_comprehension_free (use := none) rfl hs hclos hkind hnames (wpAny_mono h (fun xv s₁ h₁ => ?_) fun _ _ e => e)
  obtain ⟨ax, its, k, news, rfl, hh, F, N, hm, hsz, R⟩ := h₁
  have hl : s₁.heap.IsTuple ax its := ⟨_, (N _ hm).1, rfl, k, rfl⟩
  have hlt : ax < s₁.heap.objs.size := Heap.lt_size (N _ hm).1
  refine wpAny_pyIter_tuple hl ?_
  have up : ∀ b o, s₁.heap.get? b = some o → (s₁.heap.push { cls := .type "tuple_iterator", data := .fields #[.ref ax, .int 0 0] }).get? b = some o := fun b o e => Heap.get?_push_of_some _ e
  refine block_T (Walks.tuple hh s₁.heap.objs.size ax (Nat.ne_of_lt hlt) its) hsz (fun i h st => by obtain ⟨o, e, _⟩ := st.1; exact ⟨o, e⟩) ?_ hcell hkind hx ⟨⟨_, Heap.get?_push_size _ rfl, rfl, rfl⟩, ?_⟩ (fun b hb => ?_)
    (F.keeps up) (N.grown up) (Nat.ne_of_lt F.ns.lt) (next_is_new F) (fun p hp => Nat.ne_of_lt (Heap.lt_size (N p hp).1)) hm (R _) ?_
  · intro i h h' o nw st e e' kk N' S
    exact ⟨by obtain ⟨o', q, r⟩ := st.1; rw [e] at q; cases q; exact ⟨o, e', r⟩, ⟨_, (N' _ S).1, rfl, k, rfl⟩⟩
  · exact ⟨_, up _ _ (N _ hm).1, rfl, k, rfl⟩
  · show b < (s₁.heap.push _).objs.size
    rw [Heap.size_push]
    rcases List.mem_cons.mp hb with rfl | hb
    · exact Nat.lt_succ_self _
    · rw [List.mem_singleton.mp hb]; exact Nat.lt_succ_of_lt hlt
  · intro D C h tk m' ys news' F' N' o1 hn hC₀ hD₀ hCL hDL hCD offC fin
    refine ⟨m', hn, fun h'' hs'' => fin D h'' tk (F'.change hs'' hCL hC₀) (fun p hp => ?_) o1⟩
    refine ⟨hs''.extBut _ _ ?_ (N' p hp).1, (N' p hp).2⟩
    rcases List.mem_cons.mp hp with rfl | hp
    · exact Ne.symm hCD
    · exact offC p hp
end
section
open PyProof.Rows.LCg PyProof.Rows.LCt
variable {prog : Program} {w : World} {A : Around} {h₀ : Heap} {L : Addr} {m : Str → Option Value} {env : Env}
theorem tupSrc {ct elt : Expr} {x : Str} {scope : Scope} {cl : List (Str × Addr)} {Q : Value → Shared → Prop} {ax : Addr} {its : Array Value} {k : Nat} {news : List (Addr × Obj)} {s₁ : Shared}
    (hh : A.handled = none) (F : Fr h₀ L s₁.heap m) (N : News h₀ L s₁.heap news) (hm : (ax, ({ cls := .type "tuple", data := .seq its k } : Obj)) ∈ news) (hsz : its.size ≤ sizeLine)
    (h : ∀ g : Heap, CompRestT prog w A h₀ L m env ct elt x scope cl { s₁ with heap := g } (fun nw => (ax, ({ cls := .type "tuple", data := .seq its k } : Obj)) ∈ nw) (fun i v => its[i]? = some v) (FinE h₀ L m { s₁ with heap := g } Q) its.size 0 [] news) :
    TupSrc prog w A h₀ L m env ct elt x scope cl Q (.ref ax) s₁ := ⟨ax, its, k, news, rfl, hh, F, N, hm, hsz, h⟩
end
theorem compEnd0 {h₀ : Heap} {L I C D : Addr} {m : Str → Option Value} {s₁ : Shared} {oI oC oD : Obj} {S : List (Addr × Obj) → Prop} {rest : Value → List (Addr × Obj) → Prop} {y : Value} {h' : Heap} {tk : Nat} {news' : List (Addr × Obj)}
    (N : News h₀ L h' ((I, oI) :: (C, oC) :: (D, oD) :: news')) (F : Fr h₀ L h' m) (off : PyProof.Rows.LCg.Off3 I C D news') (hS : S news') (r : rest y news') :
    PyProof.Rows.LCg.CompEnd h₀ L m s₁ I oI C oC D oD S rest y { s₁ with heap := h', toks := tk } := ⟨h', tk, news', rfl, F, N, off, hS, r⟩
/-- a claim for a def that the law's own frame calls -/
abbrev Cl0 (lim : Nat) (w : World) (mean : ExcName → Option Value) (mg mb : Str → Option Value) (f : Addr) (vs : List Value) (news : List (Addr × Obj))
    (RET : Heap → Addr → (Str → Option Value) → Shared → (Value → Shared → Prop) → Prop) : Prop :=
  ∀ (dp un : Nat) (gd : Option (List Code)) (cn : Str) (cs : Scope) (a : Addr) (ccd : Value) (A₀ : Around) (base h₀ : Heap) (L : Addr) (m : Str → Option Value) (s : Shared) (Q E : Value → Shared → Prop),
    Below A₀ base [] h₀ → Fr h₀ L s.heap m → (hd.heap_39 w.params).In h₀ → News h₀ L s.heap news → Top hd.view_39 (looseW hd.view_39 []) mean mg mb h₀ → (hd.heap_39 w.params).In base → Top hd.view_39 (looseW hd.view_39 []) mean mg mb base → cs.kind = .function → dp ≤ lim → un ≤ lim →
    RET h₀ L m s Q →
    wpAny (model PySem.Challenge.rw_jf0011_01.row.prog w) (ktrTop dp un gd cn cs L a ccd [] []) (call (.ref f) vs) Q E s
theorem P2_fmod (a b : Int) : (a.fmod (P2 b)).fmod (P2 b) = a.fmod (P2 b) := by
  rw [Int.fmod_eq_emod_of_nonneg _ (Int.le_of_lt (P2_pos b)), Int.fmod_eq_emod_of_nonneg _ (Int.le_of_lt (P2_pos b)), Int.emod_emod_of_dvd _ (Int.dvd_refl _)]
/-- a step along the circle -/
def addS (v n b : Int) (mi : Bool) : Int := (if mi = true then v - n else v + n).fmod (P2 b)
/-- what _law_sum tells -/
def sumS (v n b : Int) (mi : Bool) : Int := if -(P2 (b - 1)) < n ∧ n < P2 (b - 1) then addS v n b mi else -1
theorem sumS_t {v n b : Int} {mi : Bool} (h : mi = true) (h1 : -(P2 (b - 1)) < n ∧ n < P2 (b - 1)) : (v - n).fmod (P2 b) = sumS v n b mi := by
  subst h; simp [sumS, addS, h1]
theorem sumS_f {v n b : Int} {mi : Bool} (h : mi = false) (h1 : -(P2 (b - 1)) < n ∧ n < P2 (b - 1)) : (v + n).fmod (P2 b) = sumS v n b mi := by
  subst h; simp [sumS, addS, h1]
theorem sumS_n {v n b : Int} {mi : Bool} (h1 : ¬ (-(P2 (b - 1)) < n ∧ n < P2 (b - 1))) : -1 = sumS v n b mi := by
  simp [sumS, h1]
theorem endI {h₀ h' : Heap} {L : Addr} {m : Str → Option Value} {s : Shared} {Q : Value → Shared → Prop} {news news' : List (Addr × Obj)} {x y : Int} {t : Tok} {tk' : Nat}
    (hret : ∀ r h' tk', Fr h₀ L h' m → News h₀ L h' news → Q (.int x r) { s with heap := h', toks := tk' }) (e : y = x) (F : Fr h₀ L h' m) (N : News h₀ L h' news') (sub : ∀ p ∈ news, p ∈ news') :
    Q (.int y t) { s with heap := h', toks := tk' } := by
  subst e
  exact hret t h' tk' F fun p hp => N p (sub p hp)
/-- an entry of the ledger, and the others -/
inductive Spl (d : Addr) (o : Obj) : List (Addr × Obj) → List (Addr × Obj) → Prop
  | head {r} : (∀ p ∈ r, p.1 ≠ d) → Spl d o ((d, o) :: r) r
  | tail {p r r'} : p.1 ≠ d → Spl d o r r' → Spl d o (p :: r) (p :: r')
theorem Spl.mem {d : Addr} {o : Obj} : ∀ {l r : List (Addr × Obj)}, Spl d o l r → ∀ p ∈ (d, o) :: r, p ∈ l
  | _, _, .head _, p, hp => hp
  | _, _, .tail (p := q) _ h, p, hp => by
    rcases List.mem_cons.mp hp with rfl | hp
    · exact List.mem_cons_of_mem _ (h.mem _ (.head _))
    · rcases List.mem_cons.mp hp with rfl | hp
      · exact .head _
      · exact List.mem_cons_of_mem _ (h.mem _ (.tail _ hp))
theorem Spl.ne {d : Addr} {o : Obj} : ∀ {l r : List (Addr × Obj)}, Spl d o l r → ∀ p ∈ r, p.1 ≠ d
  | _, _, .head h, p, hp => h p hp
  | _, _, .tail hq h, p, hp => by
    rcases List.mem_cons.mp hp with rfl | hp
    · exact hq
    · exact h.ne p hp
theorem newsHead {h₀ h : Heap} {L d : Addr} {o : Obj} {l r : List (Addr × Obj)} (N : News h₀ L h l) (S : Spl d o l r) : News h₀ L h ((d, o) :: r) := fun p hp => N p (S.mem p hp)
end
section
variable {prog : Program} {w : World} {A₀ : Around} {E : Value → Shared → Prop} {s' : Shared} {base g g₀ h : Heap} {outer : List Env} {L a e : Addr} {m : Str → Option Value} {name : Str} {scope : Scope} {cd : Value}
  {b₀ : Stmt} {suite : List Stmt} {pos np : Pos} {rest : List ExceptHandler} {Q : Flow → Shared → Prop} {news : List (Addr × Obj)} {KF : Frag}
  {p : Program} {loose : List Str} {mean : ExcName → Option Value} {mg mb : Str → Option Value} {x : Str} {X T' : String}
/-- an exception that the frame's own statement raised, met by the frame's own first clause -/
theorem caught_here0 (hx : Heap.NewExc h s'.heap e X) (F : Fr g L h m) (N : News g L h news) (K : Below A₀ base outer g) (XB : KF.In base) (TB : Top p loose mean mg mb base)
    (D : KtsDicts (outer.filterMap (·.frame)) g) (T0 : KtsTurn (outer.filterMap (·.frame)) g₀ g)
    (ex : nsIn KF mainGlobals x = some none) (hv : bootBuiltins x = some (.type T')) (hn' : x ≠ "__name__")
    (hexc : isSubtype (.type T') (.type "BaseException") = pure true) (hnt : isSubtype (.type ((Manifest.find? T').elim "type" fun y => y.metatype)) (.type "tuple") = pure false) (hsub : isSubtype (.type X) (.type T') = pure true)
    (k : ∀ h' g', KtsTurn (outer.filterMap (·.frame)) g₀ g' → Fr g' L h' m → News g' L h' news → Below A₀ base outer g' → KF.In g' → Top p loose mean mg mb g' → KtsDicts (outer.filterMap (·.frame)) g' →
      wpAny (model prog w) ((A₀.deeper (envOf name scope L a cd)).mark (some (.ref e))) (execs (b₀ :: suite) (envOf name scope L a cd)) Q E { s' with heap := h' })
    (hk : scope.kind = .function := by rfl) (hkx : (envOf name scope L a cd).kindOf x = some .globalImplicit := by rfl) (hd : (x == ("__debug__" : Str)) = false := by decide)
    (hE : PassesOwnAt (model prog w) ((A₀.deeper (envOf name scope L a cd)).mark (some (.ref e))) (A₀.deeper (envOf name scope L a cd)) (envOf name scope L a cd) E := by passes_own) :
    wpAny (model prog w) (A₀.deeper (envOf name scope L a cd)) (noteFrame (.ref e) (envOf name scope L a cd))
      (fun _ s₂ => wpAny (model prog w) (A₀.deeper (envOf name scope L a cd)) (setFlight (.ref e) none) (fun _ s₃ =>
        wpAny (model prog w) (A₀.deeper (envOf name scope L a cd)) (handleBy (.ref e) (envOf name scope L a cd) (.ExceptHandler (some (.Name x np)) none (b₀ :: suite) pos :: rest)) Q E s₃) E s₂) E s' := by
  have P := K.push (name := name) (a := a) (cd := cd) F hk
  generalize hfs : (envOf name scope L a cd :: outer).filterMap (·.frame) = fs
  have frameOfL : ∀ env ∈ (envOf name scope L a cd :: outer), ∀ b, env.frame = some b → b ∈ fs := fun env he b hb => hfs ▸ List.mem_filterMap.mpr ⟨env, he, hb⟩
  have notBase : ∀ b ∈ fs, base.get? b = none := fun b hm => (P.frames.mem (hfs ▸ hm)).1
  have stB : base.StaysIn (hideAll h fs) := fun b o q => hideAll_get _ (P.stays b o q) fun hm => by
    have z := notBase b hm
    rw [z] at q; cases q
  have hBG : ∀ b o, h.get? b = some o → b ∉ (envOf name scope L a cd :: outer).filterMap (·.frame) → (hideAll h fs).get? b = some o := fun b o q nm => hideAll_get _ q (hfs ▸ nm)
  have offN : ∀ q ∈ news, q.1 ∉ fs := fun q hq hm => by
    obtain ⟨env, he, hf⟩ := List.mem_filterMap.mp (hfs ▸ hm)
    rcases List.mem_cons.mp he with rfl | he
    · exact (N q hq).2.1 (Option.some.inj hf).symm
    · obtain ⟨_, o, ho, _⟩ := K.frames.mem (List.mem_filterMap.mpr ⟨env, he, hf⟩)
      rw [(N q hq).2.2] at ho; cases ho
  obtain ⟨ob, tp, he, hcls, hdat⟩ := hx.there
  have freshB : (hideAll h fs).get? e = none := by
    cases q : (hideAll h fs).get? e with
    | none => rfl
    | some o =>
      have z := of_hideAll _ q
      rw [hx.new] at z; cases z
  have FFB : s'.heap.FunFrames (hideAll h fs) (envOf name scope L a cd :: outer) := (funFrames_hide P.frames frameOfL).of_keeps fun b o hb _ => ⟨o, hx.keeps b o hb, rfl⟩
  have first : wpAny (model prog w) (A₀.deeper (envOf name scope L a cd)) (noteFrame (.ref e) (envOf name scope L a cd))
      (fun _ s₂ => ∃ h₄, s₂ = { s' with heap := h₄ } ∧ Heap.HeldW (hideAll h fs) (envOf name scope L a cd :: outer) e (.type X) tp L h₄ ∧ h.UpToSlots h₄) E s' := by
    unfold noteFrame
    simp only [show (envOf name scope L a cd).frame = some L from rfl]
    refine wpAny_bind (wpAny_field he hdat (x := .none) rfl ?_)
    rw [if_neg (by decide)]
    refine wpAny_entryW (a0 := tp) P.stack FFB rfl he (fun b o eb => hx.keeps b o (of_hideAll _ eb)) freshB hdat (by show 1 < 6; decide) rfl fun h₄ hN => ?_
    obtain ⟨k1, k2, k3, k4⟩ := hN
    exact ⟨h₄, rfl, ⟨k1, freshB, k2, by rw [← hcls]; exact k3⟩, (Heap.UpToSlots.of_keeps hx.keeps).trans k4⟩
  refine wpAny_mono first (fun _ s₂ h₂ => ?_) fun _ _ z => z
  obtain ⟨h₄, rfl, held₄, up₄⟩ := h₂
  refine wpAny_landsW held₄ fun h₅ fly₅ up₅ => ?_
  have up₅' := up₄.trans up₅
  obtain ⟨g₅, T₅, F₅, K₅⟩ := kts_ground K F hBG fly₅.1 up₅'
  obtain ⟨ob', hob, hobc⟩ := fly₅.there
  refine wpAny_handleBy_builtin (X := X) (T := T') (b := true) hexc hnt hsub (name_B F₅ (XB.keeps K₅.stays) (topRead_of (TB.keeps K₅.stays)) ex hv hn' ⟨rfl, ⟨ob', hob, hobc⟩, ?_⟩ hk hkx hd)
  refine lands_againW fly₅ fun h₆ fly₆ up₆ => ?_
  obtain ⟨g₆, T₆, F₆, K₆⟩ := kts_ground K F hBG fly₆.1 (up₅'.trans up₆)
  refine wpAny_passesOwnAt hE (k h₆ g₆ (T0.trans T₆) F₆ (fun q hq => ?_) K₆ (XB.keeps K₆.stays) (TB.keeps K₆.stays) (D.turn T₆))
  refine ⟨fly₆.1 _ _ (hideAll_get _ (N q hq).1 (offN q hq)), (N q hq).2.1, T₆.none_ _ (N q hq).2.2⟩
end

section
open PyProof.Rows.LCg
variable {prog : Program} {w : World} {A₀ : Around} {E : Value → Shared → Prop} {s : Shared} {base g g₀ : Heap} {outer : List Env} {L a : Addr} {m : Str → Option Value} {name : Str} {scope : Scope} {cd : Value}
  {Q : Flow → Shared → Prop} {news : List (Addr × Obj)} {KF : Frag} {body : List Stmt}
  {p : Program} {loose : List Str} {mean : ExcName → Option Value} {mg mb : Str → Option Value} {x : Str}
/-- between two turns of a loop whose turns may turn the frames below -/
def BetweenB (A₀ : Around) (base : Heap) (outer : List Env) (KF : Frag) (p : Program) (loose : List Str) (mean : ExcName → Option Value) (mg mb : Str → Option Value) (g₀ : Heap) (L : Addr) (x : Str) (m : Str → Option Value) (news : List (Addr × Obj)) (I : Addr) (s : Shared) (i : Nat) (s₂ : Shared) : Prop :=
  ∃ g' h tk m', s₂ = { s with heap := h, toks := tk } ∧ KtsTurn (outer.filterMap (·.frame)) g₀ g' ∧ Fr g' L h m' ∧ (∀ y, y ≠ x → m' y = m y) ∧ News g' L h ((I, itR (i : Int) ((4 : Int) - (i : Int))) :: news) ∧ Below A₀ base outer g' ∧ KF.In g' ∧ Top p loose mean mg mb g' ∧ KtsDicts (outer.filterMap (·.frame)) g'
/-- the end of a turn -/
def TurnB (A₀ : Around) (base : Heap) (outer : List Env) (KF : Frag) (p : Program) (loose : List Str) (mean : ExcName → Option Value) (mg mb : Str → Option Value) (g₀ : Heap) (L : Addr) (x : Str) (m : Str → Option Value) (news : List (Addr × Obj)) (I : Addr) (s : Shared) (i : Nat) (Q : Flow → Shared → Prop) (f : Flow) (s₂ : Shared) : Prop :=
  match f with
  | .ret v => Q (.ret v) s₂
  | .brk => Q .next s₂
  | _ => BetweenB A₀ base outer KF p loose mean mg mb g₀ L x m news I s i s₂
theorem for4_turned {r : Addr} {a₀ b₀ : Int} {t₀ u₀ v₀ : Tok} {px : Pos}
    (hh : (A₀.deeper (envOf name scope L a cd)).handled = none) (hr : IsRange s.heap r a₀ b₀ 1 t₀ u₀ v₀) (ha₀ : a₀ = 0) (hb₀ : b₀ = 4) (F : Fr g L s.heap m) (N : News g L s.heap news) (K : Below A₀ base outer g) (X : KF.In g) (T : Top p loose mean mg mb g)
    (D : KtsDicts (outer.filterMap (·.frame)) g) (T0 : KtsTurn (outer.filterMap (·.frame)) g₀ g)
    (turn : ∀ (i : Nat) t I g' h tk, i < 4 → KtsTurn (outer.filterMap (·.frame)) g₀ g' → Fr g' L h (fun y => if y = x then some (.int (i : Int) t) else m y) → News g' L h ((I, itR ((i + 1 : Nat) : Int) ((4 : Int) - ((i + 1 : Nat) : Int))) :: news) → Below A₀ base outer g' → KF.In g' → Top p loose mean mg mb g' → KtsDicts (outer.filterMap (·.frame)) g' →
      wpAny (model prog w) (A₀.deeper (envOf name scope L a cd)) (execs body (envOf name scope L a cd)) (TurnB A₀ base outer KF p loose mean mg mb g₀ L x m news I s (i + 1) Q) E { s with heap := h, toks := tk })
    (done : ∀ (v : Option Value) g' h tk, KtsTurn (outer.filterMap (·.frame)) g₀ g' → Fr g' L h (fun y => if y = x then v else m y) → News g' L h news → Below A₀ base outer g' → KF.In g' → Top p loose mean mg mb g' → KtsDicts (outer.filterMap (·.frame)) g' → Q .next { s with heap := h, toks := tk })
    (hk : scope.kind = .function := by rfl) (hl : (envOf name scope L a cd).kindOf x = some .local := by rfl)
    (hE : PassesOwn (model prog w) (A₀.deeper (envOf name scope L a cd)) (envOf name scope L a cd) E := by passes_own) :
    wpAny (model prog w) (A₀.deeper (envOf name scope L a cd)) (pyIter (.ref r)) (fun it s₂ =>
      codeAny (model prog w) (A₀.deeper (envOf name scope L a cd)) (.forLoop (.Name x px) it body [] (envOf name scope L a cd)) (fun r s' => match r with | .ok f => Q f s' | .error e => cameBackBy (model prog w) (A₀.deeper (envOf name scope L a cd)) (envOf name scope L a cd) E e s') s₂) E s := by
  subst ha₀
  subst hb₀
  refine wpAny_pyIter_range hr (by decide) ?_
  generalize hI : s.heap.objs.size = I
  have offI : ∀ q ∈ news, q.1 ≠ I := fun q hq => Nat.ne_of_lt (hI ▸ Heap.lt_size (N q hq).1)
  have newI : g.get? I = none := hI ▸ next_is_new F
  have LI : L ≠ I := Nat.ne_of_lt (hI ▸ F.ns.lt)
  have W := Walks.range (prog := prog) (w := w) (A := A₀.deeper (envOf name scope L a cd)) hh I 0 1 4
  refine codeAny_forLoop_any (fun n s' => ∃ i : Nat, i ≤ 4 ∧ n = 4 + 1 - i ∧ BetweenB A₀ base outer KF p loose mean mg mb g₀ L x m news I s i s') ?_ 5 ⟨0, Nat.zero_le _, rfl, g, _, s.toks, m, rfl, T0, F.push _, fun _ _ => rfl, fun q hq => ?_, K, X, T, D⟩
  · rintro n s' ⟨i, hi, rfl, g', h, tk, m', rfl, T', F', same, N', K', X', P', D'⟩
    have hIg : g'.get? I = none := (N' _ List.mem_cons_self).2.2
    have st : IsRangeIter h I (0 + (i : Int) * 1) ((4 : Nat) - (i : Int)) 1 := by
      have z := (N' _ List.mem_cons_self).1
      show h.get? I = _
      rw [z]; simp [itR]
    have Nn : News g' L h news := fun q hq => N' q (.tail _ hq)
    by_cases hlt : i < 4
    · refine W.item i _ _ _ hlt st fun v h₁ tk₁ hv st₁ keep₁ => ?_
      obtain ⟨t, rfl⟩ := hv
      have F₁ : Fr g' L h₁ m' := fr_but F' keep₁ LI hIg
      have N₁ : News g' L h₁ news := news_but Nn keep₁ offI
      have itv : h₁.get? I = some (itR ((i + 1 : Nat) : Int) ((4 : Int) - ((i + 1 : Nat) : Int))) := by
        have z : IsRangeIter h₁ I (0 + ((i + 1 : Nat) : Int) * 1) ((4 : Nat) - ((i + 1 : Nat) : Int)) 1 := st₁
        have e : (0 + ((i + 1 : Nat) : Int) * 1) = ((i + 1 : Nat) : Int) := by omega
        rw [e] at z
        exact z
      have N₁' : News g' L h₁ ((I, itR ((i + 1 : Nat) : Int) ((4 : Int) - ((i + 1 : Nat) : Int))) :: news) := fun q hq => by
        rcases List.mem_cons.mp hq with rfl | hq
        · exact ⟨itv, Ne.symm LI, hIg⟩
        · exact N₁ q hq
      unfold letOwnedTupleGo
      refine wpAny_pure ?_
      refine wpAny_assign_Name (stN F₁ N₁' (fun h₂ F₂ N₂ => ?_) hk hl)
      have em : (fun y => if y = x then some (Value.int (0 + (i : Int) * 1) t) else m' y) = fun y => if y = x then some (Value.int (i : Int) t) else m y := by
        funext y
        by_cases hy : y = x
        · simp [hy]
        · simp [hy, same y hy]
      rw [em] at F₂
      refine wpAny_mono (turn i t I g' h₂ _ hlt T' F₂ N₂ K' X' P' D') (fun f s₃ h₃ => ?_) hE
      cases f with
      | ret v => exact h₃
      | brk => exact h₃
      | next => exact ⟨4 + 1 - (i + 1), by omega, i + 1, hlt, rfl, h₃⟩
      | cont => exact ⟨4 + 1 - (i + 1), by omega, i + 1, hlt, rfl, h₃⟩
    · have e4 : i = 4 := by omega
      subst e4
      refine W.done _ _ _ st fun h₁ tk₁ keep₁ => wpAny_execs_nil ?_
      refine done (m' x) g' h₁ tk₁ T' ?_ (news_but Nn keep₁ offI) K' X' P' D'
      have F₁ : Fr g' L h₁ m' := fr_but F' keep₁ LI hIg
      have em : m' = fun y => if y = x then m' x else m y := by
        funext y
        by_cases hy : y = x
        · simp [hy]
        · simp [hy, same y hy]
      rw [em] at F₁
      exact F₁
  · rcases List.mem_cons.mp hq with rfl | hq
    · exact ⟨by rw [← hI]; exact Heap.get?_push_size _ rfl, Ne.symm LI, newI⟩
    · exact ⟨Heap.get?_push_of_some _ (N q hq).1, (N q hq).2⟩
end

section
variable {prog : Program} {w : World} {A : Around} {E : Value → Shared → Prop} {s : Shared} {K : Frag} {x y C f g : Addr} {ox oy : Obj} {od od2 : Option Obj} {b : Value}
theorem tryCmp_own {nm : Str} {Q : Option Value → Shared → Prop} (X : K.In s.heap) (I : InstAt s.heap x ox C od) (hs : findIn K (.ref C) nm = some (some (.ref f))) (hf : isFn K (.ref f) = true)
    (h : wpAny (model prog w) A (call (.ref f) [.ref x, b]) (fun v s' => v = .notImplemented ∧ Q none s') E s) : wpAny (model prog w) A (tryCompare (.ref x) nm b) Q E s := by
  unfold tryCompare
  refine wpAny_bind (ifBound_K X I hs hf (wpAny_mono h (fun v s' hv => ?_) fun _ _ e => e))
  obtain ⟨rfl, hq⟩ := hv
  exact wpAny_pure hq
theorem same_inst {Q : Bool → Shared → Prop} (hne : x ≠ y) (I : InstAt s.heap x ox C od) (I2 : InstAt s.heap y oy C od2) (h : Q false s) : wpAny (model prog w) A (isSame (.ref x) (.ref y)) Q E s := by
  unfold isSame
  dsimp only
  rw [if_neg (by simpa using hne)]
  refine wpAny_bind (wpAny_load I.at_ (wpAny_bind (wpAny_load I2.at_ ?_)))
  rw [I.cls]
  exact wpAny_pure h
def nameOk (K : Frag) (C : Addr) : Bool := match clsIn K C with
  | some cd => decide (¬ cd.name.cps.foldl (fun k c => k + (Str.utf8Of c).length) 0 > 50) && decide (cd.name.toString.length ≤ 1000)
  | none => false
theorem name_own {Q : String → Shared → Prop} (X : K.In s.heap) (I : InstAt s.heap x ox C od) (hn : nameOk K C = true) (h : ∀ n : String, n.length ≤ 1000 → Q n s) : wpAny (model prog w) A (PySem.typeNameOf (.ref x)) Q E s := by
  unfold nameOk at hn
  split at hn
  · rename_i cd hcd
    rw [Bool.and_eq_true, decide_eq_true_eq, decide_eq_true_eq] at hn
    unfold PySem.typeNameOf shownTypeOf
    refine wpAny_bind (wpAny_bind (I.type.here ?_))
    rw [if_neg (by simp)]
    refine wpAny_pure ?_
    unfold typeName
    dsimp only
    refine wpAny_bind ((looks_clsIn X hcd).here ?_)
    rw [if_neg hn.1]
    exact wpAny_pure (h _ hn.2)
  · cases hn
theorem msg_fits {a c n m : String} (ha : a.length ≤ 1000) (hc : c.length ≤ 1000) (hn : n.length ≤ 1000) (hm : m.length ≤ 1000) : (Str.ofString ("'" ++ a ++ "' not supported between instances of '" ++ n ++ "' and '" ++ m ++ c)).length ≤ sizeLine := by
  rw [PySem.ofString_length, sizeLine_eq]
  simp only [String.length_append]
  have e1 : "'".length ≤ 100 := by decide
  have e3 : "' not supported between instances of '".length ≤ 100 := by decide
  have e4 : "' and '".length ≤ 100 := by decide
  omega
theorem str_decl_eq (t : Str) (u : Tok) (l : Addr) (C dx : Addr) :
    Meets (Builtin.«str.__eq__» ⟨[.str t u, .ref l], []⟩) (fun _ R s => s.heap.get? l = some (instObj C dx) ∧ R (.ok (.ret .notImplemented)) s) :=
  .of_wp fun prog w A R s h => by obtain ⟨hp, g, d, tk, os⟩ := s; obtain ⟨hl, h⟩ := h; wp_walk using wpAny_loadPart' hl, wpAny_load hl; exact ⟨_, rfl, h⟩
theorem str_ni_eq {Q : Value → Shared → Prop} {t : Str} {u : Tok} {dx : Addr} (hl : s.heap.get? x = some (instObj C dx)) (h : Q .notImplemented s) : wpAny (model prog w) A (call (.builtin "str.__eq__") [.str t u, .ref x]) Q E s :=
  call_meets F.slot_str_eq (typeIs_str s t u) F.entry_str_eq (F.args_str_eq_2 _ _) (str_decl_eq t u x C dx) ⟨hl, h⟩
theorem str_decl_ne (t : Str) (u : Tok) (l : Addr) (C dx : Addr) :
    Meets (Builtin.«str.__ne__» ⟨[.str t u, .ref l], []⟩) (fun _ R s => s.heap.get? l = some (instObj C dx) ∧ R (.ok (.ret .notImplemented)) s) :=
  .of_wp fun prog w A R s h => by obtain ⟨hp, g, d, tk, os⟩ := s; obtain ⟨hl, h⟩ := h; wp_walk using wpAny_loadPart' hl, wpAny_load hl; exact ⟨_, rfl, h⟩
theorem str_ni_ne {Q : Value → Shared → Prop} {t : Str} {u : Tok} {dx : Addr} (hl : s.heap.get? x = some (instObj C dx)) (h : Q .notImplemented s) : wpAny (model prog w) A (call (.builtin "str.__ne__") [.str t u, .ref x]) Q E s :=
  call_meets F.slot_str_ne (typeIs_str s t u) F.entry_str_ne (F.args_str_ne_2 _ _) (str_decl_ne t u x C dx) ⟨hl, h⟩
theorem str_decl_lt (t : Str) (u : Tok) (l : Addr) (C dx : Addr) :
    Meets (Builtin.«str.__lt__» ⟨[.str t u, .ref l], []⟩) (fun _ R s => s.heap.get? l = some (instObj C dx) ∧ R (.ok (.ret .notImplemented)) s) :=
  .of_wp fun prog w A R s h => by obtain ⟨hp, g, d, tk, os⟩ := s; obtain ⟨hl, h⟩ := h; wp_walk using wpAny_loadPart' hl, wpAny_load hl; exact ⟨_, rfl, h⟩
theorem str_ni_lt {Q : Value → Shared → Prop} {t : Str} {u : Tok} {dx : Addr} (hl : s.heap.get? x = some (instObj C dx)) (h : Q .notImplemented s) : wpAny (model prog w) A (call (.builtin "str.__lt__") [.str t u, .ref x]) Q E s :=
  call_meets F.slot_str_lt (typeIs_str s t u) F.entry_str_lt (F.args_str_lt_2 _ _) (str_decl_lt t u x C dx) ⟨hl, h⟩
theorem str_decl_gt (t : Str) (u : Tok) (l : Addr) (C dx : Addr) :
    Meets (Builtin.«str.__gt__» ⟨[.str t u, .ref l], []⟩) (fun _ R s => s.heap.get? l = some (instObj C dx) ∧ R (.ok (.ret .notImplemented)) s) :=
  .of_wp fun prog w A R s h => by obtain ⟨hp, g, d, tk, os⟩ := s; obtain ⟨hl, h⟩ := h; wp_walk using wpAny_loadPart' hl, wpAny_load hl; exact ⟨_, rfl, h⟩
theorem str_ni_gt {Q : Value → Shared → Prop} {t : Str} {u : Tok} {dx : Addr} (hl : s.heap.get? x = some (instObj C dx)) (h : Q .notImplemented s) : wpAny (model prog w) A (call (.builtin "str.__gt__") [.str t u, .ref x]) Q E s :=
  call_meets F.slot_str_gt (typeIs_str s t u) F.entry_str_gt (F.args_str_gt_2 _ _) (str_decl_gt t u x C dx) ⟨hl, h⟩
theorem eq_ni2 {Q : Value → Shared → Prop} (hu : A.units < cLine) (hne : x ≠ y) (X : K.In s.heap) (I : InstAt s.heap x ox C od) (hs : findIn K (.ref C) "__eq__" = some (some (.ref f))) (hf : isFn K (.ref f) = true)
    (I2 : InstAt s.heap y oy C od2)
    (h : wpAny (model prog w) A (call (.ref f) [.ref x, .ref y]) (fun v s₁ => v = .notImplemented ∧ K.In s₁.heap ∧ InstAt s₁.heap y oy C od2 ∧
      wpAny (model prog w) A (call (.ref f) [.ref y, .ref x]) (fun v s₂ => v = .notImplemented ∧ InstAt s₂.heap x ox C od ∧ InstAt s₂.heap y oy C od2 ∧ Q (.bool false) s₂) E s₁) E s) :
    wpAny (model prog w) A (compareOp .Eq (.ref x) (.ref y)) Q E s := by
  show wpAny _ A (richCompare .Eq _ _) Q E s
  unfold richCompare
  simp only [oneThing_ref, cmpInfo]
  refine wpAny_holding (wpAny_bind (wpAny_cRoomFor hu ?_))
  refine wpAny_bind (I.type.here (wpAny_bind (I2.type.here ?_)))
  simp only [bne_self_eq_false, Bool.false_eq_true, if_false]
  refine wpAny_bind (wpAny_pure ?_)
  simp only [Bool.false_eq_true, if_false, Bool.not_false, if_true]
  refine wpAny_bind (tryCmp_own X I hs hf (wpAny_mono h (fun v s₁ h₁ => ⟨h₁.1, ?_⟩) fun _ _ e => e))
  obtain ⟨_, X₁, J₁, h₁⟩ := h₁
  refine wpAny_bind (tryCmp_own X₁ J₁ hs hf (wpAny_mono h₁ (fun v s₂ h₂ => ⟨h₂.1, ?_⟩) fun _ _ e => e))
  obtain ⟨_, J₂, J₃, q⟩ := h₂
  refine wpAny_bind (wpAny_rule (wpAny_bind (same_inst hne J₂ J₃ (wpAny_pure q))))
theorem ne_ni2 {Q : Value → Shared → Prop} (hu : A.units < cLine) (hne : x ≠ y) (X : K.In s.heap) (I : InstAt s.heap x ox C od) (hs : findIn K (.ref C) "__ne__" = some (some (.ref f))) (hf : isFn K (.ref f) = true)
    (I2 : InstAt s.heap y oy C od2)
    (h : wpAny (model prog w) A (call (.ref f) [.ref x, .ref y]) (fun v s₁ => v = .notImplemented ∧ K.In s₁.heap ∧ InstAt s₁.heap y oy C od2 ∧
      wpAny (model prog w) A (call (.ref f) [.ref y, .ref x]) (fun v s₂ => v = .notImplemented ∧ InstAt s₂.heap x ox C od ∧ InstAt s₂.heap y oy C od2 ∧ Q (.bool true) s₂) E s₁) E s) :
    wpAny (model prog w) A (compareOp .NotEq (.ref x) (.ref y)) Q E s := by
  show wpAny _ A (richCompare .NotEq _ _) Q E s
  unfold richCompare
  simp only [oneThing_ref, cmpInfo]
  refine wpAny_holding (wpAny_bind (wpAny_cRoomFor hu ?_))
  refine wpAny_bind (I.type.here (wpAny_bind (I2.type.here ?_)))
  simp only [bne_self_eq_false, Bool.false_eq_true, if_false]
  refine wpAny_bind (wpAny_pure ?_)
  simp only [Bool.false_eq_true, if_false, Bool.not_false, if_true]
  refine wpAny_bind (tryCmp_own X I hs hf (wpAny_mono h (fun v s₁ h₁ => ⟨h₁.1, ?_⟩) fun _ _ e => e))
  obtain ⟨_, X₁, J₁, h₁⟩ := h₁
  refine wpAny_bind (tryCmp_own X₁ J₁ hs hf (wpAny_mono h₁ (fun v s₂ h₂ => ⟨h₂.1, ?_⟩) fun _ _ e => e))
  obtain ⟨_, J₂, J₃, q⟩ := h₂
  refine wpAny_bind (wpAny_rule (wpAny_bind (same_inst hne J₂ J₃ (wpAny_pure q))))
theorem lt_ni2 {Q : Value → Shared → Prop} (hu : A.units < cLine) (hne : x ≠ y) (hh : A.handled = none) (hn : nameOk K C = true) (X : K.In s.heap) (I : InstAt s.heap x ox C od) (hs : findIn K (.ref C) "__lt__" = some (some (.ref f))) (hf : isFn K (.ref f) = true)
    (hs2 : findIn K (.ref C) "__gt__" = some (some (.ref g))) (hf2 : isFn K (.ref g) = true)
    (I2 : InstAt s.heap y oy C od2)
    (h : wpAny (model prog w) A (call (.ref f) [.ref x, .ref y]) (fun v s₁ => v = .notImplemented ∧ K.In s₁.heap ∧ InstAt s₁.heap y oy C od2 ∧
      wpAny (model prog w) A (call (.ref g) [.ref y, .ref x]) (fun v s₂ => v = .notImplemented ∧ InstAt s₂.heap x ox C od ∧ InstAt s₂.heap y oy C od2 ∧ K.In s₂.heap ∧ ∀ h' tk e, Heap.NewExc s₂.heap h' e "TypeError" → E (.ref e) { s₂ with heap := h', toks := tk }) E s₁) E s) :
    wpAny (model prog w) A (compareOp .Lt (.ref x) (.ref y)) Q E s := by
  show wpAny _ A (richCompare .Lt _ _) Q E s
  unfold richCompare
  simp only [oneThing_ref, cmpInfo]
  refine wpAny_holding (wpAny_bind (wpAny_cRoomFor hu ?_))
  refine wpAny_bind (I.type.here (wpAny_bind (I2.type.here ?_)))
  simp only [bne_self_eq_false, Bool.false_eq_true, if_false]
  refine wpAny_bind (wpAny_pure ?_)
  simp only [Bool.false_eq_true, if_false, Bool.not_false, if_true]
  refine wpAny_bind (tryCmp_own X I hs hf (wpAny_mono h (fun v s₁ h₁ => ⟨h₁.1, ?_⟩) fun _ _ e => e))
  obtain ⟨_, X₁, J₁, h₁⟩ := h₁
  refine wpAny_bind (tryCmp_own X₁ J₁ hs2 hf2 (wpAny_mono h₁ (fun v s₂ h₂ => ⟨h₂.1, ?_⟩) fun _ _ e => e))
  obtain ⟨_, J₂, J₃, q⟩ := h₂
  refine wpAny_bind (wpAny_rule (wpAny_bind (name_own q.1 J₂ hn fun n1 l1 => wpAny_bind (name_own q.1 J₃ hn fun n2 l2 => wpAny_raiseTypeError hh q.2 ?_))))
  exact msg_fits (by decide) (by decide) l1 l2
theorem gt_ni2 {Q : Value → Shared → Prop} (hu : A.units < cLine) (hne : x ≠ y) (hh : A.handled = none) (hn : nameOk K C = true) (X : K.In s.heap) (I : InstAt s.heap x ox C od) (hs : findIn K (.ref C) "__gt__" = some (some (.ref f))) (hf : isFn K (.ref f) = true)
    (hs2 : findIn K (.ref C) "__lt__" = some (some (.ref g))) (hf2 : isFn K (.ref g) = true)
    (I2 : InstAt s.heap y oy C od2)
    (h : wpAny (model prog w) A (call (.ref f) [.ref x, .ref y]) (fun v s₁ => v = .notImplemented ∧ K.In s₁.heap ∧ InstAt s₁.heap y oy C od2 ∧
      wpAny (model prog w) A (call (.ref g) [.ref y, .ref x]) (fun v s₂ => v = .notImplemented ∧ InstAt s₂.heap x ox C od ∧ InstAt s₂.heap y oy C od2 ∧ K.In s₂.heap ∧ ∀ h' tk e, Heap.NewExc s₂.heap h' e "TypeError" → E (.ref e) { s₂ with heap := h', toks := tk }) E s₁) E s) :
    wpAny (model prog w) A (compareOp .Gt (.ref x) (.ref y)) Q E s := by
  show wpAny _ A (richCompare .Gt _ _) Q E s
  unfold richCompare
  simp only [oneThing_ref, cmpInfo]
  refine wpAny_holding (wpAny_bind (wpAny_cRoomFor hu ?_))
  refine wpAny_bind (I.type.here (wpAny_bind (I2.type.here ?_)))
  simp only [bne_self_eq_false, Bool.false_eq_true, if_false]
  refine wpAny_bind (wpAny_pure ?_)
  simp only [Bool.false_eq_true, if_false, Bool.not_false, if_true]
  refine wpAny_bind (tryCmp_own X I hs hf (wpAny_mono h (fun v s₁ h₁ => ⟨h₁.1, ?_⟩) fun _ _ e => e))
  obtain ⟨_, X₁, J₁, h₁⟩ := h₁
  refine wpAny_bind (tryCmp_own X₁ J₁ hs2 hf2 (wpAny_mono h₁ (fun v s₂ h₂ => ⟨h₂.1, ?_⟩) fun _ _ e => e))
  obtain ⟨_, J₂, J₃, q⟩ := h₂
  refine wpAny_bind (wpAny_rule (wpAny_bind (name_own q.1 J₂ hn fun n1 l1 => wpAny_bind (name_own q.1 J₃ hn fun n2 l2 => wpAny_raiseTypeError hh q.2 ?_))))
  exact msg_fits (by decide) (by decide) l1 l2
theorem eq_niT {Q : Value → Shared → Prop} {t : Str} {u : Tok} {dx : Addr} (hu : A.units < cLine) (X : K.In s.heap) (I : InstAt s.heap x (instObj C dx) C od) (hs : findIn K (.ref C) "__eq__" = some (some (.ref f))) (hf : isFn K (.ref f) = true)
    (hsub : subIn K (.type "str") (.ref C) = some false)
    (h : wpAny (model prog w) A (call (.ref f) [.ref x, .str t u]) (fun v s₁ => v = .notImplemented ∧ K.In s₁.heap ∧ InstAt s₁.heap x (instObj C dx) C od ∧ Q (.bool false) s₁) E s) :
    wpAny (model prog w) A (compareOp .Eq (.ref x) (.str t u)) Q E s := by
  show wpAny _ A (richCompare .Eq _ _) Q E s
  unfold richCompare
  simp only [oneThing_ref, cmpInfo]
  refine wpAny_holding (wpAny_bind (wpAny_cRoomFor hu ?_))
  have L2 : Looks (model prog w) s.heap (typeOf (.str t u)) (.type "str") := Looks.of_pure rfl
  refine wpAny_bind (I.type.here (wpAny_bind (L2.here ?_)))
  rw [if_pos (by simp)]
  refine wpAny_bind ((looks_subIn X hsub).here ?_)
  simp only [Bool.false_eq_true, if_false, Bool.not_false, if_true]
  refine wpAny_bind (tryCmp_own X I hs hf (wpAny_mono h (fun v s₁ h₁ => ⟨h₁.1, ?_⟩) fun _ _ e => e))
  obtain ⟨_, X₁, J₁, q⟩ := h₁
  refine wpAny_bind (m := tryCompare (.str t u) _ _) (wpAny_tryCompare_declines (typeIs_str s₁ t u) F.slot_str_eq_refl (str_ni_eq J₁.at_ ⟨rfl, ?_⟩))
  refine wpAny_bind (wpAny_rule (wpAny_bind (wpAny_pure (wpAny_pure q))))
theorem ne_niT {Q : Value → Shared → Prop} {t : Str} {u : Tok} {dx : Addr} (hu : A.units < cLine) (X : K.In s.heap) (I : InstAt s.heap x (instObj C dx) C od) (hs : findIn K (.ref C) "__ne__" = some (some (.ref f))) (hf : isFn K (.ref f) = true)
    (hsub : subIn K (.type "str") (.ref C) = some false)
    (h : wpAny (model prog w) A (call (.ref f) [.ref x, .str t u]) (fun v s₁ => v = .notImplemented ∧ K.In s₁.heap ∧ InstAt s₁.heap x (instObj C dx) C od ∧ Q (.bool true) s₁) E s) :
    wpAny (model prog w) A (compareOp .NotEq (.ref x) (.str t u)) Q E s := by
  show wpAny _ A (richCompare .NotEq _ _) Q E s
  unfold richCompare
  simp only [oneThing_ref, cmpInfo]
  refine wpAny_holding (wpAny_bind (wpAny_cRoomFor hu ?_))
  have L2 : Looks (model prog w) s.heap (typeOf (.str t u)) (.type "str") := Looks.of_pure rfl
  refine wpAny_bind (I.type.here (wpAny_bind (L2.here ?_)))
  rw [if_pos (by simp)]
  refine wpAny_bind ((looks_subIn X hsub).here ?_)
  simp only [Bool.false_eq_true, if_false, Bool.not_false, if_true]
  refine wpAny_bind (tryCmp_own X I hs hf (wpAny_mono h (fun v s₁ h₁ => ⟨h₁.1, ?_⟩) fun _ _ e => e))
  obtain ⟨_, X₁, J₁, q⟩ := h₁
  refine wpAny_bind (m := tryCompare (.str t u) _ _) (wpAny_tryCompare_declines (typeIs_str s₁ t u) F.slot_str_ne_refl (str_ni_ne J₁.at_ ⟨rfl, ?_⟩))
  refine wpAny_bind (wpAny_rule (wpAny_bind (wpAny_pure (wpAny_pure q))))
theorem lt_niT {Q : Value → Shared → Prop} {t : Str} {u : Tok} {dx : Addr} (hu : A.units < cLine) (hh : A.handled = none) (hn : nameOk K C = true) (X : K.In s.heap) (I : InstAt s.heap x (instObj C dx) C od) (hs : findIn K (.ref C) "__lt__" = some (some (.ref f))) (hf : isFn K (.ref f) = true)
    (hsub : subIn K (.type "str") (.ref C) = some false)
    (h : wpAny (model prog w) A (call (.ref f) [.ref x, .str t u]) (fun v s₁ => v = .notImplemented ∧ K.In s₁.heap ∧ InstAt s₁.heap x (instObj C dx) C od ∧ K.In s₁.heap ∧ ∀ h' tk e, Heap.NewExc s₁.heap h' e "TypeError" → E (.ref e) { s₁ with heap := h', toks := tk }) E s) :
    wpAny (model prog w) A (compareOp .Lt (.ref x) (.str t u)) Q E s := by
  show wpAny _ A (richCompare .Lt _ _) Q E s
  unfold richCompare
  simp only [oneThing_ref, cmpInfo]
  refine wpAny_holding (wpAny_bind (wpAny_cRoomFor hu ?_))
  have L2 : Looks (model prog w) s.heap (typeOf (.str t u)) (.type "str") := Looks.of_pure rfl
  refine wpAny_bind (I.type.here (wpAny_bind (L2.here ?_)))
  rw [if_pos (by simp)]
  refine wpAny_bind ((looks_subIn X hsub).here ?_)
  simp only [Bool.false_eq_true, if_false, Bool.not_false, if_true]
  refine wpAny_bind (tryCmp_own X I hs hf (wpAny_mono h (fun v s₁ h₁ => ⟨h₁.1, ?_⟩) fun _ _ e => e))
  obtain ⟨_, X₁, J₁, q⟩ := h₁
  refine wpAny_bind (m := tryCompare (.str t u) _ _) (wpAny_tryCompare_declines (typeIs_str s₁ t u) F.slot_str_gt_refl (str_ni_gt J₁.at_ ⟨rfl, ?_⟩))
  refine wpAny_bind (wpAny_rule (wpAny_bind (name_own q.1 J₁ hn fun n1 l1 => wpAny_bind (wpAny_typeNameOf' (typeIs_str s₁ t u) (by decide) (wpAny_raiseTypeError hh q.2 ?_)))))
  exact msg_fits (by decide) (by decide) l1 (by decide)
theorem gt_niT {Q : Value → Shared → Prop} {t : Str} {u : Tok} {dx : Addr} (hu : A.units < cLine) (hh : A.handled = none) (hn : nameOk K C = true) (X : K.In s.heap) (I : InstAt s.heap x (instObj C dx) C od) (hs : findIn K (.ref C) "__gt__" = some (some (.ref f))) (hf : isFn K (.ref f) = true)
    (hsub : subIn K (.type "str") (.ref C) = some false)
    (h : wpAny (model prog w) A (call (.ref f) [.ref x, .str t u]) (fun v s₁ => v = .notImplemented ∧ K.In s₁.heap ∧ InstAt s₁.heap x (instObj C dx) C od ∧ K.In s₁.heap ∧ ∀ h' tk e, Heap.NewExc s₁.heap h' e "TypeError" → E (.ref e) { s₁ with heap := h', toks := tk }) E s) :
    wpAny (model prog w) A (compareOp .Gt (.ref x) (.str t u)) Q E s := by
  show wpAny _ A (richCompare .Gt _ _) Q E s
  unfold richCompare
  simp only [oneThing_ref, cmpInfo]
  refine wpAny_holding (wpAny_bind (wpAny_cRoomFor hu ?_))
  have L2 : Looks (model prog w) s.heap (typeOf (.str t u)) (.type "str") := Looks.of_pure rfl
  refine wpAny_bind (I.type.here (wpAny_bind (L2.here ?_)))
  rw [if_pos (by simp)]
  refine wpAny_bind ((looks_subIn X hsub).here ?_)
  simp only [Bool.false_eq_true, if_false, Bool.not_false, if_true]
  refine wpAny_bind (tryCmp_own X I hs hf (wpAny_mono h (fun v s₁ h₁ => ⟨h₁.1, ?_⟩) fun _ _ e => e))
  obtain ⟨_, X₁, J₁, q⟩ := h₁
  refine wpAny_bind (m := tryCompare (.str t u) _ _) (wpAny_tryCompare_declines (typeIs_str s₁ t u) F.slot_str_lt_refl (str_ni_lt J₁.at_ ⟨rfl, ?_⟩))
  refine wpAny_bind (wpAny_rule (wpAny_bind (name_own q.1 J₁ hn fun n1 l1 => wpAny_bind (wpAny_typeNameOf' (typeIs_str s₁ t u) (by decide) (wpAny_raiseTypeError hh q.2 ?_)))))
  exact msg_fits (by decide) (by decide) l1 (by decide)
end

section
variable {prog : Program} {w : World} {A : Around} {E : Value → Shared → Prop} {s : Shared} {env : Env} {h₀ : Heap} {target : Expr} {body : List Stmt} {Q : Flow → Shared → Prop}
/-- a loop over enumerate(..), by what holds between its turns -/
theorem rest_enum {ws : List (Addr × String)} {keep : List (Addr × Obj)} (J : Nat → (Str → Option Value) → List (Addr × Obj) → Prop) (hk : ∀ i m n, J i m n → SubL keep n)
    (turn : ∀ (i : Nat) n tn m news v h tk, J i m news → (Itm.pair (fun t => .int (i : Int) t) (.int n tn)).Is v h → Fr h₀ env.locals h m → AllObj ws (fun its => News h₀ env.locals h (its ++ news) →
      wpAny (model prog w) A (assign target env v) (fun _ s₂ => wpAny (model prog w) A (execs body env) (UnrPostW h₀ env.locals { s with heap := h, toks := tk } its (J (i + 1)) Q) E s₂) E { s with heap := h, toks := tk }))
    (done : ∀ i m news h tk, J i m news → Fr h₀ env.locals h m → News h₀ env.locals h news → Q .next { s with heap := h, toks := tk }) :
    ∀ (vs : List Value) (i : Nat) m news, (∀ v ∈ vs, ∃ n t, v = .int n t) → J i m news → ItemsRest prog w A E h₀ env target body Q s ws keep (enumItems i vs) m news
  | [], i, m, news, _, hJ => fun h tk F N => done i m news h tk hJ F N
  | v :: r, i, m, news, hv, hJ => by
    obtain ⟨n, tn, rfl⟩ := hv v (.head _)
    have ih := rest_enum J hk turn done r (i + 1)
    have allMono : ∀ (ws : List (Addr × String)) (f g : List (Addr × Obj) → Prop), (∀ its, f its → g its) → AllObj ws f → AllObj ws g := by
      intro ws
      induction ws with
      | nil => intro f g hfg hf; exact hfg _ hf
      | cons a t iht => intro f g hfg hf o ho; exact iht _ _ (fun its => hfg _) (hf o ho)
    intro u h tk hu F
    refine allMono _ _ _ (fun its hi N => ?_) (turn i n tn m news u h tk hJ hu F)
    refine wpAny_mono (hi N) (fun _ s₂ h₂ => wpAny_mono h₂ (fun f s₃ h₃ => ?_) fun _ _ e => e) fun _ _ e => e
    have fin : UnrEndW h₀ env.locals { s with heap := h, toks := tk } its (J (i + 1)) s₃ → UnrEndW h₀ env.locals { s with heap := h, toks := tk } its (fun m' n' => SubL keep n' ∧ ItemsRest prog w A E h₀ env target body Q s ws keep (enumItems (i + 1) r) m' n') s₃ := by
      rintro ⟨h', tk', m', news', e, F', N', o', hJ'⟩
      exact ⟨h', tk', m', news', e, F', N', o', hk _ _ _ hJ', ih m' news' (fun v hv' => hv v (.tail _ hv')) hJ'⟩
    cases f with
    | ret v => exact h₃
    | brk => exact h₃
    | next => exact fin h₃
    | cont => exact fin h₃
end

def Stop (P : Prop) : Prop := P
/-- the law's frame between the turns -/
abbrev MM (x : Addr) (b : Int) (tb tw : Tok) (v : Int) (tv : Tok) (u : Str → Option Value) : Str → Option Value := fun y =>
  if y = Str.ofString "one" then some (.ref x) else if y = Str.ofString "bits" then some (.int b tb) else if y = Str.ofString "whole" then some (.int (P2 b) tw) else if y = Str.ofString "value" then some (.int v tv) else u y
theorem MM_of {x : Addr} {b : Int} {tb tw : Tok} {v : Int} {tv : Tok} {m : Str → Option Value} (m1 : m (Str.ofString "one") = some (.ref x)) (m2 : m (Str.ofString "bits") = some (.int b tb)) (m3 : m (Str.ofString "whole") = some (.int (P2 b) tw)) (m4 : m (Str.ofString "value") = some (.int v tv)) :
    m = MM x b tb tw v tv m := by
  funext y
  show m y = if y = Str.ofString "one" then some (.ref x) else if y = Str.ofString "bits" then some (.int b tb) else if y = Str.ofString "whole" then some (.int (P2 b) tw) else if y = Str.ofString "value" then some (.int v tv) else m y
  by_cases h1 : y = Str.ofString "one"
  · rw [if_pos h1, h1, m1]
  rw [if_neg h1]
  by_cases h2 : y = Str.ofString "bits"
  · rw [if_pos h2, h2, m2]
  rw [if_neg h2]
  by_cases h3 : y = Str.ofString "whole"
  · rw [if_pos h3, h3, m3]
  rw [if_neg h3]
  by_cases h4 : y = Str.ofString "value"
  · rw [if_pos h4, h4, m4]
  rw [if_neg h4]
/-- what holds between the turns -/
def JJ (P : Params) (l x d : Addr) (us : List Value) (b : Int) (tb tw k1 k2 t2 : Tok) (_i : Nat) (m : Str → Option Value) (news : List (Addr × Obj)) : Prop :=
  ∃ v tv ta u, m = MM x b tb tw v tv u ∧ news = [(l, listOf us.toArray 0), (d, serD P v b k1 ta k2 t2), (x, instObj 109 d)] ∧ 0 ≤ v ∧ v < P2 b
section
variable {prog : Program} {w : World} {A : Around} {E : Value → Shared → Prop} {s : Shared} {env : Env} {h₀ : Heap} {elts : List Expr} {kk : Nat} {pos : Pos} {body : List Stmt} {Q : Flow → Shared → Prop}
theorem loop_start {P : Params} {l x d : Addr} {us : List Value} {b v : Int} {tb tw tv k1 t1 k2 t2 : Tok} {m₀ : Str → Option Value} {all : List (Addr × Obj)} (hh : A.handled = none) (F : Fr h₀ env.locals s.heap m₀) (N : News h₀ env.locals s.heap all)
    (hl : (l, listOf us.toArray 0) ∈ all) (hx : (x, instObj 109 d) ∈ all) (hd : (d, serD P v b k1 t1 k2 t2) ∈ all) (hdx : @LT.lt Nat _ d x) (hxl : @LT.lt Nat _ x l)
    (m1 : m₀ (Str.ofString "one") = some (.ref x)) (m2 : m₀ (Str.ofString "bits") = some (.int b tb)) (m3 : m₀ (Str.ofString "whole") = some (.int (P2 b) tw)) (m4 : m₀ (Str.ofString "value") = some (.int v tv))
    (hu : ∀ z ∈ us, ∃ n t, z = .int n t) (hv0 : 0 ≤ v) (hv1 : v < P2 b)
    (turn : Stop (∀ (i : Nat) n tn v ta tv u T ti h tk I oe oi, 0 ≤ v → v < P2 b → IsTup h T #[.int (i : Int) ti, .int n tn] → oe.cls = .type "enumerate" → oi.cls = .type "list_iterator" → @LT.lt Nat _ d x → @LT.lt Nat _ x l → @LT.lt Nat _ l I → Fr h₀ env.locals h (MM x b tb tw v tv u) →
      News h₀ env.locals h [(I + 1, oe), (I, oi), (l, listOf us.toArray 0), (d, serD P v b k1 ta k2 t2), (x, instObj 109 d)] →
      wpAny (model prog w) A (assign (.Tuple elts kk pos) env (.ref T)) (fun _ s₂ => wpAny (model prog w) A (execs body env) (UnrPostW h₀ env.locals { s with heap := h, toks := tk } [(I + 1, oe), (I, oi)] (JJ P l x d us b tb tw k1 k2 t2 (i + 1)) Q) E s₂) E { s with heap := h, toks := tk }))
    (done : Stop (∀ m news h tk, Fr h₀ env.locals h m → News h₀ env.locals h news → Q .next { s with heap := h, toks := tk })) :
    wpAny (model prog w) A (call (.type "enumerate") [.ref l]) (fun xv s₁ => wpAny (model prog w) A (pyIter xv) (fun it s₂ => TurnsAt prog w A h₀ env (.Tuple elts kk pos) body Q E it s₂) E s₁) E s := by
  unfold Stop at turn done
  have N3 : News h₀ env.locals s.heap [(l, listOf us.toArray 0), (d, serD P v b k1 t1 k2 t2), (x, instObj 109 d)] := fun p hp => by
    rcases List.mem_cons.mp hp with rfl | hp
    · exact N _ hl
    rcases List.mem_cons.mp hp with rfl | hp
    · exact N _ hd
    rcases List.mem_cons.mp hp with rfl | hp
    · exact N _ hx
    · exact nomatch hp
  refine ktu_enum (lo := listOf us.toArray 0) (vs := us) (xs := enumItems 0 us) hh F N3 (List.Mem.head _) rfl rfl rfl (fun I hlt => ?_)
  have hlI : @LT.lt Nat _ l I := hlt _ (.head _)
  refine rest_enum (JJ P l x d us b tb tw k1 k2 t2) ?_ ?_ ?_ us 0 m₀ _ hu ⟨v, tv, t1, m₀, MM_of m1 m2 m3 m4, rfl, hv0, hv1⟩
  · rintro i m n ⟨v, tv, ta, u, rfl, rfl, _, _⟩
    exact ⟨.head _, trivial⟩
  · rintro i n tn m news v' h tk ⟨v, tv, ta, u, rfl, rfl, g0, g1⟩ ⟨T, ti, rfl, hT⟩ Fh oe hoe oi hoi Nh
    exact turn i n tn v ta tv u T ti h tk I oe oi g0 g1 hT hoe hoi hdx hxl hlI Fh Nh
  · intro i m news h tk _ Fh Nh
    exact done m news h tk Fh Nh
theorem turn_end {P : Params} {l x d I : Addr} {oe oi : Obj} {us : List Value} {b v' : Int} {tb tw tv' k1 ta k2 t2 : Tok} {i : Nat} {m' : Str → Option Value} {L : Addr} {h' : Heap} {tk : Nat} {s₁ : Shared} {all : List (Addr × Obj)}
    (hoe : oe.cls = .type "enumerate") (hoi : oi.cls = .type "list_iterator") (hdx : @LT.lt Nat _ d x) (hxl : @LT.lt Nat _ x l) (hlI : @LT.lt Nat _ l I)
    (F : Fr h₀ L h' m') (N : News h₀ L h' all) (q1 : (I + 1, oe) ∈ all) (q2 : (I, oi) ∈ all) (hl : (l, listOf us.toArray 0) ∈ all) (hd : (d, serD P v' b k1 ta k2 t2) ∈ all) (hx : (x, instObj 109 d) ∈ all)
    (m1 : m' (Str.ofString "one") = some (.ref x)) (m2 : m' (Str.ofString "bits") = some (.int b tb)) (m3 : m' (Str.ofString "whole") = some (.int (P2 b) tw)) (m4 : m' (Str.ofString "value") = some (.int v' tv')) (g0 : 0 ≤ v') (g1 : v' < P2 b) :
    UnrEndW h₀ L s₁ [(I + 1, oe), (I, oi)] (JJ P l x d us b tb tw k1 k2 t2 (i + 1)) { s₁ with heap := h', toks := tk } := by
  have e1 : @Ne Nat (I + 1) l := by omega
  have e2 : @Ne Nat I l := by omega
  have e3 : @Ne Nat (I + 1) d := by omega
  have e4 : @Ne Nat I d := by omega
  have e5 : @Ne Nat (I + 1) x := by omega
  have e6 : @Ne Nat I x := by omega
  refine UnrEndW.intro F N [(l, listOf us.toArray 0), (d, serD P v' b k1 ta k2 t2), (x, instObj 109 d)] ⟨q1, q2, trivial⟩ ⟨hl, hd, hx, trivial⟩ ?_ ⟨v', tv', ta, m', MM_of m1 m2 m3 m4, rfl, g0, g1⟩
  exact ⟨⟨.inl (Ne.symm e1), .inl (Ne.symm e2), trivial⟩, ⟨.inl (Ne.symm e3), .inl (Ne.symm e4), trivial⟩, ⟨.inl (Ne.symm e5), .inl (Ne.symm e6), trivial⟩, trivial⟩
end
/-- one statement, and what holds behind it -/
def CutG (h₀ : Heap) (L : Addr) (R : (Str → Option Value) → List (Addr × Obj) → Prop) (s : Shared) (f : Flow) (s' : Shared) : Prop :=
  f = .next ∧ ∃ h tk m' n', s' = { s with heap := h, toks := tk } ∧ Fr h₀ L h m' ∧ News h₀ L h n' ∧ R m' n'
theorem cutG {M : Model} {A : Around} {E : Value → Shared → Prop} {s : Shared} {Q : Flow → Shared → Prop} {h₀ : Heap} {L : Addr} {m : Str → Option Value} {st : Stmt} {rest : List Stmt} {env : Env} (R : (Str → Option Value) → List (Addr × Obj) → Prop)
    (_F : Fr h₀ L s.heap m)
    (h1 : wpAny M A (exec st env) (CutG h₀ L R s) E s)
    (h2 : ∀ h tk m' n', R m' n' → Fr h₀ L h m' → News h₀ L h n' → wpAny M A (execs rest env) Q E { s with heap := h, toks := tk }) :
    wpAny M A (execs (st :: rest) env) Q E s := by
  refine wpAny_execs_cons (wpAny_mono h1 (fun f s' h => ?_) fun _ _ e => e)
  obtain ⟨rfl, h, tk, m', n', rfl, F', N', r⟩ := h
  exact h2 h tk m' n' r F' N'
theorem cutGI {h₀ h : Heap} {L : Addr} {m' : Str → Option Value} {R : (Str → Option Value) → List (Addr × Obj) → Prop} {n' all : List (Addr × Obj)} {s : Shared} {tk : Nat} (F : Fr h₀ L h m') (N : News h₀ L h all) (r : R m' n') (sub : ∀ p ∈ n', p ∈ all) :
    CutG h₀ L R s .next { s with heap := h, toks := tk } := ⟨rfl, h, tk, m', n', rfl, F, fun p hp => N p (sub p hp), r⟩

theorem ints_all {vs : List Value} {ns : List Int} (h : IntsAre vs ns) : ∀ z ∈ vs, ∃ n t, z = .int n t := by
  intro z hz
  obtain ⟨i, hi, rfl⟩ := List.mem_iff_getElem.mp hz
  have hl : i < ns.length := by rw [← h.length]; exact hi
  obtain ⟨t, ht⟩ := h.get i ns[i] (by simp [hl])
  refine ⟨ns[i], t, ?_⟩
  have := List.getElem?_eq_getElem hi
  rw [this] at ht
  exact Option.some.inj ht
theorem my_slice {prog : Program} {w : World} {A : Around} {E : Value → Shared → Prop} {h₀ h : Heap} {gs : Array GenState} {dr : Drawn} {tk : Nat} {os : OsState} {L l : Addr} {m : Str → Option Value} {news : List (Addr × Obj)} {value slice : PySem.Expr} {vs : List Value} {ns : List Int} {t1 t2 : Tok} {Q : Value → Shared → Prop}
    (F : Fr h₀ L h m) (N : News h₀ L h news) (hl : h.IsList l vs.toArray) (hi : IntsAre vs ns) (hz : ns.length ≤ 1000)
    (k : ∀ D ws ms h', Fr h₀ L h' m → News h₀ L h' ((D, listOf (List.toArray ws) 0) :: news) → (∀ p ∈ news, p.1 < D) → IntsAre ws ms → ms.length ≤ 1000 → Q (.ref D) { heap := h', gens := gs, drawn := dr, toks := tk, os := os })
    (hs : subscripted slice false (.ref l) (.ref h.objs.size) = operate [.ref h.objs.size, .ref l] (getItem (.ref l) (.ref h.objs.size))) (ht : ∀ r, letTemporaryGo value (.ref l) r = pure ()) :
    wpAny (model prog w) A (subscriptTail value slice (.ref l) (.ref h.objs.size)) Q E { heap := h.push { cls := .type "slice", data := .fields #[.int 3 t1, .int 11 t2, .none] }, gens := gs, drawn := dr, toks := tk, os := os } :=
  kmk_slice_ints (s := { heap := h, gens := gs, drawn := dr, toks := tk, os := os }) F N hl (IsPart.int _ _) (IsPart.int _ _) hi (kmk_run hi (by decide) (by decide)) rfl (fun D ws h' F' N' l1 hI _ hL => k D ws _ h' F' N' l1 hI (Nat.le_trans hL hz)) hs ht (kmk_sz hi (by rw [sizeLine_eq]; omega))

section
local macro_rules | `(tactic| k_all) => `(tactic| exact allNe (by assumption))
section
local macro_rules | `(tactic| walk_at "execs cons") => `(tactic| (k_here; first | k_gentoks | ((with_reducible refine wpAny_execs_cons ?_); try dsimp only)))
section
local macro_rules | `(tactic| walk_at "binaryOp Pow int int") => `(tactic| (k_here; (with_reducible refine my_pow ?kb1 ?kb2 ?_); (case kb1 => omega); (case kb2 => omega)))
section
local macro_rules | `(tactic| walk_at "binaryOp Mod int int") => `(tactic| (k_here; (with_reducible refine my_mod ?_)))
section
local macro_rules | `(tactic| k_mem) => `(tactic| first | exact List.Mem.head _ | assumption)
section
local macro_rules | `(tactic| k_enter) => `(tactic| (refine' code_defC ?k1 ?k2 ?k3 ?k4 ?k5 ?kA ?kF ?kK ?k6 ?k7 ?k8 ?k9 ?kB ?kD ?_ ?c2 ?c3 ?c4; k_extra "zq code_defC"; intro g' L' h' tk' cells' FG' F' N' Y' B' X' T' l1; (try k_lt l1); k_cells Y'; (try simp only [List.cons_append, List.nil_append] at N'); (try dsimp only); (try k_lift B'); (try k_fold)))
section
local macro_rules | `(tactic| k_enter) => `(tactic| (refine' code_def ?k1 ?k2 ?k3 ?k4 ?k5 ?kA ?kF ?kK ?k6 ?k7 ?k8 ?k9 ?kB ?_ ?c2 ?c3 ?c4 ?c5; k_extra "zq code_def"; intro g' L' h' FG' F' N' B' X' T'; (try dsimp only); (try k_lift B'); (try k_fold)))
section
local macro_rules | `(tactic| k_all) => `(tactic| first | exact allNe (by assumption) | exact allNe2 (by assumption) (by (try dsimp only); omega))
section
local macro_rules | `(tactic| k_lt $h:ident) => `(tactic| (have hAll := $h; replace $h := allLt_of $h; simp only [AllLt, and_true] at $h:ident))
section
local macro_rules | `(tactic| walk_at "exec Raise some none") => `(tactic| (k_here; (with_reducible show wpAny _ _ (exec (Stmt.Raise (some (Expr.Name ("ValueError" : Str) _)) none _) _) _ _ _); (with_reducible rename Fr _ _ _ _ => kF); k_dflt (refine' Raise_classB ?hh excClass_ValueError ?hs ?hx ?_; (case hh => rfl); (case hs => rw [isSubtype_type]; kernel_rfl); (case hx => (refine' name_B kF ?k1 ?k2 ?k3 ?k4 ?k5 ?_; (case k1 => k_asm); (case k2 => k_asm); (case k3 => k_is); (case k4 => boot_by_name); (case k5 => decide); exact ⟨rfl, rfl⟩))); intro h' e' hNew'))
section
local macro_rules | `(tactic| k_updF) => `(tactic| first | (refine' Spl.head ?a; (case a => k_all)) | (refine' Spl.tail ?a ?b; (case a => k_ne); (case b => k_updF)))
section
local macro_rules | `(tactic| k_all) => `(tactic| assumption)
section
local macro_rules | `(tactic| k_steps) => `(tactic| repeat' (first | (k_unfold; (try dsimp only); (try (delta PySem.W.CmpBack; dsimp only))) | (walk1; (try dsimp only)) | (dsimp only; walk1; (try dsimp only)) | (leave1; walk_say "STEP leave1"; try dsimp only)))
section
local macro_rules | `(tactic| walk_at "call ref") => `(tactic| (k_here; (with_reducible show wpAny _ _ (call (Value.ref 109) [Value.int _ _, Value.int _ _]) _ _ _); k_dflt (refine' c_new ?zqb0 ?zqb1 _ _ _ _ _ _ _ _ _ _ _ _ _ _ _ _ _ ?zqB ?zqF ?zqX ?zqN ?zqT ?zqK ?zqD ?zqU ?_; k_extra "zq base"; k_extra "zq bits"; k_extra "zq room"); intro x9 d9 ka9 ta9 kb9 tb9 h9 tk9 F9 N9 l1 l2; (try k_lt l1); (try k_lt2 l2); k_extra "zq end"))
def ltS (v v' b : Int) : Bool := decide ((v < v' ∧ v' - v < P2 (b - 1)) ∨ (v > v' ∧ v - v' > P2 (b - 1)))
def gtS (v v' b : Int) : Bool := decide ((v < v' ∧ v' - v > P2 (b - 1)) ∨ (v > v' ∧ v - v' < P2 (b - 1)))
def eqS (v v' _b : Int) : Bool := decide (v = v')
def neS (v v' _b : Int) : Bool := decide (v ≠ v')
theorem subC {α : Type} {a : α} {l l' : List α} (h : ∀ p ∈ l, p ∈ l') : ∀ p ∈ l, p ∈ a :: l' := fun p hp => List.mem_cons_of_mem _ (h p hp)
theorem endB {h₀ h' : Heap} {L : Addr} {m : Str → Option Value} {s : Shared} {Q : Value → Shared → Prop} {news news' : List (Addr × Obj)} {x y : Bool} {tk' : Nat}
    (hret : ∀ h' tk', Fr h₀ L h' m → News h₀ L h' news → Q (.bool x) { s with heap := h', toks := tk' }) (e : y = x) (F : Fr h₀ L h' m) (N : News h₀ L h' news') (sub : ∀ p ∈ news, p ∈ news') :
    Q (.bool y) { s with heap := h', toks := tk' } := by
  subst e
  exact hret h' tk' F fun p hp => N p (sub p hp)
theorem c_eqS {w : World} {mean : ExcName → Option Value} {mg mb : Str → Option Value} {news : List (Addr × Obj)} {x dx y dy : Addr} {v v' b : Int} {k1 t1 k2 t2 k3 t3 k4 t4 : Tok}
    (hx : (x, instObj 109 dx) ∈ news) (hdx : (dx, serD w.params v b k1 t1 k2 t2) ∈ news) (hy : (y, instObj 109 dy) ∈ news) (hdy : (dy, serD w.params v' b k3 t3 k4 t4) ∈ news) (hb0 : 1 ≤ b) (hb : b ≤ 41) :
    Cl 880 w mean mg mb 43 [.ref x, .ref y] news (fun h₀ L m s Q =>
      ∀ h' tk', Fr h₀ L h' m → News h₀ L h' news → Q (.bool (eqS v v' b)) { s with heap := h', toks := tk' }) := by
  intro dp un gd cn cs a ccd cl outer A₀ base h₀ L m s Q E B F X N T hk hdp hun hret
  k_steps
  all_goals first | (exfalso; omega) | (refine' endB (Q := Q) (s := s) hret ?e ?F ?N ?S; (case F => assumption); (case N => assumption); (case S => exact fun _ h => h); (case e => (unfold eqS; first | rfl | (refine (decide_eq_true ?_).symm; omega) | (refine (decide_eq_false ?_).symm; omega) | (simp [bne_eq, Bool.beq_eq_decide_eq]; done) | (by_cases hvv : v = v' <;> simp [hvv]; done) | (simp only [bne, Bool.not_eq_true', decide_not]; rfl))))
theorem c_eqI {w : World} {mean : ExcName → Option Value} {mg mb : Str → Option Value} {news : List (Addr × Obj)} {x dx : Addr} {v n b : Int} {tn : Tok} {k1 t1 k2 t2 : Tok}
    (hx : (x, instObj 109 dx) ∈ news) (hdx : (dx, serD w.params v b k1 t1 k2 t2) ∈ news) (hb0 : 1 ≤ b) (hb : b ≤ 41) :
    Cl 880 w mean mg mb 43 [.ref x, .int n tn] news (fun h₀ L m s Q =>
      ∀ h' tk', Fr h₀ L h' m → News h₀ L h' news → Q (.bool (eqS v (n.fmod (P2 b)) b)) { s with heap := h', toks := tk' }) := by
  intro dp un gd cn cs a ccd cl outer A₀ base h₀ L m s Q E B F X N T hk hdp hun hret
  k_steps
  all_goals first | (exfalso; omega) | (refine' endB (Q := Q) (s := s) hret ?e ?F ?N ?S; (case F => assumption); (case N => assumption); (case S => exact subC (subC (fun _ h => h))); (case e => (unfold eqS; first | rfl | (refine (decide_eq_true ?_).symm; omega) | (refine (decide_eq_false ?_).symm; omega) | (simp [bne_eq, Bool.beq_eq_decide_eq]; done) | (by_cases hvv : v = v' <;> simp [hvv]; done) | (simp only [bne, Bool.not_eq_true', decide_not]; rfl))))
theorem c_neS {w : World} {mean : ExcName → Option Value} {mg mb : Str → Option Value} {news : List (Addr × Obj)} {x dx y dy : Addr} {v v' b : Int} {k1 t1 k2 t2 k3 t3 k4 t4 : Tok}
    (hx : (x, instObj 109 dx) ∈ news) (hdx : (dx, serD w.params v b k1 t1 k2 t2) ∈ news) (hy : (y, instObj 109 dy) ∈ news) (hdy : (dy, serD w.params v' b k3 t3 k4 t4) ∈ news) (hb0 : 1 ≤ b) (hb : b ≤ 41) :
    Cl 880 w mean mg mb 50 [.ref x, .ref y] news (fun h₀ L m s Q =>
      ∀ h' tk', Fr h₀ L h' m → News h₀ L h' news → Q (.bool (neS v v' b)) { s with heap := h', toks := tk' }) := by
  intro dp un gd cn cs a ccd cl outer A₀ base h₀ L m s Q E B F X N T hk hdp hun hret
  k_steps
  all_goals first | (exfalso; omega) | (refine' endB (Q := Q) (s := s) hret ?e ?F ?N ?S; (case F => assumption); (case N => assumption); (case S => exact fun _ h => h); (case e => (unfold neS; first | rfl | (refine (decide_eq_true ?_).symm; omega) | (refine (decide_eq_false ?_).symm; omega) | (simp [bne_eq, Bool.beq_eq_decide_eq]; done) | (by_cases hvv : v = v' <;> simp [hvv]; done) | (simp only [bne, Bool.not_eq_true', decide_not]; rfl))))
theorem c_neI {w : World} {mean : ExcName → Option Value} {mg mb : Str → Option Value} {news : List (Addr × Obj)} {x dx : Addr} {v n b : Int} {tn : Tok} {k1 t1 k2 t2 : Tok}
    (hx : (x, instObj 109 dx) ∈ news) (hdx : (dx, serD w.params v b k1 t1 k2 t2) ∈ news) (hb0 : 1 ≤ b) (hb : b ≤ 41) :
    Cl 880 w mean mg mb 50 [.ref x, .int n tn] news (fun h₀ L m s Q =>
      ∀ h' tk', Fr h₀ L h' m → News h₀ L h' news → Q (.bool (neS v (n.fmod (P2 b)) b)) { s with heap := h', toks := tk' }) := by
  intro dp un gd cn cs a ccd cl outer A₀ base h₀ L m s Q E B F X N T hk hdp hun hret
  k_steps
  all_goals first | (exfalso; omega) | (refine' endB (Q := Q) (s := s) hret ?e ?F ?N ?S; (case F => assumption); (case N => assumption); (case S => exact subC (subC (fun _ h => h))); (case e => (unfold neS; first | rfl | (refine (decide_eq_true ?_).symm; omega) | (refine (decide_eq_false ?_).symm; omega) | (simp [bne_eq, Bool.beq_eq_decide_eq]; done) | (by_cases hvv : v = v' <;> simp [hvv]; done) | (simp only [bne, Bool.not_eq_true', decide_not]; rfl))))
theorem c_ltS {w : World} {mean : ExcName → Option Value} {mg mb : Str → Option Value} {news : List (Addr × Obj)} {x dx y dy : Addr} {v v' b : Int} {k1 t1 k2 t2 k3 t3 k4 t4 : Tok}
    (hx : (x, instObj 109 dx) ∈ news) (hdx : (dx, serD w.params v b k1 t1 k2 t2) ∈ news) (hy : (y, instObj 109 dy) ∈ news) (hdy : (dy, serD w.params v' b k3 t3 k4 t4) ∈ news) (hb0 : 1 ≤ b) (hb : b ≤ 41) :
    Cl 880 w mean mg mb 57 [.ref x, .ref y] news (fun h₀ L m s Q =>
      ∀ h' tk', Fr h₀ L h' m → News h₀ L h' news → Q (.bool (ltS v v' b)) { s with heap := h', toks := tk' }) := by
  intro dp un gd cn cs a ccd cl outer A₀ base h₀ L m s Q E B F X N T hk hdp hun hret
  k_steps
  all_goals first | (exfalso; omega) | (refine' endB (Q := Q) (s := s) hret ?e ?F ?N ?S; (case F => assumption); (case N => assumption); (case S => exact fun _ h => h); (case e => (unfold ltS; first | rfl | (refine (decide_eq_true ?_).symm; omega) | (refine (decide_eq_false ?_).symm; omega) | (simp [bne_eq, Bool.beq_eq_decide_eq]; done) | (by_cases hvv : v = v' <;> simp [hvv]; done) | (simp only [bne, Bool.not_eq_true', decide_not]; rfl))))
theorem c_ltI {w : World} {mean : ExcName → Option Value} {mg mb : Str → Option Value} {news : List (Addr × Obj)} {x dx : Addr} {v n b : Int} {tn : Tok} {k1 t1 k2 t2 : Tok}
    (hx : (x, instObj 109 dx) ∈ news) (hdx : (dx, serD w.params v b k1 t1 k2 t2) ∈ news) (hb0 : 1 ≤ b) (hb : b ≤ 41) :
    Cl 880 w mean mg mb 57 [.ref x, .int n tn] news (fun h₀ L m s Q =>
      ∀ h' tk', Fr h₀ L h' m → News h₀ L h' news → Q (.bool (ltS v (n.fmod (P2 b)) b)) { s with heap := h', toks := tk' }) := by
  intro dp un gd cn cs a ccd cl outer A₀ base h₀ L m s Q E B F X N T hk hdp hun hret
  k_steps
  all_goals first | (exfalso; omega) | (refine' endB (Q := Q) (s := s) hret ?e ?F ?N ?S; (case F => assumption); (case N => assumption); (case S => exact subC (subC (fun _ h => h))); (case e => (unfold ltS; first | rfl | (refine (decide_eq_true ?_).symm; omega) | (refine (decide_eq_false ?_).symm; omega) | (simp [bne_eq, Bool.beq_eq_decide_eq]; done) | (by_cases hvv : v = v' <;> simp [hvv]; done) | (simp only [bne, Bool.not_eq_true', decide_not]; rfl))))
theorem c_gtS {w : World} {mean : ExcName → Option Value} {mg mb : Str → Option Value} {news : List (Addr × Obj)} {x dx y dy : Addr} {v v' b : Int} {k1 t1 k2 t2 k3 t3 k4 t4 : Tok}
    (hx : (x, instObj 109 dx) ∈ news) (hdx : (dx, serD w.params v b k1 t1 k2 t2) ∈ news) (hy : (y, instObj 109 dy) ∈ news) (hdy : (dy, serD w.params v' b k3 t3 k4 t4) ∈ news) (hb0 : 1 ≤ b) (hb : b ≤ 41) :
    Cl 880 w mean mg mb 71 [.ref x, .ref y] news (fun h₀ L m s Q =>
      ∀ h' tk', Fr h₀ L h' m → News h₀ L h' news → Q (.bool (gtS v v' b)) { s with heap := h', toks := tk' }) := by
  intro dp un gd cn cs a ccd cl outer A₀ base h₀ L m s Q E B F X N T hk hdp hun hret
  k_steps
  all_goals first | (exfalso; omega) | (refine' endB (Q := Q) (s := s) hret ?e ?F ?N ?S; (case F => assumption); (case N => assumption); (case S => exact fun _ h => h); (case e => (unfold gtS; first | rfl | (refine (decide_eq_true ?_).symm; omega) | (refine (decide_eq_false ?_).symm; omega) | (simp [bne_eq, Bool.beq_eq_decide_eq]; done) | (by_cases hvv : v = v' <;> simp [hvv]; done) | (simp only [bne, Bool.not_eq_true', decide_not]; rfl))))
theorem c_gtI {w : World} {mean : ExcName → Option Value} {mg mb : Str → Option Value} {news : List (Addr × Obj)} {x dx : Addr} {v n b : Int} {tn : Tok} {k1 t1 k2 t2 : Tok}
    (hx : (x, instObj 109 dx) ∈ news) (hdx : (dx, serD w.params v b k1 t1 k2 t2) ∈ news) (hb0 : 1 ≤ b) (hb : b ≤ 41) :
    Cl 880 w mean mg mb 71 [.ref x, .int n tn] news (fun h₀ L m s Q =>
      ∀ h' tk', Fr h₀ L h' m → News h₀ L h' news → Q (.bool (gtS v (n.fmod (P2 b)) b)) { s with heap := h', toks := tk' }) := by
  intro dp un gd cn cs a ccd cl outer A₀ base h₀ L m s Q E B F X N T hk hdp hun hret
  k_steps
  all_goals first | (exfalso; omega) | (refine' endB (Q := Q) (s := s) hret ?e ?F ?N ?S; (case F => assumption); (case N => assumption); (case S => exact subC (subC (fun _ h => h))); (case e => (unfold gtS; first | rfl | (refine (decide_eq_true ?_).symm; omega) | (refine (decide_eq_false ?_).symm; omega) | (simp [bne_eq, Bool.beq_eq_decide_eq]; done) | (by_cases hvv : v = v' <;> simp [hvv]; done) | (simp only [bne, Bool.not_eq_true', decide_not]; rfl))))

end
section
local macro_rules | `(tactic| k_enter) => `(tactic| (refine' code_defS0 ?k1 ?k2 ?k3 ?k4 ?k5 ?kA ?k6 ?k7 ?k8 ?k9 ?kB ?_ ?cK ?c2 ?c3 ?c4 ?c5; k_extra "zq code_defS0"; intro g' L' h' FG' F' N' B' X' T' D'; (try dsimp only); (try k_lift B'); (try k_fold)))
/-- what is left in the Serial -/
def inS (v n b : Int) (mi : Bool) : Int := if -(P2 (b - 1)) < n ∧ n < P2 (b - 1) then addS v n b mi else v
theorem inS_t {v n b : Int} {mi : Bool} (h : mi = true) (h1 : -(P2 (b - 1)) < n ∧ n < P2 (b - 1)) : (v - n).fmod (P2 b) = inS v n b mi := by
  subst h; simp [inS, addS, h1]
theorem inS_f {v n b : Int} {mi : Bool} (h : mi = false) (h1 : -(P2 (b - 1)) < n ∧ n < P2 (b - 1)) : (v + n).fmod (P2 b) = inS v n b mi := by
  subst h; simp [inS, addS, h1]
theorem inS_n {v n b : Int} {mi : Bool} (h1 : ¬ (-(P2 (b - 1)) < n ∧ n < P2 (b - 1))) : v = inS v n b mi := by
  simp [inS, h1]
theorem endD {h₀ h' : Heap} {L dx : Addr} {P : Params} {m : Str → Option Value} {s : Shared} {Q : Value → Shared → Prop} {news : List (Addr × Obj)} {x y v v' b : Int} {k1 k2 t1 t2 t : Tok} {tk' : Nat}
    (hret : ∀ r t' h' tk', Fr h₀ L h' m → News h₀ L h' ((dx, serD P v b k1 t' k2 t2) :: news) → Q (.int x r) { s with heap := h', toks := tk' }) (e : y = x) (e2 : v' = v) (F : Fr h₀ L h' m) (N : News h₀ L h' ((dx, serD P v' b k1 t1 k2 t2) :: news)) :
    Q (.int y t) { s with heap := h', toks := tk' } := by
  subst e
  subst e2
  exact hret t t1 h' tk' F N
theorem c_inI {w : World} {mean : ExcName → Option Value} {mg mb : Str → Option Value} {news : List (Addr × Obj)} {x dx : Addr} {v b : Int} {n : Int} {tn : Tok} {mi : Bool} {k1 t1 k2 t2 : Tok}
    (hx : (x, instObj 109 dx) ∈ news) (hne : ∀ p ∈ news, p.1 ≠ dx) (hb0 : 1 ≤ b) (hb : b ≤ 41) :
    Cl0 860 w mean mg mb 153 [.ref x, .int n tn, .bool mi] ((dx, serD w.params v b k1 t1 k2 t2) :: news) (fun h₀ L m s Q =>
      ∀ r t' h' tk', Fr h₀ L h' m → News h₀ L h' ((dx, serD w.params (inS v n b mi) b k1 t' k2 t2) :: news) → Q (.int (sumS v n b mi) r) { s with heap := h', toks := tk' }) := by
  intro dp un gd cn cs a ccd A₀ base h₀ L m s Q E B F X N T XB TB hk hdp hun hret
  have hPp := P2_pos (b - 1)
  k_steps
  all_goals first | (exfalso; omega) | (refine' endD (Q := Q) (s := s) hret ?e ?e2 ?F ?N; (case F => assumption); (case N => assumption); (case e => first | (refine sumS_n ?_; omega) | (first | (refine sumS_t (by assumption) ?_; omega) | (refine sumS_f (by assumption) ?_; omega))); (case e2 => first | (refine inS_n ?_; omega) | (first | (refine inS_t (by assumption) ?_; omega) | (refine inS_f (by assumption) ?_; omega))))
theorem c_inS {w : World} {mean : ExcName → Option Value} {mg mb : Str → Option Value} {news : List (Addr × Obj)} {x dx : Addr} {v b : Int} {y dy : Addr} {n : Int} {k3 t3 k4 t4 : Tok} {mi : Bool} {k1 t1 k2 t2 : Tok}
    (hx : (x, instObj 109 dx) ∈ news) (hne : ∀ p ∈ news, p.1 ≠ dx) (hy : (y, instObj 109 dy) ∈ news) (hdy : (dy, serD w.params n b k3 t3 k4 t4) ∈ news) (hb0 : 1 ≤ b) (hb : b ≤ 41) :
    Cl0 860 w mean mg mb 153 [.ref x, .ref y, .bool mi] ((dx, serD w.params v b k1 t1 k2 t2) :: news) (fun h₀ L m s Q =>
      ∀ r t' h' tk', Fr h₀ L h' m → News h₀ L h' ((dx, serD w.params (inS v n b mi) b k1 t' k2 t2) :: news) → Q (.int (sumS v n b mi) r) { s with heap := h', toks := tk' }) := by
  intro dp un gd cn cs a ccd A₀ base h₀ L m s Q E B F X N T XB TB hk hdp hun hret
  have hPp := P2_pos (b - 1)
  k_steps
  all_goals first | (exfalso; omega) | (refine' endD (Q := Q) (s := s) hret ?e ?e2 ?F ?N; (case F => assumption); (case N => assumption); (case e => first | (refine sumS_n ?_; omega) | (first | (refine sumS_t (by assumption) ?_; omega) | (refine sumS_f (by assumption) ?_; omega))); (case e2 => first | (refine inS_n ?_; omega) | (first | (refine inS_t (by assumption) ?_; omega) | (refine inS_f (by assumption) ?_; omega))))
theorem c_inT {w : World} {mean : ExcName → Option Value} {mg mb : Str → Option Value} {news : List (Addr × Obj)} {x dx : Addr} {v b : Int} {tn : Tok} {mi : Bool} {k1 t1 k2 t2 : Tok}
    (hx : (x, instObj 109 dx) ∈ news) (hne : ∀ p ∈ news, p.1 ≠ dx) (hb0 : 1 ≤ b) (hb : b ≤ 41) :
    Cl0 860 w mean mg mb 153 [.ref x, .str (Str.ofString "1") tn, .bool mi] ((dx, serD w.params v b k1 t1 k2 t2) :: news) (fun h₀ L m s Q =>
      ∀ r t' h' tk', Fr h₀ L h' m → News h₀ L h' ((dx, serD w.params v b k1 t' k2 t2) :: news) → Q (.int (-1) r) { s with heap := h', toks := tk' }) := by
  intro dp un gd cn cs a ccd A₀ base h₀ L m s Q E B F X N T XB TB hk hdp hun hret
  have hPp := P2_pos (b - 1)
  k_steps
  all_goals first | (exfalso; omega) | (refine' endD (Q := Q) (s := s) hret ?e ?e2 ?F ?N; (case F => assumption); (case N => assumption); (case e => rfl); (case e2 => rfl))

end
section
local macro_rules | `(tactic| walk_at "call ref") => `(tactic| (k_here; (with_reducible show wpAny _ _ (call (Value.ref 109) [Value.int _ _, Value.int _ _]) _ _ _); k_dflt (refine' c_new ?zqb0 ?zqb1 _ _ _ _ _ _ _ _ _ _ _ _ _ _ _ _ _ ?zqB ?zqF ?zqX ?zqN ?zqT ?zqK ?zqD ?zqU ?_; k_extra "zq base"; k_extra "zq bits"; k_extra "zq room"); intro x9 d9 ka9 ta9 kb9 tb9 h9 tk9 F9 N9 l1 l2; (try k_lt l1); (try k_lt2 l2); k_extra "zq end"))
theorem c_addI {w : World} {mean : ExcName → Option Value} {mg mb : Str → Option Value} {news : List (Addr × Obj)} {x dx : Addr} {v b n : Int} {tn : Tok} {k1 t1 k2 t2 : Tok}
    (hx : (x, instObj 109 dx) ∈ news) (hdx : (dx, serD w.params v b k1 t1 k2 t2) ∈ news) (hb0 : 1 ≤ b) (hb : b ≤ 41) (hn0 : -(P2 (b - 1)) < n) (hn1 : n < P2 (b - 1)) :
    Cl 860 w mean mg mb 85 [.ref x, .int n tn] news (fun h₀ L m s Q =>
      ∀ x dx k1 t1 k2 t2 h' tk', Fr h₀ L h' m → News h₀ L h' ((x, instObj 109 dx) :: (dx, serD w.params ((v + n).fmod (P2 b)) b k1 t1 k2 t2) :: news) → (∀ p ∈ news, p.1 < dx) → dx < x → Q (.ref x) { s with heap := h', toks := tk' }) := by
  intro dp un gd cn cs a ccd cl outer A₀ base h₀ L m s Q E B F X N T hk hdp hun hret
  k_steps
  all_goals first | (exfalso; omega) | (rw [← P2_fmod]; refine' hret _ _ _ _ _ _ _ _ ?F ?N ?l ?k; (case F => assumption); (case N => assumption); (case l => assumption); (case k => assumption)) | (refine' hret _ _ _ _ _ _ _ _ ?F ?N ?l ?k; (case F => assumption); (case N => rw [← P2_fmod]; assumption); (case l => assumption); (case k => assumption))
/-- one statement, and what it leaves in one name -/
def CutPost (h₀ : Heap) (L : Addr) (m : Str → Option Value) (x : Str) (P : Int → Prop) (news : List (Addr × Obj)) (s : Shared) (f : Flow) (s' : Shared) : Prop :=
  f = .next ∧ ∃ v t h tk m', P v ∧ s' = { s with heap := h, toks := tk } ∧ Fr h₀ L h m' ∧ m' x = some (.int v t) ∧ (∀ y, y ≠ x → m' y = m y) ∧ News h₀ L h news
theorem cut_name {M : Model} {A : Around} {E : Value → Shared → Prop} {s : Shared} {Q : Flow → Shared → Prop} {h₀ : Heap} {L : Addr} {m : Str → Option Value} {news : List (Addr × Obj)} {st : Stmt} {rest : List Stmt} {env : Env} (x : Str) (P : Int → Prop)
    (_F : Fr h₀ L s.heap m) (_N : News h₀ L s.heap news)
    (h1 : wpAny M A (exec st env) (CutPost h₀ L m x P news s) E s)
    (h2 : ∀ v t h tk, P v → Fr h₀ L h (fun y => if y = x then some (.int v t) else m y) → News h₀ L h news → wpAny M A (execs rest env) Q E { s with heap := h, toks := tk }) :
    wpAny M A (execs (st :: rest) env) Q E s := by
  refine wpAny_execs_cons (wpAny_mono h1 (fun f s' h => ?_) fun _ _ e => e)
  obtain ⟨rfl, v, t, h, tk, m', hP, rfl, F', hx, same, N'⟩ := h
  have em : m' = fun y => if y = x then some (.int v t) else m y := by
    funext y
    by_cases hy : y = x
    · subst hy; simp [hx]
    · simp [hy, same y hy]
  rw [em] at F'
  exact h2 v t h tk hP F' N'
theorem fm_nn (a b : Int) : 0 ≤ a.fmod (P2 b) := by rw [Int.fmod_eq_emod_of_nonneg _ (Int.le_of_lt (P2_pos b))]; exact Int.emod_nonneg _ (P2_ne b)
theorem fm_lt (a b : Int) : a.fmod (P2 b) < P2 b := by rw [Int.fmod_eq_emod_of_nonneg _ (Int.le_of_lt (P2_pos b))]; exact Int.emod_lt_of_pos _ (P2_pos b)
theorem cutI {h₀ h : Heap} {L : Addr} {m m' : Str → Option Value} {x : Str} {P : Int → Prop} {news : List (Addr × Obj)} {s : Shared} {v : Int} {t : Tok} {tk : Nat} (F : Fr h₀ L h m') (hx : m' x = some (.int v t)) (same : ∀ y, y ≠ x → m' y = m y) (N : News h₀ L h news) (hP : P v) :
    CutPost h₀ L m x P news s .next { s with heap := h, toks := tk } := ⟨rfl, v, t, h, tk, m', hP, rfl, F, hx, same, N⟩

theorem addS_t {v n b : Int} {mi : Bool} (h : mi = true) : (v - n).fmod (P2 b) = addS v n b mi := by subst h; simp [addS]
theorem addS_f {v n b : Int} {mi : Bool} (h : mi = false) : (v + n).fmod (P2 b) = addS v n b mi := by subst h; simp [addS]
theorem fm_emod (a b : Int) : a.fmod (P2 b) = a % P2 b := Int.fmod_eq_emod_of_nonneg _ (Int.le_of_lt (P2_pos b))
theorem addS_fm (v n b : Int) (mi : Bool) : addS v (n.fmod (P2 b)) b mi = addS v n b mi := by
  unfold addS
  simp only [fm_emod]
  cases mi
  · simp
  · simp [Int.sub_emod]
theorem sumS_pos {v n b : Int} {mi : Bool} (h : -(P2 (b - 1)) < n ∧ n < P2 (b - 1)) : sumS v n b mi = addS v n b mi := by simp [sumS, h]
theorem sumS_neg {v n b : Int} {mi : Bool} (h : ¬ (-(P2 (b - 1)) < n ∧ n < P2 (b - 1))) : sumS v n b mi = -1 := by simp [sumS, h]
theorem inS_pos {v n b : Int} {mi : Bool} (h : -(P2 (b - 1)) < n ∧ n < P2 (b - 1)) : inS v n b mi = addS v n b mi := by simp [inS, h]
theorem inS_neg {v n b : Int} {mi : Bool} (h : ¬ (-(P2 (b - 1)) < n ∧ n < P2 (b - 1))) : inS v n b mi = v := by simp [inS, h]
theorem addS_nn (v n b : Int) (mi : Bool) : 0 ≤ addS v n b mi := fm_nn _ _
theorem addS_lt (v n b : Int) (mi : Bool) : addS v n b mi < P2 b := fm_lt _ _
theorem inS_of_neg {v n b : Int} {mi : Bool} (h : sumS v n b mi = -1) : inS v n b mi = v := by
  by_cases c : -(P2 (b - 1)) < n ∧ n < P2 (b - 1)
  · rw [sumS_pos c] at h
    have := addS_nn v n b mi
    omega
  · exact inS_neg c
theorem inS_of_pos {v n b : Int} {mi : Bool} (h : sumS v n b mi ≠ -1) : inS v n b mi = sumS v n b mi := by
  by_cases c : -(P2 (b - 1)) < n ∧ n < P2 (b - 1)
  · rw [sumS_pos c, inS_pos c]
  · exact absurd (sumS_neg c) h
theorem inS_nn {v n b : Int} {mi : Bool} (h : 0 ≤ v) : 0 ≤ inS v n b mi := by
  unfold inS
  split
  · exact addS_nn _ _ _ _
  · exact h
theorem inS_lt {v n b : Int} {mi : Bool} (h : v < P2 b) : inS v n b mi < P2 b := by
  unfold inS
  split
  · exact addS_lt _ _ _ _
  · exact h
theorem fm_split {v n b : Int} (hb : 1 ≤ b) (h0 : 0 ≤ v) (h1 : v < P2 b) (hn : 0 < n) (hn1 : n < P2 (b - 1)) : (v + n).fmod (P2 b) = v + n ∧ v + n < P2 b ∨ (v + n).fmod (P2 b) = v + n - P2 b ∧ P2 b ≤ v + n := by
  have hs := P2_succ hb
  have hp := P2_pos (b - 1)
  rw [fm_emod]
  by_cases c : v + n < P2 b
  · exact .inl ⟨Int.emod_eq_of_lt (by omega) c, c⟩
  · refine .inr ⟨?_, by omega⟩
    rw [← Int.sub_emod_right]
    exact Int.emod_eq_of_lt (by omega) (by omega)
theorem gt_step {v n b : Int} (hb : 1 ≤ b) (h0 : 0 ≤ v) (h1 : v < P2 b) (hn : 0 < n) (hn1 : n < P2 (b - 1)) : gtS ((v + n).fmod (P2 b)) v b = true := by
  have hs := P2_succ hb
  have hp := P2_pos (b - 1)
  unfold gtS
  rw [decide_eq_true_eq]
  rcases fm_split hb h0 h1 hn hn1 with ⟨e, _⟩ | ⟨e, _⟩ <;> rw [e] <;> omega
theorem lt_step {v n b : Int} (hb : 1 ≤ b) (h0 : 0 ≤ v) (h1 : v < P2 b) (hn : 0 < n) (hn1 : n < P2 (b - 1)) : ltS v ((v + n).fmod (P2 b)) b = true := by
  have hs := P2_succ hb
  have hp := P2_pos (b - 1)
  unfold ltS
  rw [decide_eq_true_eq]
  rcases fm_split hb h0 h1 hn hn1 with ⟨e, _⟩ | ⟨e, _⟩ <;> rw [e] <;> omega
theorem by_t {v n b : Int} {mi : Bool} (h : mi = true) (hc : n.fmod (P2 b) < P2 (b - 1)) : (v - n).fmod (P2 b) = sumS v (n.fmod (P2 b)) b mi := by
  have := fm_nn n b
  have := P2_pos (b - 1)
  rw [sumS_pos ⟨by omega, hc⟩, addS_fm, addS_t h]
theorem by_f {v n b : Int} {mi : Bool} (h : mi = false) (hc : n.fmod (P2 b) < P2 (b - 1)) : (v + n).fmod (P2 b) = sumS v (n.fmod (P2 b)) b mi := by
  have := fm_nn n b
  have := P2_pos (b - 1)
  rw [sumS_pos ⟨by omega, hc⟩, addS_fm, addS_f h]
theorem by_n {v n b : Int} {mi : Bool} (hc : ¬ n.fmod (P2 b) < P2 (b - 1)) : -1 = sumS v (n.fmod (P2 b)) b mi := by
  rw [sumS_neg fun c => hc c.2]
theorem my_half {prog : Program} {w : World} {A : Around} {E : Value → Shared → Prop} {s : Shared} {Q : Value → Shared → Prop} {b : Int} {t u : Tok} (hb : 1 ≤ b) (hb1 : b ≤ 41) (h : Q (.int (P2 (b - 1)) s.toks) { s with toks := s.toks + 1 }) :
    wpAny (model prog w) A (binaryOp .FloorDiv (.int (P2 b) t) (.int 2 u)) Q E s := by
  refine floordiv_int (by decide) ?_ (Or.inl (PyProof.noPylong_of_log2 ?_))
  · have e : (P2 b).fdiv 2 = P2 (b - 1) := by
      rw [P2_succ hb, Int.fdiv_eq_ediv_of_nonneg _ (by decide)]
      omega
    rw [e]
    exact h
  · decide +kernel
/-- a bool in one name -/
def CutB (h₀ : Heap) (L : Addr) (m : Str → Option Value) (x : Str) (P : Bool → Prop) (news : List (Addr × Obj)) (s : Shared) (f : Flow) (s' : Shared) : Prop :=
  f = .next ∧ ∃ v h tk m', P v ∧ s' = { s with heap := h, toks := tk } ∧ Fr h₀ L h m' ∧ m' x = some (.bool v) ∧ (∀ y, y ≠ x → m' y = m y) ∧ News h₀ L h news
theorem map_set {m m' : Str → Option Value} {x : Str} {v : Value} (hx : m' x = some v) (same : ∀ y, y ≠ x → m' y = m y) : m' = fun y => if y = x then some v else m y := by
  funext y
  by_cases hy : y = x
  · subst hy; simp [hx]
  · simp [hy, same y hy]
section
variable {M : Model} {A : Around} {E : Value → Shared → Prop} {s : Shared} {Q : Flow → Shared → Prop} {h₀ : Heap} {L : Addr} {m : Str → Option Value} {news : List (Addr × Obj)} {st : Stmt} {rest : List Stmt} {env : Env}
theorem cut_bool (x : Str) (P : Bool → Prop) (_F : Fr h₀ L s.heap m) (_N : News h₀ L s.heap news)
    (h1 : wpAny M A (exec st env) (CutB h₀ L m x P news s) E s)
    (h2 : ∀ v h tk, P v → Fr h₀ L h (fun y => if y = x then some (.bool v) else m y) → News h₀ L h news → wpAny M A (execs rest env) Q E { s with heap := h, toks := tk }) :
    wpAny M A (execs (st :: rest) env) Q E s := by
  refine wpAny_execs_cons (wpAny_mono h1 (fun f s' h => ?_) fun _ _ e => e)
  obtain ⟨rfl, v, h, tk, m', hP, rfl, F', hx, same, N'⟩ := h
  rw [map_set hx same] at F'
  exact h2 v h tk hP F' N'
theorem cutBI {h : Heap} {m' : Str → Option Value} {x : Str} {P : Bool → Prop} {v : Bool} {tk : Nat} {all : List (Addr × Obj)} (F : Fr h₀ L h m') (hx : m' x = some (.bool v)) (same : ∀ y, y ≠ x → m' y = m y) (N : News h₀ L h all) (sub : ∀ p ∈ news, p ∈ all) (hP : P v) :
    CutB h₀ L m x P news s .next { s with heap := h, toks := tk } := ⟨rfl, v, h, tk, m', hP, rfl, F, hx, same, fun p hp => N p (sub p hp)⟩
theorem cutIs {h : Heap} {m' : Str → Option Value} {x : Str} {P : Int → Prop} {v : Int} {t : Tok} {tk : Nat} {all : List (Addr × Obj)} (F : Fr h₀ L h m') (hx : m' x = some (.int v t)) (same : ∀ y, y ≠ x → m' y = m y) (N : News h₀ L h all) (sub : ∀ p ∈ news, p ∈ all) (hP : P v) :
    CutPost h₀ L m x P news s .next { s with heap := h, toks := tk } := ⟨rfl, v, t, h, tk, m', hP, rfl, F, hx, same, fun p hp => N p (sub p hp)⟩
/-- a test that lets the law go on -/
def CutS (h₀ : Heap) (L : Addr) (m : Str → Option Value) (news : List (Addr × Obj)) (s : Shared) (f : Flow) (s' : Shared) : Prop :=
  f = .next ∧ ∃ h tk, s' = { s with heap := h, toks := tk } ∧ Fr h₀ L h m ∧ News h₀ L h news
theorem cut_skip (_F : Fr h₀ L s.heap m) (_N : News h₀ L s.heap news)
    (h1 : wpAny M A (exec st env) (CutS h₀ L m news s) E s)
    (h2 : ∀ h tk, Fr h₀ L h m → News h₀ L h news → wpAny M A (execs rest env) Q E { s with heap := h, toks := tk }) :
    wpAny M A (execs (st :: rest) env) Q E s := by
  refine wpAny_execs_cons (wpAny_mono h1 (fun f s' h => ?_) fun _ _ e => e)
  obtain ⟨rfl, h, tk, rfl, F', N'⟩ := h
  exact h2 h tk F' N'
theorem cutSI {h : Heap} {tk : Nat} {all : List (Addr × Obj)} (F : Fr h₀ L h m) (N : News h₀ L h all) (sub : ∀ p ∈ news, p ∈ all) : CutS h₀ L m news s .next { s with heap := h, toks := tk } := ⟨rfl, h, tk, rfl, F, fun p hp => N p (sub p hp)⟩
/-- a test that turns one Serial, and lets the law go on -/
def CutD (h₀ : Heap) (L : Addr) (m : Str → Option Value) (P : Params) (d : Addr) (v b : Int) (k1 k2 t2 : Tok) (news : List (Addr × Obj)) (s : Shared) (f : Flow) (s' : Shared) : Prop :=
  f = .next ∧ ∃ t h tk, s' = { s with heap := h, toks := tk } ∧ Fr h₀ L h m ∧ News h₀ L h ((d, serD P v b k1 t k2 t2) :: news)
theorem cut_turned (P : Params) {d : Addr} (v : Int) {v₀ b : Int} {k1 t1 k2 t2 : Tok} {r : List (Addr × Obj)} (_F : Fr h₀ L s.heap m) (_N : News h₀ L s.heap news) (_S : Spl d (serD P v₀ b k1 t1 k2 t2) news r)
    (h1 : wpAny M A (exec st env) (CutD h₀ L m P d v b k1 k2 t2 r s) E s)
    (h2 : ∀ t h tk, Fr h₀ L h m → News h₀ L h ((d, serD P v b k1 t k2 t2) :: r) → wpAny M A (execs rest env) Q E { s with heap := h, toks := tk }) :
    wpAny M A (execs (st :: rest) env) Q E s := by
  refine wpAny_execs_cons (wpAny_mono h1 (fun f s' h => ?_) fun _ _ e => e)
  obtain ⟨rfl, t, h, tk, rfl, F', N'⟩ := h
  exact h2 t h tk F' N'
theorem cutDI {P : Params} {d : Addr} {v b : Int} {k1 k2 t2 t : Tok} {h : Heap} {tk : Nat} {all : List (Addr × Obj)} (F : Fr h₀ L h m) (N : News h₀ L h all) (q : (d, serD P v b k1 t k2 t2) ∈ all) (sub : ∀ p ∈ news, p ∈ all) : CutD h₀ L m P d v b k1 k2 t2 news s .next { s with heap := h, toks := tk } :=
  ⟨rfl, t, h, tk, rfl, F, fun p hp => by
    rcases List.mem_cons.mp hp with rfl | hp
    · exact N _ q
    · exact N p (sub p hp)⟩
/-- a Serial made and named -/
def CutN (h₀ : Heap) (L : Addr) (m : Str → Option Value) (x : Str) (P : Params) (v b : Int) (news : List (Addr × Obj)) (s : Shared) (f : Flow) (s' : Shared) : Prop :=
  f = .next ∧ ∃ y dy k1 t1 k2 t2 h tk m', s' = { s with heap := h, toks := tk } ∧ Fr h₀ L h m' ∧ m' x = some (.ref y) ∧ (∀ z, z ≠ x → m' z = m z) ∧ News h₀ L h ((y, instObj 109 dy) :: (dy, serD P v b k1 t1 k2 t2) :: news) ∧ (∀ p ∈ news, p.1 < dy) ∧ dy < y
theorem cut_made (x : Str) (P : Params) (v b : Int) (_F : Fr h₀ L s.heap m) (_N : News h₀ L s.heap news)
    (h1 : wpAny M A (exec st env) (CutN h₀ L m x P v b news s) E s)
    (h2 : ∀ y dy k1 t1 k2 t2 h tk, Fr h₀ L h (fun z => if z = x then some (.ref y) else m z) → News h₀ L h ((y, instObj 109 dy) :: (dy, serD P v b k1 t1 k2 t2) :: news) → (∀ p ∈ news, p.1 < dy) → @LT.lt Nat _ dy y → wpAny M A (execs rest env) Q E { s with heap := h, toks := tk }) :
    wpAny M A (execs (st :: rest) env) Q E s := by
  refine wpAny_execs_cons (wpAny_mono h1 (fun f s' h => ?_) fun _ _ e => e)
  obtain ⟨rfl, y, dy, k1, t1, k2, t2, h, tk, m', rfl, F', hx, same, N', l1, l2⟩ := h
  rw [map_set hx same] at F'
  exact h2 y dy k1 t1 k2 t2 h tk F' N' l1 l2
theorem cutNI {x : Str} {P : Params} {v b : Int} {y dy : Addr} {k1 t1 k2 t2 : Tok} {h : Heap} {tk : Nat} {m' : Str → Option Value} (F : Fr h₀ L h m') (hx : m' x = some (.ref y)) (same : ∀ z, z ≠ x → m' z = m z) (N : News h₀ L h ((y, instObj 109 dy) :: (dy, serD P v b k1 t1 k2 t2) :: news)) (l1 : ∀ p ∈ news, p.1 < dy) (l2 : dy < y) :
    CutN h₀ L m x P v b news s .next { s with heap := h, toks := tk } := ⟨rfl, y, dy, k1, t1, k2, t2, h, tk, m', rfl, F, hx, same, N, l1, l2⟩
end
theorem Spl.other {d : Addr} {o : Obj} {p : Addr × Obj} (hp : p.2 ≠ o) : ∀ {l r : List (Addr × Obj)}, Spl d o l r → p ∈ l → p ∈ r
  | _, _, .head _, h => by
    rcases List.mem_cons.mp h with rfl | h
    · exact absurd rfl hp
    · exact h
  | _, _, .tail _ S, h => by
    rcases List.mem_cons.mp h with rfl | h
    · exact .head _
    · exact .tail _ (S.other hp h)
theorem inst_ne {P : Params} {C d : Addr} {v b : Int} {k1 t1 k2 t2 : Tok} : instObj C d ≠ serD P v b k1 t1 k2 t2 := fun h => by
  have := congrArg Obj.cls h
  cases this
theorem bne_of {a b : Int} (h : a = b) : (a != b) = false := by rw [h]; exact bne_self_eq_false _
section
variable {v n b : Int} {mi : Bool}
theorem bne_sum_pos (h : -(P2 (b - 1)) < n ∧ n < P2 (b - 1)) : (sumS v n b mi != addS v n b mi) = false := bne_of (sumS_pos h)
theorem bne_sum_neg (h : ¬ (-(P2 (b - 1)) < n ∧ n < P2 (b - 1))) : (sumS v n b mi != -1) = false := bne_of (sumS_neg h)
theorem bne_in_neg (h : sumS v n b mi = -1) : (inS v n b mi != v) = false := bne_of (inS_of_neg h)
theorem bne_in_pos (h : sumS v n b mi ≠ -1) : (inS v n b mi != sumS v n b mi) = false := bne_of (inS_of_pos h)
theorem bne_inS_pos (h : -(P2 (b - 1)) < n ∧ n < P2 (b - 1)) : (inS v n b mi != addS v n b mi) = false := bne_of (inS_pos h)
theorem bne_inS_neg (h : ¬ (-(P2 (b - 1)) < n ∧ n < P2 (b - 1))) : (inS v n b mi != v) = false := bne_of (inS_neg h)
end

theorem ser_off {d dy : Addr} {o o' : Obj} (h : dy ≠ d) : ∀ {l r : List (Addr × Obj)}, Spl d o l r → (dy, o') ∈ l → (dy, o') ∈ r
  | _, _, .head _, q => by
    rcases List.mem_cons.mp q with e | q
    · exact absurd (Prod.mk.inj e).1 h
    · exact q
  | _, _, .tail _ S, q => by
    rcases List.mem_cons.mp q with e | q
    · exact e ▸ .head _
    · exact .tail _ (ser_off h S q)
theorem c_inIw {w : World} {mean : ExcName → Option Value} {mg mb : Str → Option Value} {news all : List (Addr × Obj)} {x dx : Addr} {v b : Int} {n : Int} {tn : Tok} {mi : Bool} {k1 t1 k2 t2 : Tok}
    (hx : (x, instObj 109 dx) ∈ all) (S : Spl dx (serD w.params v b k1 t1 k2 t2) all news) (hb0 : 1 ≤ b) (hb : b ≤ 41) :
    Cl0 860 w mean mg mb 153 [.ref x, .int n tn, .bool mi] all (fun h₀ L m s Q =>
      ∀ r t' h' tk', Fr h₀ L h' m → News h₀ L h' ((dx, serD w.params (inS v n b mi) b k1 t' k2 t2) :: news) → Q (.int (sumS v n b mi) r) { s with heap := h', toks := tk' }) :=
  fun dp un gd cn cs a ccd A₀ base h₀ L m s Q E B F X N T XB TB hk hdp hun hret => c_inI (S.other inst_ne hx) S.ne hb0 hb dp un gd cn cs a ccd A₀ base h₀ L m s Q E B F X (newsHead N S) T XB TB hk hdp hun hret
theorem c_inSw {w : World} {mean : ExcName → Option Value} {mg mb : Str → Option Value} {news all : List (Addr × Obj)} {x dx : Addr} {v b : Int} {y dy : Addr} {n : Int} {k3 t3 k4 t4 : Tok} {mi : Bool} {k1 t1 k2 t2 : Tok}
    (hx : (x, instObj 109 dx) ∈ all) (S : Spl dx (serD w.params v b k1 t1 k2 t2) all news) (hy : (y, instObj 109 dy) ∈ all) (hdy : (dy, serD w.params n b k3 t3 k4 t4) ∈ all) (hyx : dy ≠ dx) (hb0 : 1 ≤ b) (hb : b ≤ 41) :
    Cl0 860 w mean mg mb 153 [.ref x, .ref y, .bool mi] all (fun h₀ L m s Q =>
      ∀ r t' h' tk', Fr h₀ L h' m → News h₀ L h' ((dx, serD w.params (inS v n b mi) b k1 t' k2 t2) :: news) → Q (.int (sumS v n b mi) r) { s with heap := h', toks := tk' }) :=
  fun dp un gd cn cs a ccd A₀ base h₀ L m s Q E B F X N T XB TB hk hdp hun hret => c_inS (S.other inst_ne hx) S.ne (S.other inst_ne hy) (ser_off hyx S hdy) hb0 hb dp un gd cn cs a ccd A₀ base h₀ L m s Q E B F X (newsHead N S) T XB TB hk hdp hun hret
theorem c_inTw {w : World} {mean : ExcName → Option Value} {mg mb : Str → Option Value} {news all : List (Addr × Obj)} {x dx : Addr} {v b : Int} {tn : Tok} {mi : Bool} {k1 t1 k2 t2 : Tok}
    (hx : (x, instObj 109 dx) ∈ all) (S : Spl dx (serD w.params v b k1 t1 k2 t2) all news) (hb0 : 1 ≤ b) (hb : b ≤ 41) :
    Cl0 860 w mean mg mb 153 [.ref x, .str (Str.ofString "1") tn, .bool mi] all (fun h₀ L m s Q =>
      ∀ r t' h' tk', Fr h₀ L h' m → News h₀ L h' ((dx, serD w.params v b k1 t' k2 t2) :: news) → Q (.int (-1) r) { s with heap := h', toks := tk' }) :=
  fun dp un gd cn cs a ccd A₀ base h₀ L m s Q E B F X N T XB TB hk hdp hun hret => c_inT (S.other inst_ne hx) S.ne hb0 hb dp un gd cn cs a ccd A₀ base h₀ L m s Q E B F X (newsHead N S) T XB TB hk hdp hun hret

end
section
local macro_rules | `(tactic| k_enter) => `(tactic| (refine' code_defS0 ?k1 ?k2 ?k3 ?k4 ?k5 ?kA ?k6 ?k7 ?k8 ?k9 ?kB ?_ ?cK ?c2 ?c3 ?c4 ?c5; k_extra "zq code_defS0"; intro g' L' h' FG' F' N' B' X' T' D'; (try dsimp only); (try k_lift B'); (try k_fold)))
section
local macro_rules | `(tactic| walk_at "call ref") => `(tactic| (k_here; (with_reducible show wpAny _ _ (call (Value.ref 109) [Value.int _ _, Value.int _ _]) _ _ _); k_dflt (refine' c_new ?zqb0 ?zqb1 _ _ _ _ _ _ _ _ _ _ _ _ _ _ _ _ _ ?zqB ?zqF ?zqX ?zqN ?zqT ?zqK ?zqD ?zqU ?_; k_extra "zq base"; k_extra "zq bits"; k_extra "zq room"); intro x9 d9 ka9 ta9 kb9 tb9 h9 tk9 F9 N9 l1 l2; (try k_lt l1); (try k_lt2 l2); k_extra "zq end"))
theorem c_sumI {w : World} {mean : ExcName → Option Value} {mg mb : Str → Option Value} {news : List (Addr × Obj)} {x dx : Addr} {v b : Int} {n : Int} {tn : Tok} {mi : Bool} {k1 t1 k2 t2 : Tok}
    (hx : (x, instObj 109 dx) ∈ news) (hdx : (dx, serD w.params v b k1 t1 k2 t2) ∈ news) (hb0 : 1 ≤ b) (hb : b ≤ 41) :
    Cl0 860 w mean mg mb 146 [.ref x, .int n tn, .bool mi] news (fun h₀ L m s Q =>
      ∀ r h' tk', Fr h₀ L h' m → News h₀ L h' news → Q (.int (sumS v n b mi) r) { s with heap := h', toks := tk' }) := by
  intro dp un gd cn cs a ccd A₀ base h₀ L m s Q E B F X N T XB TB hk hdp hun hret
  have hPp := P2_pos (b - 1)
  k_steps
  all_goals first | (exfalso; omega) | (refine' endI (Q := Q) (s := s) hret ?e ?F ?N ?S; (case F => assumption); (case N => assumption); (case S => first | exact fun _ h => h | exact subC (fun _ h => h) | exact subC (subC (fun _ h => h)) | exact subC (subC (subC (fun _ h => h))) | exact subC (subC (subC (subC (fun _ h => h))))); (case e => first | (refine sumS_n ?_; omega) | (rw [P2_fmod]; first | (refine sumS_t (by assumption) ?_; omega) | (refine sumS_f (by assumption) ?_; omega))))
theorem c_sumS {w : World} {mean : ExcName → Option Value} {mg mb : Str → Option Value} {news : List (Addr × Obj)} {x dx : Addr} {v b : Int} {y dy : Addr} {n : Int} {k3 t3 k4 t4 : Tok} {mi : Bool} {k1 t1 k2 t2 : Tok}
    (hx : (x, instObj 109 dx) ∈ news) (hdx : (dx, serD w.params v b k1 t1 k2 t2) ∈ news) (hy : (y, instObj 109 dy) ∈ news) (hdy : (dy, serD w.params n b k3 t3 k4 t4) ∈ news) (hb0 : 1 ≤ b) (hb : b ≤ 41) :
    Cl0 860 w mean mg mb 146 [.ref x, .ref y, .bool mi] news (fun h₀ L m s Q =>
      ∀ r h' tk', Fr h₀ L h' m → News h₀ L h' news → Q (.int (sumS v n b mi) r) { s with heap := h', toks := tk' }) := by
  intro dp un gd cn cs a ccd A₀ base h₀ L m s Q E B F X N T XB TB hk hdp hun hret
  have hPp := P2_pos (b - 1)
  k_steps
  all_goals first | (exfalso; omega) | (refine' endI (Q := Q) (s := s) hret ?e ?F ?N ?S; (case F => assumption); (case N => assumption); (case S => first | exact fun _ h => h | exact subC (fun _ h => h) | exact subC (subC (fun _ h => h)) | exact subC (subC (subC (fun _ h => h))) | exact subC (subC (subC (subC (fun _ h => h))))); (case e => first | (refine sumS_n ?_; omega) | (rw [P2_fmod]; first | (refine sumS_t (by assumption) ?_; omega) | (refine sumS_f (by assumption) ?_; omega))))
theorem c_sumT {w : World} {mean : ExcName → Option Value} {mg mb : Str → Option Value} {news : List (Addr × Obj)} {x dx : Addr} {v b : Int} {tn : Tok} {mi : Bool} {k1 t1 k2 t2 : Tok}
    (hx : (x, instObj 109 dx) ∈ news) (hdx : (dx, serD w.params v b k1 t1 k2 t2) ∈ news) (hb0 : 1 ≤ b) (hb : b ≤ 41) :
    Cl0 860 w mean mg mb 146 [.ref x, .str (Str.ofString "1") tn, .bool mi] news (fun h₀ L m s Q =>
      ∀ r h' tk', Fr h₀ L h' m → News h₀ L h' news → Q (.int (-1) r) { s with heap := h', toks := tk' }) := by
  intro dp un gd cn cs a ccd A₀ base h₀ L m s Q E B F X N T XB TB hk hdp hun hret
  have hPp := P2_pos (b - 1)
  k_steps
  all_goals first | (exfalso; omega) | (refine' endI (Q := Q) (s := s) hret ?e ?F ?N ?S; (case F => assumption); (case N => assumption); (case S => first | exact fun _ h => h | exact subC (fun _ h => h) | exact subC (subC (fun _ h => h)) | exact subC (subC (subC (fun _ h => h))) | exact subC (subC (subC (subC (fun _ h => h))))); (case e => rfl))

end
end
section
local macro_rules | `(tactic| walk_at "call ref") => `(tactic| (k_here; (with_reducible show wpAny _ _ (call (Value.ref 109) [Value.int _ _, Value.int _ _]) _ _ _); k_dflt (refine' c_new ?zqb0 ?zqb1 _ _ _ _ _ _ _ _ _ _ _ _ _ _ _ _ _ ?zqB ?zqF ?zqX ?zqN ?zqT ?zqK ?zqD ?zqU ?_; k_extra "zq base"; k_extra "zq bits"; k_extra "zq room"); intro x9 d9 ka9 ta9 kb9 tb9 h9 tk9 F9 N9 l1 l2; (try k_lt l1); (try k_lt2 l2); k_extra "zq end"))
section
local macro_rules | `(tactic| walk_at "call ref") => `(tactic| (k_here; (with_reducible show wpAny _ _ (call (Value.ref 43) [Value.ref _, Value.ref _]) _ _ _); k_dflt (refine' c_eqS ?zqhx ?zqhd ?zqhy ?zqhe ?zqb0 ?zqb1 _ _ _ _ _ _ _ _ _ _ _ _ _ _ _ _ _ ?zqB ?zqF ?zqX ?zqN ?zqT ?zqK ?zqD ?zqU ?_; k_extra "zq base"; k_extra "zq mem4"; k_extra "zq bits"; k_extra "zq room"); intro h9 tk9 F9 N9; k_extra "zq end"))
section
local macro_rules | `(tactic| walk_at "call ref") => `(tactic| (k_here; (with_reducible show wpAny _ _ (call (Value.ref 43) [Value.ref _, Value.int _ _]) _ _ _); k_dflt (refine' c_eqI ?zqhx ?zqhd ?zqb0 ?zqb1 _ _ _ _ _ _ _ _ _ _ _ _ _ _ _ _ _ ?zqB ?zqF ?zqX ?zqN ?zqT ?zqK ?zqD ?zqU ?_; k_extra "zq base"; k_extra "zq mem2"; k_extra "zq bits"; k_extra "zq room"); intro h9 tk9 F9 N9; k_extra "zq end"))
section
local macro_rules | `(tactic| walk_at "call ref") => `(tactic| (k_here; (with_reducible show wpAny _ _ (call (Value.ref 50) [Value.ref _, Value.ref _]) _ _ _); k_dflt (refine' c_neS ?zqhx ?zqhd ?zqhy ?zqhe ?zqb0 ?zqb1 _ _ _ _ _ _ _ _ _ _ _ _ _ _ _ _ _ ?zqB ?zqF ?zqX ?zqN ?zqT ?zqK ?zqD ?zqU ?_; k_extra "zq base"; k_extra "zq mem4"; k_extra "zq bits"; k_extra "zq room"); intro h9 tk9 F9 N9; k_extra "zq end"))
section
local macro_rules | `(tactic| walk_at "call ref") => `(tactic| (k_here; (with_reducible show wpAny _ _ (call (Value.ref 50) [Value.ref _, Value.int _ _]) _ _ _); k_dflt (refine' c_neI ?zqhx ?zqhd ?zqb0 ?zqb1 _ _ _ _ _ _ _ _ _ _ _ _ _ _ _ _ _ ?zqB ?zqF ?zqX ?zqN ?zqT ?zqK ?zqD ?zqU ?_; k_extra "zq base"; k_extra "zq mem2"; k_extra "zq bits"; k_extra "zq room"); intro h9 tk9 F9 N9; k_extra "zq end"))
section
local macro_rules | `(tactic| walk_at "call ref") => `(tactic| (k_here; (with_reducible show wpAny _ _ (call (Value.ref 57) [Value.ref _, Value.ref _]) _ _ _); k_dflt (refine' c_ltS ?zqhx ?zqhd ?zqhy ?zqhe ?zqb0 ?zqb1 _ _ _ _ _ _ _ _ _ _ _ _ _ _ _ _ _ ?zqB ?zqF ?zqX ?zqN ?zqT ?zqK ?zqD ?zqU ?_; k_extra "zq base"; k_extra "zq mem4"; k_extra "zq bits"; k_extra "zq room"); intro h9 tk9 F9 N9; k_extra "zq end"))
section
local macro_rules | `(tactic| walk_at "call ref") => `(tactic| (k_here; (with_reducible show wpAny _ _ (call (Value.ref 57) [Value.ref _, Value.int _ _]) _ _ _); k_dflt (refine' c_ltI ?zqhx ?zqhd ?zqb0 ?zqb1 _ _ _ _ _ _ _ _ _ _ _ _ _ _ _ _ _ ?zqB ?zqF ?zqX ?zqN ?zqT ?zqK ?zqD ?zqU ?_; k_extra "zq base"; k_extra "zq mem2"; k_extra "zq bits"; k_extra "zq room"); intro h9 tk9 F9 N9; k_extra "zq end"))
section
local macro_rules | `(tactic| walk_at "call ref") => `(tactic| (k_here; (with_reducible show wpAny _ _ (call (Value.ref 71) [Value.ref _, Value.ref _]) _ _ _); k_dflt (refine' c_gtS ?zqhx ?zqhd ?zqhy ?zqhe ?zqb0 ?zqb1 _ _ _ _ _ _ _ _ _ _ _ _ _ _ _ _ _ ?zqB ?zqF ?zqX ?zqN ?zqT ?zqK ?zqD ?zqU ?_; k_extra "zq base"; k_extra "zq mem4"; k_extra "zq bits"; k_extra "zq room"); intro h9 tk9 F9 N9; k_extra "zq end"))
section
local macro_rules | `(tactic| walk_at "call ref") => `(tactic| (k_here; (with_reducible show wpAny _ _ (call (Value.ref 71) [Value.ref _, Value.int _ _]) _ _ _); k_dflt (refine' c_gtI ?zqhx ?zqhd ?zqb0 ?zqb1 _ _ _ _ _ _ _ _ _ _ _ _ _ _ _ _ _ ?zqB ?zqF ?zqX ?zqN ?zqT ?zqK ?zqD ?zqU ?_; k_extra "zq base"; k_extra "zq mem2"; k_extra "zq bits"; k_extra "zq room"); intro h9 tk9 F9 N9; k_extra "zq end"))
def leS (v v' b : Int) : Bool := eqS v v' b || ltS v v' b
def geS (v v' b : Int) : Bool := eqS v v' b || gtS v v' b
theorem c_leS {w : World} {mean : ExcName → Option Value} {mg mb : Str → Option Value} {news : List (Addr × Obj)} {x dx y dy : Addr} {v v' b : Int} {k1 t1 k2 t2 k3 t3 k4 t4 : Tok}
    (hx : (x, instObj 109 dx) ∈ news) (hdx : (dx, serD w.params v b k1 t1 k2 t2) ∈ news) (hy : (y, instObj 109 dy) ∈ news) (hdy : (dy, serD w.params v' b k3 t3 k4 t4) ∈ news) (hb0 : 1 ≤ b) (hb : b ≤ 41) :
    Cl 870 w mean mg mb 64 [.ref x, .ref y] news (fun h₀ L m s Q =>
      ∀ h' tk', Fr h₀ L h' m → News h₀ L h' news → Q (.bool (leS v v' b)) { s with heap := h', toks := tk' }) := by
  intro dp un gd cn cs a ccd cl outer A₀ base h₀ L m s Q E B F X N T hk hdp hun hret
  k_steps
  all_goals (refine' endB (Q := Q) (s := s) hret ?e ?F ?N ?S; (case F => assumption); (case N => assumption); (case S => exact fun _ h => h); (case e => (unfold leS; simp only [*, Bool.true_or, Bool.false_or])))
theorem c_leI {w : World} {mean : ExcName → Option Value} {mg mb : Str → Option Value} {news : List (Addr × Obj)} {x dx : Addr} {v n b : Int} {tn : Tok} {k1 t1 k2 t2 : Tok}
    (hx : (x, instObj 109 dx) ∈ news) (hdx : (dx, serD w.params v b k1 t1 k2 t2) ∈ news) (hb0 : 1 ≤ b) (hb : b ≤ 41) :
    Cl 870 w mean mg mb 64 [.ref x, .int n tn] news (fun h₀ L m s Q =>
      ∀ h' tk', Fr h₀ L h' m → News h₀ L h' news → Q (.bool (leS v (n.fmod (P2 b)) b)) { s with heap := h', toks := tk' }) := by
  intro dp un gd cn cs a ccd cl outer A₀ base h₀ L m s Q E B F X N T hk hdp hun hret
  k_steps
  all_goals (refine' endB (Q := Q) (s := s) hret ?e ?F ?N ?S; (case F => assumption); (case N => assumption); (case S => exact fun _ h => h); (case e => (unfold leS; simp only [*, Bool.true_or, Bool.false_or])))
theorem c_geS {w : World} {mean : ExcName → Option Value} {mg mb : Str → Option Value} {news : List (Addr × Obj)} {x dx y dy : Addr} {v v' b : Int} {k1 t1 k2 t2 k3 t3 k4 t4 : Tok}
    (hx : (x, instObj 109 dx) ∈ news) (hdx : (dx, serD w.params v b k1 t1 k2 t2) ∈ news) (hy : (y, instObj 109 dy) ∈ news) (hdy : (dy, serD w.params v' b k3 t3 k4 t4) ∈ news) (hb0 : 1 ≤ b) (hb : b ≤ 41) :
    Cl 870 w mean mg mb 78 [.ref x, .ref y] news (fun h₀ L m s Q =>
      ∀ h' tk', Fr h₀ L h' m → News h₀ L h' news → Q (.bool (geS v v' b)) { s with heap := h', toks := tk' }) := by
  intro dp un gd cn cs a ccd cl outer A₀ base h₀ L m s Q E B F X N T hk hdp hun hret
  k_steps
  all_goals (refine' endB (Q := Q) (s := s) hret ?e ?F ?N ?S; (case F => assumption); (case N => assumption); (case S => exact fun _ h => h); (case e => (unfold geS; simp only [*, Bool.true_or, Bool.false_or])))
theorem c_geI {w : World} {mean : ExcName → Option Value} {mg mb : Str → Option Value} {news : List (Addr × Obj)} {x dx : Addr} {v n b : Int} {tn : Tok} {k1 t1 k2 t2 : Tok}
    (hx : (x, instObj 109 dx) ∈ news) (hdx : (dx, serD w.params v b k1 t1 k2 t2) ∈ news) (hb0 : 1 ≤ b) (hb : b ≤ 41) :
    Cl 870 w mean mg mb 78 [.ref x, .int n tn] news (fun h₀ L m s Q =>
      ∀ h' tk', Fr h₀ L h' m → News h₀ L h' news → Q (.bool (geS v (n.fmod (P2 b)) b)) { s with heap := h', toks := tk' }) := by
  intro dp un gd cn cs a ccd cl outer A₀ base h₀ L m s Q E B F X N T hk hdp hun hret
  k_steps
  all_goals (refine' endB (Q := Q) (s := s) hret ?e ?F ?N ?S; (case F => assumption); (case N => assumption); (case S => exact fun _ h => h); (case e => (unfold geS; simp only [*, Bool.true_or, Bool.false_or])))

section
local macro_rules | `(tactic| walk_at "call ref") => `(tactic| (k_here; (with_reducible show wpAny _ _ (call (Value.ref 64) [Value.ref _, Value.ref _]) _ _ _); k_dflt (refine' c_leS ?zqhx ?zqhd ?zqhy ?zqhe ?zqb0 ?zqb1 _ _ _ _ _ _ _ _ _ _ _ _ _ _ _ _ _ ?zqB ?zqF ?zqX ?zqN ?zqT ?zqK ?zqD ?zqU ?_; k_extra "zq base"; k_extra "zq mem4"; k_extra "zq bits"; k_extra "zq room"); intro h9 tk9 F9 N9; k_extra "zq end"))
section
local macro_rules | `(tactic| walk_at "call ref") => `(tactic| (k_here; (with_reducible show wpAny _ _ (call (Value.ref 64) [Value.ref _, Value.int _ _]) _ _ _); k_dflt (refine' c_leI ?zqhx ?zqhd ?zqb0 ?zqb1 _ _ _ _ _ _ _ _ _ _ _ _ _ _ _ _ _ ?zqB ?zqF ?zqX ?zqN ?zqT ?zqK ?zqD ?zqU ?_; k_extra "zq base"; k_extra "zq mem2"; k_extra "zq bits"; k_extra "zq room"); intro h9 tk9 F9 N9; k_extra "zq end"))
section
local macro_rules | `(tactic| walk_at "call ref") => `(tactic| (k_here; (with_reducible show wpAny _ _ (call (Value.ref 78) [Value.ref _, Value.ref _]) _ _ _); k_dflt (refine' c_geS ?zqhx ?zqhd ?zqhy ?zqhe ?zqb0 ?zqb1 _ _ _ _ _ _ _ _ _ _ _ _ _ _ _ _ _ ?zqB ?zqF ?zqX ?zqN ?zqT ?zqK ?zqD ?zqU ?_; k_extra "zq base"; k_extra "zq mem4"; k_extra "zq bits"; k_extra "zq room"); intro h9 tk9 F9 N9; k_extra "zq end"))
section
local macro_rules | `(tactic| walk_at "call ref") => `(tactic| (k_here; (with_reducible show wpAny _ _ (call (Value.ref 78) [Value.ref _, Value.int _ _]) _ _ _); k_dflt (refine' c_geI ?zqhx ?zqhd ?zqb0 ?zqb1 _ _ _ _ _ _ _ _ _ _ _ _ _ _ _ _ _ ?zqB ?zqF ?zqX ?zqN ?zqT ?zqK ?zqD ?zqU ?_; k_extra "zq base"; k_extra "zq mem2"; k_extra "zq bits"; k_extra "zq room"); intro h9 tk9 F9 N9; k_extra "zq end"))

/-- what _law_order hands back -/
abbrev ordObj (v v' b : Int) : Obj := { cls := .type "tuple", data := .seq #[.bool (ltS v v' b), .bool (leS v v' b), .bool (gtS v v' b), .bool (geS v v' b), .bool (eqS v v' b), .bool (neS v v' b)] }
theorem c_orderS {w : World} {mean : ExcName → Option Value} {mg mb : Str → Option Value} {news : List (Addr × Obj)} {x dx y dy : Addr} {v v' b : Int} {k1 t1 k2 t2 k3 t3 k4 t4 : Tok}
    (hx : (x, instObj 109 dx) ∈ news) (hdx : (dx, serD w.params v b k1 t1 k2 t2) ∈ news) (hy : (y, instObj 109 dy) ∈ news) (hdy : (dy, serD w.params v' b k3 t3 k4 t4) ∈ news) (hb0 : 1 ≤ b) (hb : b ≤ 41) :
    Cl 860 w mean mg mb 120 [.ref x, .ref y] news (fun h₀ L m s Q =>
      ∀ D h' tk', Fr h₀ L h' m → News h₀ L h' ((D, ordObj v v' b) :: news) → (∀ p ∈ news, p.1 < D) → Q (.ref D) { s with heap := h', toks := tk' }) := by
  intro dp un gd cn cs a ccd cl outer A₀ base h₀ L m s Q E B F X N T hk hdp hun hret
  k_steps
  all_goals (refine' hret _ _ _ ?F ?N ?S; (case F => assumption); (case N => assumption); (case S => assumption))
theorem c_orderI {w : World} {mean : ExcName → Option Value} {mg mb : Str → Option Value} {news : List (Addr × Obj)} {x dx : Addr} {v n b : Int} {tn : Tok} {k1 t1 k2 t2 : Tok}
    (hx : (x, instObj 109 dx) ∈ news) (hdx : (dx, serD w.params v b k1 t1 k2 t2) ∈ news) (hb0 : 1 ≤ b) (hb : b ≤ 41) :
    Cl 860 w mean mg mb 120 [.ref x, .int n tn] news (fun h₀ L m s Q =>
      ∀ D h' tk', Fr h₀ L h' m → News h₀ L h' ((D, ordObj v (n.fmod (P2 b)) b) :: news) → (∀ p ∈ news, p.1 < D) → Q (.ref D) { s with heap := h', toks := tk' }) := by
  intro dp un gd cn cs a ccd cl outer A₀ base h₀ L m s Q E B F X N T hk hdp hun hret
  k_steps
  all_goals (refine' hret _ _ _ ?F ?N ?S; (case F => assumption); (case N => assumption); (case S => assumption))

end
end
end
end
end
end
end
end
end
end
end
end
end
section
local macro_rules | `(tactic| walk_at "eval ListComp") => `(tactic| (k_here; lct_look; k_dflt (refine ListComp_tup (by k_asm) (by with_unfolding_all rfl) (by decide) (by rfl) (by decide) (by rfl) ?_)))
section
local macro_rules | `(tactic| walk_at "TupSrc") => `(tactic| (k_here; k_dflt (refine' tupSrc rfl ?F ?N ?m ?z ?_; (case F => k_asm); (case N => k_asm); (case m => k_mem); (case z => exact Nat.le_of_ble_eq_true rfl); intro g'; lct_lit)))
section
local macro_rules | `(tactic| walk_at "CompEnd") => `(tactic| (k_dflt (refine' compEnd0 ?N ?F ?o ?S ?_; (case N => k_asm); (case F => k_asm); (case o => first | assumption | (simp only [LCg.Off3, and_true]; assumption)); (case S => k_mem); k_whole)))

theorem endT {h₀ h' : Heap} {L D : Addr} {m : Str → Option Value} {s : Shared} {Q : Value → Shared → Prop} {news news' : List (Addr × Obj)} {v v' b : Int} {x1 x2 x3 x4 x5 x6 : Bool} {tk' : Nat}
    (hret : ∀ D h' tk', Fr h₀ L h' m → News h₀ L h' ((D, ordObj v v' b) :: news) → (∀ p ∈ news, p.1 < D) → Q (.ref D) { s with heap := h', toks := tk' })
    (F : Fr h₀ L h' m) (N : News h₀ L h' ((D, { cls := .type "tuple", data := .seq #[.bool x1, .bool x2, .bool x3, .bool x4, .bool x5, .bool x6] }) :: news')) (sub : ∀ p ∈ news, p ∈ news') (hl : ∀ p ∈ news, p.1 < D)
    (e1 : x1 = ltS v v' b) (e2 : x2 = leS v v' b) (e3 : x3 = gtS v v' b) (e4 : x4 = geS v v' b) (e5 : x5 = eqS v v' b) (e6 : x6 = neS v v' b) : Q (.ref D) { s with heap := h', toks := tk' } := by
  subst e1 e2 e3 e4 e5 e6
  exact hret D h' tk' F (fun p hp => N p ((List.mem_cons.mp hp).elim (fun e => e ▸ List.mem_cons_self) fun q => List.mem_cons_of_mem _ (sub p q))) hl
theorem c_due {w : World} {mean : ExcName → Option Value} {mg mb : Str → Option Value} {news : List (Addr × Obj)} {a' b' b : Int} {ta tb tc : Tok} (ha : 0 ≤ a') (ha' : a' < P2 b) (hb : 0 ≤ b') (hb' : b' < P2 b) (hb0 : 1 ≤ b) (hb : b ≤ 41) :
    Cl 860 w mean mg mb 125 [.int a' ta, .int b' tb, .int b tc] news (fun h₀ L m s Q =>
      ∀ D h' tk', Fr h₀ L h' m → News h₀ L h' ((D, ordObj a' b' b) :: news) → (∀ p ∈ news, p.1 < D) → Q (.ref D) { s with heap := h', toks := tk' }) := by
  intro dp un gd cn cs a ccd cl outer A₀ base h₀ L m s Q E B F X N T hk hdp hun hret
  have hPp := P2_pos b
  have hPs := P2_succ hb0
  k_steps
  all_goals first | (exfalso; omega) | (refine' endT (Q := Q) (s := s) hret ?F ?N ?S ?l ?e1 ?e2 ?e3 ?e4 ?e5 ?e6; (case F => assumption); (case N => assumption); (case S => first | exact fun _ h => h | exact subC (fun _ h => h) | exact subC (subC (fun _ h => h)) | exact subC (subC (subC (fun _ h => h))) | exact subC (subC (subC (subC (fun _ h => h))))); (case l => first | assumption | exact allS1 (by assumption) | exact allS2 (by assumption) | exact allS3 (by assumption) | exact allS4 (by assumption) | exact allS5 (by assumption)); (case e1 => (rw [Bool.eq_iff_iff]; simp only [leS, geS, ltS, gtS, eqS, neS, Bool.or_eq_true, decide_eq_true_eq, beq_iff_eq, bne_iff_ne, Bool.false_eq_true, Bool.and_eq_true]; omega)); (case e2 => (rw [Bool.eq_iff_iff]; simp only [leS, geS, ltS, gtS, eqS, neS, Bool.or_eq_true, decide_eq_true_eq, beq_iff_eq, bne_iff_ne, Bool.false_eq_true, Bool.and_eq_true]; omega)); (case e3 => (rw [Bool.eq_iff_iff]; simp only [leS, geS, ltS, gtS, eqS, neS, Bool.or_eq_true, decide_eq_true_eq, beq_iff_eq, bne_iff_ne, Bool.false_eq_true, Bool.and_eq_true]; omega)); (case e4 => (rw [Bool.eq_iff_iff]; simp only [leS, geS, ltS, gtS, eqS, neS, Bool.or_eq_true, decide_eq_true_eq, beq_iff_eq, bne_iff_ne, Bool.false_eq_true, Bool.and_eq_true]; omega)); (case e5 => (rw [Bool.eq_iff_iff]; simp only [leS, geS, ltS, gtS, eqS, neS, Bool.or_eq_true, decide_eq_true_eq, beq_iff_eq, bne_iff_ne, Bool.false_eq_true, Bool.and_eq_true]; omega)); (case e6 => (rw [Bool.eq_iff_iff]; simp only [leS, geS, ltS, gtS, eqS, neS, Bool.or_eq_true, decide_eq_true_eq, beq_iff_eq, bne_iff_ne, Bool.false_eq_true, Bool.and_eq_true]; omega)))

theorem ne_ord {prog : Program} {w : World} {A : Around} {E : Value → Shared → Prop} {s : Shared} {Q : Value → Shared → Prop} {h₀ : Heap} {L D1 D2 : Addr} {news : List (Addr × Obj)} {v v' b : Int}
    (N : News h₀ L s.heap news) (h1 : (D1, ordObj v v' b) ∈ news) (h2 : (D2, ordObj v v' b) ∈ news) (hu : A.units + 64 < cLine) (h : Q (.bool false) s) :
    wpAny (model prog w) A (compareOp .NotEq (.ref D1) (.ref D2)) Q E s := by
  have rd : ∀ D, (D, ordObj v v' b) ∈ news → ∃ as, Reads s.heap (.ref D) (.tuple [.bool (ltS v v' b), .bool (leS v v' b), .bool (gtS v v' b), .bool (geS v v' b), .bool (eqS v v' b), .bool (neS v v' b)]) as := fun D hD =>
    ⟨_, Reads.tuple (N _ hD).1 rfl rfl (.cons (.bool _) (.cons (.bool _) (.cons (.bool _) (.cons (.bool _) (.cons (.bool _) (.cons (.bool _) .nil))))))⟩
  obtain ⟨_, r1⟩ := rd D1 h1
  obtain ⟨_, r2⟩ := rd D2 h2
  generalize ltS v v' b = x1 at r1 r2
  generalize leS v v' b = x2 at r1 r2
  generalize gtS v v' b = x3 at r1 r2
  generalize geS v v' b = x4 at r1 r2
  generalize eqS v v' b = x5 at r1 r2
  generalize neS v v' b = x6 at r1 r2
  have sh : PySem.SeqAt.shaped (.tuple [.bool x1, .bool x2, .bool x3, .bool x4, .bool x5, .bool x6]) = true := by
    simp [PySem.SeqAt.shaped, PyData.canLay0, PyData.canLayAll0, PyData.depth, PyData.depthAll]
  refine ne_dataH_same r1 r2 sh sh hu (by simp [PySem.SeqAt.noMix, PySem.SeqAt.noMixAll]) ?_
  have e : PySem.Spec.same (.tuple [.bool x1, .bool x2, .bool x3, .bool x4, .bool x5, .bool x6]) (.tuple [.bool x1, .bool x2, .bool x3, .bool x4, .bool x5, .bool x6]) = true := by
    simp [PySem.Spec.same, PySem.Spec.sameAll]
  rw [e]
  exact h

end
end
end
theorem c_nieqS {w : World} {mean : ExcName → Option Value} {mg mb : Str → Option Value} {news : List (Addr × Obj)} {x dx y dy : Addr} {v b v' b' : Int} {k1 t1 k2 t2 k3 t3 k4 t4 : Tok}
    (hx : (x, instObj 109 dx) ∈ news) (hdx : (dx, serD w.params v b k1 t1 k2 t2) ∈ news) (hy : (y, instObj 109 dy) ∈ news) (hdy : (dy, serD w.params v' b' k3 t3 k4 t4) ∈ news) (hbb : b ≠ b') :
    Cl 880 w mean mg mb 43 [.ref x, .ref y] news (fun h₀ L m s Q =>
      ∀ h' tk', Fr h₀ L h' m → News h₀ L h' news → Q .notImplemented { s with heap := h', toks := tk' }) := by
  intro dp un gd cn cs a ccd cl outer A₀ base h₀ L m s Q E B F X N T hk hdp hun hret
  k_steps
  all_goals first | (exfalso; omega) | (refine' hret _ _ ?F ?N; (case F => assumption); (case N => assumption))
theorem c_nieqT {w : World} {mean : ExcName → Option Value} {mg mb : Str → Option Value} {news : List (Addr × Obj)} {x dx : Addr} {v b : Int} {tx : Str} {tn : Tok} {k1 t1 k2 t2 : Tok}
    (hx : (x, instObj 109 dx) ∈ news) (hdx : (dx, serD w.params v b k1 t1 k2 t2) ∈ news) :
    Cl 880 w mean mg mb 43 [.ref x, .str tx tn] news (fun h₀ L m s Q =>
      ∀ h' tk', Fr h₀ L h' m → News h₀ L h' news → Q .notImplemented { s with heap := h', toks := tk' }) := by
  intro dp un gd cn cs a ccd cl outer A₀ base h₀ L m s Q E B F X N T hk hdp hun hret
  k_steps
  all_goals first | (exfalso; omega) | (refine' hret _ _ ?F ?N; (case F => assumption); (case N => assumption))
theorem c_nineS {w : World} {mean : ExcName → Option Value} {mg mb : Str → Option Value} {news : List (Addr × Obj)} {x dx y dy : Addr} {v b v' b' : Int} {k1 t1 k2 t2 k3 t3 k4 t4 : Tok}
    (hx : (x, instObj 109 dx) ∈ news) (hdx : (dx, serD w.params v b k1 t1 k2 t2) ∈ news) (hy : (y, instObj 109 dy) ∈ news) (hdy : (dy, serD w.params v' b' k3 t3 k4 t4) ∈ news) (hbb : b ≠ b') :
    Cl 880 w mean mg mb 50 [.ref x, .ref y] news (fun h₀ L m s Q =>
      ∀ h' tk', Fr h₀ L h' m → News h₀ L h' news → Q .notImplemented { s with heap := h', toks := tk' }) := by
  intro dp un gd cn cs a ccd cl outer A₀ base h₀ L m s Q E B F X N T hk hdp hun hret
  k_steps
  all_goals first | (exfalso; omega) | (refine' hret _ _ ?F ?N; (case F => assumption); (case N => assumption))
theorem c_nineT {w : World} {mean : ExcName → Option Value} {mg mb : Str → Option Value} {news : List (Addr × Obj)} {x dx : Addr} {v b : Int} {tx : Str} {tn : Tok} {k1 t1 k2 t2 : Tok}
    (hx : (x, instObj 109 dx) ∈ news) (hdx : (dx, serD w.params v b k1 t1 k2 t2) ∈ news) :
    Cl 880 w mean mg mb 50 [.ref x, .str tx tn] news (fun h₀ L m s Q =>
      ∀ h' tk', Fr h₀ L h' m → News h₀ L h' news → Q .notImplemented { s with heap := h', toks := tk' }) := by
  intro dp un gd cn cs a ccd cl outer A₀ base h₀ L m s Q E B F X N T hk hdp hun hret
  k_steps
  all_goals first | (exfalso; omega) | (refine' hret _ _ ?F ?N; (case F => assumption); (case N => assumption))
theorem c_niltS {w : World} {mean : ExcName → Option Value} {mg mb : Str → Option Value} {news : List (Addr × Obj)} {x dx y dy : Addr} {v b v' b' : Int} {k1 t1 k2 t2 k3 t3 k4 t4 : Tok}
    (hx : (x, instObj 109 dx) ∈ news) (hdx : (dx, serD w.params v b k1 t1 k2 t2) ∈ news) (hy : (y, instObj 109 dy) ∈ news) (hdy : (dy, serD w.params v' b' k3 t3 k4 t4) ∈ news) (hbb : b ≠ b') :
    Cl 880 w mean mg mb 57 [.ref x, .ref y] news (fun h₀ L m s Q =>
      ∀ h' tk', Fr h₀ L h' m → News h₀ L h' news → Q .notImplemented { s with heap := h', toks := tk' }) := by
  intro dp un gd cn cs a ccd cl outer A₀ base h₀ L m s Q E B F X N T hk hdp hun hret
  k_steps
  all_goals first | (exfalso; omega) | (refine' hret _ _ ?F ?N; (case F => assumption); (case N => assumption))
theorem c_niltT {w : World} {mean : ExcName → Option Value} {mg mb : Str → Option Value} {news : List (Addr × Obj)} {x dx : Addr} {v b : Int} {tx : Str} {tn : Tok} {k1 t1 k2 t2 : Tok}
    (hx : (x, instObj 109 dx) ∈ news) (hdx : (dx, serD w.params v b k1 t1 k2 t2) ∈ news) :
    Cl 880 w mean mg mb 57 [.ref x, .str tx tn] news (fun h₀ L m s Q =>
      ∀ h' tk', Fr h₀ L h' m → News h₀ L h' news → Q .notImplemented { s with heap := h', toks := tk' }) := by
  intro dp un gd cn cs a ccd cl outer A₀ base h₀ L m s Q E B F X N T hk hdp hun hret
  k_steps
  all_goals first | (exfalso; omega) | (refine' hret _ _ ?F ?N; (case F => assumption); (case N => assumption))
theorem c_nigtS {w : World} {mean : ExcName → Option Value} {mg mb : Str → Option Value} {news : List (Addr × Obj)} {x dx y dy : Addr} {v b v' b' : Int} {k1 t1 k2 t2 k3 t3 k4 t4 : Tok}
    (hx : (x, instObj 109 dx) ∈ news) (hdx : (dx, serD w.params v b k1 t1 k2 t2) ∈ news) (hy : (y, instObj 109 dy) ∈ news) (hdy : (dy, serD w.params v' b' k3 t3 k4 t4) ∈ news) (hbb : b ≠ b') :
    Cl 880 w mean mg mb 71 [.ref x, .ref y] news (fun h₀ L m s Q =>
      ∀ h' tk', Fr h₀ L h' m → News h₀ L h' news → Q .notImplemented { s with heap := h', toks := tk' }) := by
  intro dp un gd cn cs a ccd cl outer A₀ base h₀ L m s Q E B F X N T hk hdp hun hret
  k_steps
  all_goals first | (exfalso; omega) | (refine' hret _ _ ?F ?N; (case F => assumption); (case N => assumption))
theorem c_nigtT {w : World} {mean : ExcName → Option Value} {mg mb : Str → Option Value} {news : List (Addr × Obj)} {x dx : Addr} {v b : Int} {tx : Str} {tn : Tok} {k1 t1 k2 t2 : Tok}
    (hx : (x, instObj 109 dx) ∈ news) (hdx : (dx, serD w.params v b k1 t1 k2 t2) ∈ news) :
    Cl 880 w mean mg mb 71 [.ref x, .str tx tn] news (fun h₀ L m s Q =>
      ∀ h' tk', Fr h₀ L h' m → News h₀ L h' news → Q .notImplemented { s with heap := h', toks := tk' }) := by
  intro dp un gd cn cs a ccd cl outer A₀ base h₀ L m s Q E B F X N T hk hdp hun hret
  k_steps
  all_goals first | (exfalso; omega) | (refine' hret _ _ ?F ?N; (case F => assumption); (case N => assumption))

section
local macro_rules | `(tactic| k_enter) => `(tactic| (refine' code_defS0 ?k1 ?k2 ?k3 ?k4 ?k5 ?kA ?k6 ?k7 ?k8 ?k9 ?kB ?_ ?cK ?c2 ?c3 ?c4 ?c5; k_extra "zq code_defS0"; intro g' L' h' FG' F' N' B' X' T' D'; (try dsimp only); (try k_lift B'); (try k_fold)))
section
local macro_rules | `(tactic| walk_at "noteFrame ref") => `(tactic| (k_here; (with_reducible rename Heap.NewExc _ _ _ _ => hNewX); (with_reducible show wpAny _ _ (noteFrame _ _) (fun _ s₂ => wpAny _ _ (setFlight _ none) (fun _ s₃ => wpAny _ _ (handleBy _ _ (ExceptHandler.ExceptHandler (some (Expr.Name ("TypeError" : Str) _)) none _ _ :: _)) _ _ s₃) _ s₂) _ _); k_dflt (refine' caught_here0 (T' := "TypeError") hNewX ?F ?N ?K ?XB ?TB ?D ?T0 ?ex PyProof.Rows.Boot.«TypeError» ?hn PySem.F.isExc_TypeError PySem.F.notTuple_TypeError ?hs ?_; (case F => assumption); (case N => assumption); (case K => assumption); (case XB => assumption); (case TB => assumption); (case D => assumption); (case T0 => first | assumption | exact KtsTurn.refl); (case hs => kts_sub); (case ex => k_is); (case hn => decide); k_whole); clear hNewX; intro h' g' T' F' N' K' X' P' D'; (try k_lift K'); (try k_sweep)))
section
local macro_rules | `(tactic| walk_at "exec For Name Call cons nil") => `(tactic| (k_here; k_dflt (refine wpAny_For ?_)))
section
local macro_rules | `(tactic| walk_at "pyIter ref") => `(tactic| (k_here; k_dflt (refine' for4_turned ?hh ?hr ?a0 ?b0 ?F ?N ?K ?X ?T ?D ?T0 ?turn ?done; (case hh => rfl); (case hr => assumption); (case a0 => rfl); (case b0 => rfl); (case F => assumption); (case N => assumption); (case K => assumption); (case X => assumption); (case T => assumption); (case D => assumption); (case T0 => first | assumption | exact KtsTurn.refl); (case' turn => intro i' t' I' g' h' tk' hi' T' F' N' K' X' P' D'; (try k_lift K'); (try k_sweep); (try k_fold)); (case' done => intro v' g' h' tk' T' F' N' K' X' P' D'; (try k_lift K'); (try k_sweep); (try dsimp only)))))
section
local macro_rules | `(tactic| walk_at "TurnB") => `(tactic| dsimp only [TurnB])
section
local macro_rules | `(tactic| walk_at "BetweenB") => `(tactic| (refine ⟨_, _, _, _, rfl, by first | assumption | exact KtsTurn.refl, by assumption, ?same, by assumption, by assumption, by assumption, by assumption, by assumption⟩; (case same => intro y hy; exact if_neg hy)))
section
local macro_rules | `(tactic| k_enter) => `(tactic| ((with_reducible show codeAny _ _ (Code.call (Value.ref 132) _) _ _); (refine' code_defS ?k1 ?k2 ?k3 ?k4 ?k5 ?XB ?TB ?D ?T0 ?kA ?k6 ?k7 ?k8 ?k9 ?kB ?_ ?cK ?c2 ?c3 ?c4 ?c5; k_extra "zq code_defS"; intro g' L' h' FG' F' N' B' X' T' D'; (try dsimp only); (try k_lift B'); (try k_fold))))
section
local macro_rules | `(tactic| walk_at "And") => `(tactic| first
  | ((with_reducible show _ = Value.notImplemented ∧ Frag.In _ _ ∧ InstAt _ _ _ _ _ ∧ wpAny _ _ _ _ _ _); k_dflt (refine' ⟨rfl, ?X, ?I, ?_⟩; (case I => k_inst); (case X => k_in)))
  | ((with_reducible show _ = Value.notImplemented ∧ InstAt _ _ _ _ _ ∧ InstAt _ _ _ _ _ ∧ Frag.In _ _ ∧ _); k_dflt (refine' ⟨rfl, ?I, ?J, ?X, ?_⟩; (case I => k_inst); (case J => k_inst); (case X => k_in); intro h' tk' e' hNew'))
  | ((with_reducible show _ = Value.notImplemented ∧ InstAt _ _ _ _ _ ∧ InstAt _ _ _ _ _ ∧ _); k_dflt (refine' ⟨rfl, ?I, ?J, ?_⟩; (case I => k_inst); (case J => k_inst)))
  | ((with_reducible show _ = Value.notImplemented ∧ Frag.In _ _ ∧ InstAt _ _ _ _ _ ∧ Frag.In _ _ ∧ _); k_dflt (refine' ⟨rfl, ?X, ?I, ?Y, ?_⟩; (case I => k_inst); (case X => k_in); (case Y => k_in); intro h' tk' e' hNew'))
  | ((with_reducible show _ = Value.notImplemented ∧ Frag.In _ _ ∧ InstAt _ _ _ _ _ ∧ _); k_dflt (refine' ⟨rfl, ?X, ?I, ?_⟩; (case I => k_inst); (case X => k_in))))
section
local macro_rules | `(tactic| walk_at "call ref") => `(tactic| (k_here; (with_reducible show wpAny _ _ (call (Value.ref 43) [Value.ref _, Value.ref _]) _ _ _); k_dflt (refine' c_nieqS ?zqhx ?zqhd ?zqhy ?zqhe ?zqbb _ _ _ _ _ _ _ _ _ _ _ _ _ _ _ _ _ ?zqB ?zqF ?zqX ?zqN ?zqT ?zqK ?zqD ?zqU ?_; k_extra "zq base"; k_extra "zq mem4"; (case zqbb => omega); k_extra "zq room"); intro h9 tk9 F9 N9; k_extra "zq end"))
section
local macro_rules | `(tactic| walk_at "compareOp Eq ref ref") => `(tactic| (k_here; (with_reducible show wpAny _ _ (compareOp CmpOp.Eq (Value.ref _) (Value.ref _)) _ _ _); k_dflt (refine' eq_ni2 ?u ?ne ?X ?I ?s1 ?f1 ?J ?_; (case X => k_in); (case I => k_inst); (case J => k_inst); (case u => k_units); (case ne => first | assumption | exact Ne.symm (by assumption)); (case s1 => k_is); (case f1 => k_is); k_whole)))
section
local macro_rules | `(tactic| walk_at "call ref") => `(tactic| (k_here; (with_reducible show wpAny _ _ (call (Value.ref 50) [Value.ref _, Value.ref _]) _ _ _); k_dflt (refine' c_nineS ?zqhx ?zqhd ?zqhy ?zqhe ?zqbb _ _ _ _ _ _ _ _ _ _ _ _ _ _ _ _ _ ?zqB ?zqF ?zqX ?zqN ?zqT ?zqK ?zqD ?zqU ?_; k_extra "zq base"; k_extra "zq mem4"; (case zqbb => omega); k_extra "zq room"); intro h9 tk9 F9 N9; k_extra "zq end"))
section
local macro_rules | `(tactic| walk_at "compareOp NotEq ref ref") => `(tactic| (k_here; (with_reducible show wpAny _ _ (compareOp CmpOp.NotEq (Value.ref _) (Value.ref _)) _ _ _); k_dflt (refine' ne_ni2 ?u ?ne ?X ?I ?s1 ?f1 ?J ?_; (case X => k_in); (case I => k_inst); (case J => k_inst); (case u => k_units); (case ne => first | assumption | exact Ne.symm (by assumption)); (case s1 => k_is); (case f1 => k_is); k_whole)))
section
local macro_rules | `(tactic| walk_at "call ref") => `(tactic| (k_here; (with_reducible show wpAny _ _ (call (Value.ref 57) [Value.ref _, Value.ref _]) _ _ _); k_dflt (refine' c_niltS ?zqhx ?zqhd ?zqhy ?zqhe ?zqbb _ _ _ _ _ _ _ _ _ _ _ _ _ _ _ _ _ ?zqB ?zqF ?zqX ?zqN ?zqT ?zqK ?zqD ?zqU ?_; k_extra "zq base"; k_extra "zq mem4"; (case zqbb => omega); k_extra "zq room"); intro h9 tk9 F9 N9; k_extra "zq end"))
section
local macro_rules | `(tactic| walk_at "compareOp Lt ref ref") => `(tactic| (k_here; (with_reducible show wpAny _ _ (compareOp CmpOp.Lt (Value.ref _) (Value.ref _)) _ _ _); k_dflt (refine' lt_ni2 ?u ?ne ?hh ?hn ?X ?I ?s1 ?f1 ?s2 ?f2 ?J ?_; (case X => k_in); (case I => k_inst); (case J => k_inst); (case u => k_units); (case ne => first | assumption | exact Ne.symm (by assumption)); (case hh => rfl); (case hn => with_unfolding_all rfl); (case s1 => k_is); (case f1 => k_is); (case s2 => k_is); (case f2 => k_is); k_whole)))
section
local macro_rules | `(tactic| walk_at "call ref") => `(tactic| (k_here; (with_reducible show wpAny _ _ (call (Value.ref 71) [Value.ref _, Value.ref _]) _ _ _); k_dflt (refine' c_nigtS ?zqhx ?zqhd ?zqhy ?zqhe ?zqbb _ _ _ _ _ _ _ _ _ _ _ _ _ _ _ _ _ ?zqB ?zqF ?zqX ?zqN ?zqT ?zqK ?zqD ?zqU ?_; k_extra "zq base"; k_extra "zq mem4"; (case zqbb => omega); k_extra "zq room"); intro h9 tk9 F9 N9; k_extra "zq end"))
section
local macro_rules | `(tactic| walk_at "compareOp Gt ref ref") => `(tactic| (k_here; (with_reducible show wpAny _ _ (compareOp CmpOp.Gt (Value.ref _) (Value.ref _)) _ _ _); k_dflt (refine' gt_ni2 ?u ?ne ?hh ?hn ?X ?I ?s1 ?f1 ?s2 ?f2 ?J ?_; (case X => k_in); (case I => k_inst); (case J => k_inst); (case u => k_units); (case ne => first | assumption | exact Ne.symm (by assumption)); (case hh => rfl); (case hn => with_unfolding_all rfl); (case s1 => k_is); (case f1 => k_is); (case s2 => k_is); (case f2 => k_is); k_whole)))
section
local macro_rules | `(tactic| walk_at "call ref") => `(tactic| (k_here; (with_reducible show wpAny _ _ (call (Value.ref 43) [Value.ref _, Value.str _ _]) _ _ _); k_dflt (refine' c_nieqT ?zqhx ?zqhd _ _ _ _ _ _ _ _ _ _ _ _ _ _ _ _ _ ?zqB ?zqF ?zqX ?zqN ?zqT ?zqK ?zqD ?zqU ?_; k_extra "zq base"; k_extra "zq mem2"; k_extra "zq room"); intro h9 tk9 F9 N9; k_extra "zq end"))
section
local macro_rules | `(tactic| walk_at "compareOp Eq ref str") => `(tactic| (k_here; (with_reducible show wpAny _ _ (compareOp CmpOp.Eq (Value.ref _) (Value.str _ _)) _ _ _); k_dflt (refine' eq_niT ?u ?X ?I ?s1 ?f1 ?sb ?_; (case X => k_in); (case I => k_inst); (case u => k_units);  (case s1 => k_is); (case f1 => k_is); (case sb => k_is); k_whole)))
section
local macro_rules | `(tactic| walk_at "call ref") => `(tactic| (k_here; (with_reducible show wpAny _ _ (call (Value.ref 50) [Value.ref _, Value.str _ _]) _ _ _); k_dflt (refine' c_nineT ?zqhx ?zqhd _ _ _ _ _ _ _ _ _ _ _ _ _ _ _ _ _ ?zqB ?zqF ?zqX ?zqN ?zqT ?zqK ?zqD ?zqU ?_; k_extra "zq base"; k_extra "zq mem2"; k_extra "zq room"); intro h9 tk9 F9 N9; k_extra "zq end"))
section
local macro_rules | `(tactic| walk_at "compareOp NotEq ref str") => `(tactic| (k_here; (with_reducible show wpAny _ _ (compareOp CmpOp.NotEq (Value.ref _) (Value.str _ _)) _ _ _); k_dflt (refine' ne_niT ?u ?X ?I ?s1 ?f1 ?sb ?_; (case X => k_in); (case I => k_inst); (case u => k_units);  (case s1 => k_is); (case f1 => k_is); (case sb => k_is); k_whole)))
section
local macro_rules | `(tactic| walk_at "call ref") => `(tactic| (k_here; (with_reducible show wpAny _ _ (call (Value.ref 57) [Value.ref _, Value.str _ _]) _ _ _); k_dflt (refine' c_niltT ?zqhx ?zqhd _ _ _ _ _ _ _ _ _ _ _ _ _ _ _ _ _ ?zqB ?zqF ?zqX ?zqN ?zqT ?zqK ?zqD ?zqU ?_; k_extra "zq base"; k_extra "zq mem2"; k_extra "zq room"); intro h9 tk9 F9 N9; k_extra "zq end"))
section
local macro_rules | `(tactic| walk_at "compareOp Lt ref str") => `(tactic| (k_here; (with_reducible show wpAny _ _ (compareOp CmpOp.Lt (Value.ref _) (Value.str _ _)) _ _ _); k_dflt (refine' lt_niT ?u ?hh ?hn ?X ?I ?s1 ?f1 ?sb ?_; (case X => k_in); (case I => k_inst); (case u => k_units); (case hh => rfl); (case hn => with_unfolding_all rfl);  (case s1 => k_is); (case f1 => k_is); (case sb => k_is); k_whole)))
section
local macro_rules | `(tactic| walk_at "call ref") => `(tactic| (k_here; (with_reducible show wpAny _ _ (call (Value.ref 71) [Value.ref _, Value.str _ _]) _ _ _); k_dflt (refine' c_nigtT ?zqhx ?zqhd _ _ _ _ _ _ _ _ _ _ _ _ _ _ _ _ _ ?zqB ?zqF ?zqX ?zqN ?zqT ?zqK ?zqD ?zqU ?_; k_extra "zq base"; k_extra "zq mem2"; k_extra "zq room"); intro h9 tk9 F9 N9; k_extra "zq end"))
section
local macro_rules | `(tactic| walk_at "compareOp Gt ref str") => `(tactic| (k_here; (with_reducible show wpAny _ _ (compareOp CmpOp.Gt (Value.ref _) (Value.str _ _)) _ _ _); k_dflt (refine' gt_niT ?u ?hh ?hn ?X ?I ?s1 ?f1 ?sb ?_; (case X => k_in); (case I => k_inst); (case u => k_units); (case hh => rfl); (case hn => with_unfolding_all rfl);  (case s1 => k_is); (case f1 => k_is); (case sb => k_is); k_whole)))
theorem c_noordS {w : World} {mean : ExcName → Option Value} {mg mb : Str → Option Value} {news : List (Addr × Obj)} {x dx : Addr} {v b : Int} {y dy : Addr} {v' b' : Int} {k3 t3 k4 t4 : Tok} {k1 t1 k2 t2 : Tok}
    (hx : (x, instObj 109 dx) ∈ news) (hdx : (dx, serD w.params v b k1 t1 k2 t2) ∈ news) (hy : (y, instObj 109 dy) ∈ news) (hdy : (dy, serD w.params v' b' k3 t3 k4 t4) ∈ news) (hbb : b ≠ b') (hxy : x ≠ y) :
    Cl0 850 w mean mg mb 139 [.ref x, .ref y] news (fun h₀ L m s Q =>
      ∀ h' tk', Fr h₀ L h' m → News h₀ L h' news → Q (.bool true) { s with heap := h', toks := tk' }) := by
  intro dp un gd cn cs a ccd A₀ base h₀ L m s Q E B F X N T XB TB hk hdp hun hret
  k_steps
  all_goals (refine' hret _ _ ?F ?N; (case F => assumption); (case N => first | assumption | exact cb_drop (by assumption) (subC (fun _ h => h)) | exact cb_drop (by assumption) (subC (subC (fun _ h => h)))))

theorem c_noordT {w : World} {mean : ExcName → Option Value} {mg mb : Str → Option Value} {news : List (Addr × Obj)} {x dx : Addr} {v b : Int} {tx : Str} {tn : Tok} {k1 t1 k2 t2 : Tok}
    (hx : (x, instObj 109 dx) ∈ news) (hdx : (dx, serD w.params v b k1 t1 k2 t2) ∈ news) :
    Cl0 850 w mean mg mb 139 [.ref x, .str tx tn] news (fun h₀ L m s Q =>
      ∀ h' tk', Fr h₀ L h' m → News h₀ L h' news → Q (.bool true) { s with heap := h', toks := tk' }) := by
  intro dp un gd cn cs a ccd A₀ base h₀ L m s Q E B F X N T XB TB hk hdp hun hret
  k_steps
  all_goals (refine' hret _ _ ?F ?N; (case F => assumption); (case N => first | assumption | exact cb_drop (by assumption) (subC (fun _ h => h)) | exact cb_drop (by assumption) (subC (subC (fun _ h => h)))))

end
end
end
end
end
end
end
end
end
end
end
end
end
end
end
end
end
end
end
end
end
end
end
end
section
local macro_rules | `(tactic| walk_at "ite") => `(tactic| first | (refine ite_isFalse (by simp only [bne_self_eq_false]; done) ?_) | (refine ite_isFalse (bne_sum_pos (by assumption)) ?_) | (refine ite_isFalse (bne_sum_neg (by assumption)) ?_) | (refine ite_isFalse (bne_in_neg (by assumption)) ?_) | (refine ite_isFalse (bne_in_pos (by assumption)) ?_) | (refine ite_isFalse (bne_inS_pos (by assumption)) ?_) | (refine ite_isFalse (bne_inS_neg (by assumption)) ?_) | (refine ite_isTrue (gt_step (by omega) (by assumption) (by assumption) (by omega) (by omega)) ?_) | (refine ite_isTrue (lt_step (by omega) (by assumption) (by assumption) (by omega) (by omega)) ?_))
section
local macro_rules | `(tactic| walk_at "binaryOp FloorDiv int int") => `(tactic| (k_here; (with_reducible refine my_half ?kb1 ?kb2 ?_); (case kb1 => omega); (case kb2 => omega)))
section
local macro_rules | `(tactic| walk_at "call ref") => `(tactic| (k_here; (with_reducible show wpAny _ _ (call (Value.ref 109) [Value.int _ _, Value.int _ _]) _ _ _); k_dflt (refine' c_new ?zqb0 ?zqb1 _ _ _ _ _ _ _ _ _ _ _ _ _ _ _ _ _ ?zqB ?zqF ?zqX ?zqN ?zqT ?zqK ?zqD ?zqU ?_; k_extra "zq base"; k_extra "zq bits"; k_extra "zq room"); intro x9 d9 ka9 ta9 kb9 tb9 h9 tk9 F9 N9 l1 l2; (try k_lt l1); (try k_lt2 l2); k_extra "zq end"))
section
local macro_rules | `(tactic| walk_at "call ref") => `(tactic| (k_here; (with_reducible show wpAny _ _ (call (Value.ref 120) [Value.ref _, Value.ref _]) _ _ _); k_dflt (refine' c_orderS ?zqhx ?zqhd ?zqhy ?zqhe ?zqb0 ?zqb1 _ _ _ _ _ _ _ _ _ _ _ _ _ _ _ _ _ ?zqB ?zqF ?zqX ?zqN ?zqT ?zqK ?zqD ?zqU ?_; k_extra "zq base"; k_extra "zq mem4"; k_extra "zq bits"; k_extra "zq room"); intro D9 h9 tk9 F9 N9 l1; (try k_lt l1); k_extra "zq end"))
section
local macro_rules | `(tactic| walk_at "call ref") => `(tactic| (k_here; (with_reducible show wpAny _ _ (call (Value.ref 120) [Value.ref _, Value.int _ _]) _ _ _); k_dflt (refine' c_orderI ?zqhx ?zqhd ?zqb0 ?zqb1 _ _ _ _ _ _ _ _ _ _ _ _ _ _ _ _ _ ?zqB ?zqF ?zqX ?zqN ?zqT ?zqK ?zqD ?zqU ?_; k_extra "zq base"; k_extra "zq mem2"; k_extra "zq bits"; k_extra "zq room"); intro D9 h9 tk9 F9 N9 l1; (try k_lt l1); k_extra "zq end"))
section
local macro_rules | `(tactic| walk_at "call ref") => `(tactic| (k_here; (with_reducible show wpAny _ _ (call (Value.ref 125) [Value.int _ _, Value.int _ _, Value.int _ _]) _ _ _); k_dflt (refine' c_due ?zqha ?zqhA ?zqhb ?zqhB ?zqb0 ?zqb1 _ _ _ _ _ _ _ _ _ _ _ _ _ _ _ _ _ ?zqB ?zqF ?zqX ?zqN ?zqT ?zqK ?zqD ?zqU ?_; k_extra "zq base"; (case zqha => first | assumption | exact fm_nn _ _ | exact fm_lt _ _); (case zqhA => first | assumption | exact fm_nn _ _ | exact fm_lt _ _); (case zqhb => first | assumption | exact fm_nn _ _ | exact fm_lt _ _); (case zqhB => first | assumption | exact fm_nn _ _ | exact fm_lt _ _); k_extra "zq bits"; k_extra "zq room"); intro D9 h9 tk9 F9 N9 l1; (try k_lt l1); k_extra "zq end"))
section
local macro_rules | `(tactic| walk_at "call ref") => `(tactic| (k_here; (with_reducible show wpAny _ _ (call (Value.ref 139) [Value.ref _, Value.ref _]) _ _ _); k_dflt (refine' c_noordS ?zqhx ?zqhd ?zqhy ?zqhe ?zqbb ?zqxy _ _ _ _ _ _ _ _ _ _ _ _ _ _ _ ?zqB ?zqF ?zqX ?zqN ?zqT ?zqXB ?zqTB ?zqK ?zqD ?zqU ?_; k_extra "zq base0"; k_extra "zq mem4"; (case zqbb => omega); (case zqxy => first | assumption | exact Ne.symm (by assumption) | k_ne); k_extra "zq room"); intro h9 tk9 F9 N9; k_extra "zq end"))
section
local macro_rules | `(tactic| walk_at "call ref") => `(tactic| (k_here; (with_reducible show wpAny _ _ (call (Value.ref 139) [Value.ref _, Value.str _ _]) _ _ _); k_dflt (refine' c_noordT ?zqhx ?zqhd _ _ _ _ _ _ _ _ _ _ _ _ _ _ _ ?zqB ?zqF ?zqX ?zqN ?zqT ?zqXB ?zqTB ?zqK ?zqD ?zqU ?_; k_extra "zq base0"; k_extra "zq mem2"; k_extra "zq room"); intro h9 tk9 F9 N9; k_extra "zq end"))
section
local macro_rules | `(tactic| walk_at "call ref") => `(tactic| (k_here; (with_reducible show wpAny _ _ (call (Value.ref 146) [Value.ref _, Value.int _ _, Value.bool _]) _ _ _); k_dflt (refine' c_sumI ?zqhx ?zqhd ?zqb0 ?zqb1 _ _ _ _ _ _ _ _ _ _ _ _ _ _ _ ?zqB ?zqF ?zqX ?zqN ?zqT ?zqXB ?zqTB ?zqK ?zqD ?zqU ?_; k_extra "zq base0"; k_extra "zq mem2"; k_extra "zq bits"; k_extra "zq room"); intro r9 h9 tk9 F9 N9; k_extra "zq end"))
section
local macro_rules | `(tactic| walk_at "call ref") => `(tactic| (k_here; (with_reducible show wpAny _ _ (call (Value.ref 146) [Value.ref _, Value.ref _, Value.bool _]) _ _ _); k_dflt (refine' c_sumS ?zqhx ?zqhd ?zqhy ?zqhe ?zqb0 ?zqb1 _ _ _ _ _ _ _ _ _ _ _ _ _ _ _ ?zqB ?zqF ?zqX ?zqN ?zqT ?zqXB ?zqTB ?zqK ?zqD ?zqU ?_; k_extra "zq base0"; k_extra "zq mem4"; k_extra "zq bits"; k_extra "zq room"); intro r9 h9 tk9 F9 N9; k_extra "zq end"))
section
local macro_rules | `(tactic| walk_at "call ref") => `(tactic| (k_here; (with_reducible show wpAny _ _ (call (Value.ref 146) [Value.ref _, Value.str _ _, Value.bool _]) _ _ _); k_dflt (refine' c_sumT ?zqhx ?zqhd ?zqb0 ?zqb1 _ _ _ _ _ _ _ _ _ _ _ _ _ _ _ ?zqB ?zqF ?zqX ?zqN ?zqT ?zqXB ?zqTB ?zqK ?zqD ?zqU ?_; k_extra "zq base0"; k_extra "zq mem2"; k_extra "zq bits"; k_extra "zq room"); intro r9 h9 tk9 F9 N9; k_extra "zq end"))
section
local macro_rules | `(tactic| walk_at "call ref") => `(tactic| (k_here; (with_reducible show wpAny _ _ (call (Value.ref 153) [Value.ref _, Value.int _ _, Value.bool _]) _ _ _); k_dflt (refine' c_inIw ?zqhx ?zqS ?zqb0 ?zqb1 _ _ _ _ _ _ _ _ _ _ _ _ _ _ _ ?zqB ?zqF ?zqX ?zqN ?zqT ?zqXB ?zqTB ?zqK ?zqD ?zqU ?_; k_extra "zq base0"; (case zqhx => k_mem); (case zqS => k_updF); k_extra "zq bits"; k_extra "zq room"); intro r9 ta9 h9 tk9 F9 N9; k_extra "zq end"))
section
local macro_rules | `(tactic| walk_at "call ref") => `(tactic| (k_here; (with_reducible show wpAny _ _ (call (Value.ref 153) [Value.ref _, Value.ref _, Value.bool _]) _ _ _); k_dflt (refine' c_inSw ?zqhx ?zqS ?zqhy ?zqhe ?zqxy ?zqb0 ?zqb1 _ _ _ _ _ _ _ _ _ _ _ _ _ _ _ ?zqB ?zqF ?zqX ?zqN ?zqT ?zqXB ?zqTB ?zqK ?zqD ?zqU ?_; k_extra "zq base0"; (case zqhx => k_mem); (case zqS => k_updF); (case zqhy => k_mem); (case zqhe => k_mem); (case zqxy => k_ne); k_extra "zq bits"; k_extra "zq room"); intro r9 ta9 h9 tk9 F9 N9; k_extra "zq end"))
section
local macro_rules | `(tactic| walk_at "call ref") => `(tactic| (k_here; (with_reducible show wpAny _ _ (call (Value.ref 153) [Value.ref _, Value.str _ _, Value.bool _]) _ _ _); k_dflt (refine' c_inTw ?zqhx ?zqS ?zqb0 ?zqb1 _ _ _ _ _ _ _ _ _ _ _ _ _ _ _ ?zqB ?zqF ?zqX ?zqN ?zqT ?zqXB ?zqTB ?zqK ?zqD ?zqU ?_; k_extra "zq base0"; (case zqhx => k_mem); (case zqS => k_updF); k_extra "zq bits"; k_extra "zq room"); intro r9 ta9 h9 tk9 F9 N9; k_extra "zq end"))
section
local macro_rules | `(tactic| walk_at "call ref") => `(tactic| (k_here; (with_reducible show wpAny _ _ (call (Value.ref 85) [Value.ref _, Value.int _ _]) _ _ _); k_dflt (refine' c_addI ?zqhx ?zqhd ?zqb0 ?zqb1 ?zqn0 ?zqn1 _ _ _ _ _ _ _ _ _ _ _ _ _ _ _ _ _ ?zqB ?zqF ?zqX ?zqN ?zqT ?zqK ?zqD ?zqU ?_; k_extra "zq base"; k_extra "zq mem2"; k_extra "zq bits"; (case zqn0 => omega); (case zqn1 => omega); k_extra "zq room"); intro x9 d9 ka9 ta9 kb9 tb9 h9 tk9 F9 N9 l1 l2; (try k_lt l1); (try k_lt2 l2); k_extra "zq end"))
section
local macro_rules | `(tactic| walk_at "call ref") => `(tactic| (k_here; (with_reducible show wpAny _ _ (call (Value.ref 71) [Value.ref _, Value.ref _]) _ _ _); k_dflt (refine' c_gtS ?zqhx ?zqhd ?zqhy ?zqhe ?zqb0 ?zqb1 _ _ _ _ _ _ _ _ _ _ _ _ _ _ _ _ _ ?zqB ?zqF ?zqX ?zqN ?zqT ?zqK ?zqD ?zqU ?_; k_extra "zq base"; k_extra "zq mem4"; k_extra "zq bits"; k_extra "zq room"); intro h9 tk9 F9 N9; k_extra "zq end"))
section
local macro_rules | `(tactic| walk_at "call ref") => `(tactic| (k_here; (with_reducible show wpAny _ _ (call (Value.ref 57) [Value.ref _, Value.ref _]) _ _ _); k_dflt (refine' c_ltS ?zqhx ?zqhd ?zqhy ?zqhe ?zqb0 ?zqb1 _ _ _ _ _ _ _ _ _ _ _ _ _ _ _ _ _ ?zqB ?zqF ?zqX ?zqN ?zqT ?zqK ?zqD ?zqU ?_; k_extra "zq base"; k_extra "zq mem4"; k_extra "zq bits"; k_extra "zq room"); intro h9 tk9 F9 N9; k_extra "zq end"))
section
local macro_rules | `(tactic| walk_at "subscriptTail Name Slice ref ref") => `(tactic| (k_here; k_dflt (refine' my_slice ?slF ?slN ?sll ?sli ?slz ?_ ?sls ?slt; (case slF => k_asm); (case slN => k_asm); (case sll => exact Fr.lst (by k_asm) (by k_asm)); (case sli => assumption); (case slz => omega); (case sls => with_unfolding_all rfl); (case slt => kmk_pure)); intro D' ws' ms' h' F' N' l1 hI' hL'; (try k_lt l1); (try k_sweep)))
section
local macro_rules | `(tactic| walk_at "exec For Tuple Call cons nil") => `(tactic| (k_here; (with_reducible rename Fr _ _ _ _ => lF'); k_dflt (refine For_turns lF' ?_)))
section
local macro_rules | `(tactic| walk_at "call type:enumerate") => `(tactic| (k_here; k_dflt (refine' loop_start ?hh ?F ?N ?l ?x ?d ?dx ?xl ?m1 ?m2 ?m3 ?m4 ?u ?v0 ?v1 ?turn ?done; (case hh => rfl); (case F => k_asm); (case m1 => rfl); (case m2 => rfl); (case m3 => rfl); (case m4 => rfl); (case N => k_asm); (case l => k_mem); (case x => k_mem); (case d => k_mem); (case dx => omega); (case xl => omega); (case u => exact ints_all (by assumption)); (case v0 => exact fm_nn _ _); (case v1 => exact fm_lt _ _))))
section
local macro_rules | `(tactic| walk_at "compareOp NotEq ref ref") => `(tactic| (k_here; k_dflt (refine' ne_ord ?N ?a ?b ?u ?_; (case N => k_asm); (case a => k_mem); (case b => k_mem); (case u => k_units); k_whole)))
theorem subK {α : Type} {a : α} {l l' : List α} (h : ∀ p ∈ l, p ∈ l') : ∀ p ∈ a :: l, p ∈ a :: l' := fun p hp => by
  rcases List.mem_cons.mp hp with rfl | hp
  · exact .head _
  · exact .tail _ (h p hp)
theorem gt_dead {v n b : Int} (hb : 1 ≤ b) (h0 : 0 ≤ v) (h1 : v < P2 b) (hn : 0 < n) (ha : -(P2 (b - 1)) < n ∧ n < P2 (b - 1)) (hf : gtS ((v + n).fmod (P2 b)) v b = false) : False := by
  rw [gt_step hb h0 h1 hn ha.2] at hf
  cases hf
theorem lt_dead {v n b : Int} (hb : 1 ≤ b) (h0 : 0 ≤ v) (h1 : v < P2 b) (hn : 0 < n) (ha : -(P2 (b - 1)) < n ∧ n < P2 (b - 1)) (hf : ltS v ((v + n).fmod (P2 b)) b = false) : False := by
  rw [lt_step hb h0 h1 hn ha.2] at hf
  cases hf
theorem fm_id {v b : Int} (h0 : 0 ≤ v) (h1 : v < P2 b) : v.fmod (P2 b) = v := by rw [fm_emod]; exact Int.emod_eq_of_lt h0 h1
theorem cut_turned_at {M : Model} {A : Around} {E : Value → Shared → Prop} {s : Shared} {Q : Flow → Shared → Prop} {h₀ : Heap} {L : Addr} {m : Str → Option Value} {news : List (Addr × Obj)} {st : Stmt} {rest : List Stmt} {env : Env} (P : Params) {d x : Addr} (_dx : @LT.lt Nat _ d x) (v b : Int) {v₀ : Int} {k1 t1 k2 t2 : Tok} {r : List (Addr × Obj)} (_F : Fr h₀ L s.heap m) (_N : News h₀ L s.heap news) (_S : Spl d (serD P v₀ b k1 t1 k2 t2) news r)
    (h1 : wpAny M A (exec st env) (CutD h₀ L m P d v b k1 k2 t2 r s) E s)
    (h2 : ∀ t h tk, Fr h₀ L h m → News h₀ L h ((d, serD P v b k1 t k2 t2) :: r) → wpAny M A (execs rest env) Q E { s with heap := h, toks := tk }) :
    wpAny M A (execs (st :: rest) env) Q E s := cut_turned P v _F _N _S h1 h2
theorem dec_tt {p q : Prop} [Decidable p] [Decidable q] (h : p) : decide q = decide (p ∧ q) := by simp [h]
theorem dec_ff {p q : Prop} [Decidable p] [Decidable q] (h : ¬ p) : decide p = decide (p ∧ q) := by simp [h]
theorem law_t : PySem.Challenge.rw_jf0011_01.Holds := hd (by
  w_strict (
    k_go0
    dsimp only
    refine cut_name (Str.ofString "bits") (fun v => 1 ≤ v ∧ v ≤ 40) (by assumption) (by assumption) ?_ ?_
    · k_steps
      all_goals (refine' cutI ?F ?x ?s ?N ?P; (case F => assumption); (case x => with_unfolding_all rfl); (case s => first | exact fun y hy => if_neg hy | exact fun _ _ => rfl); (case N => exact News.nil); (case P => first | omega | (simp only [Int.fmod_eq_emod_of_nonneg _ (by decide : (0:Int) ≤ 40)]; omega)))
    intro bits t_bits h_bits tk_bits p_bits F_bits N_bits
    try dsimp only
    refine cut_name (Str.ofString "whole") (fun v => v = P2 bits) (by assumption) (by assumption) ?_ ?_
    · k_steps
      all_goals (refine' cutI ?F ?x ?s ?N ?P; (case F => assumption); (case x => with_unfolding_all rfl); (case s => first | exact fun y hy => if_neg hy | exact fun _ _ => rfl); (case N => exact News.nil); (case P => rfl))
    intro whole t_whole h_whole tk_whole p_whole F_whole N_whole
    try dsimp only
    subst p_whole
    refine cut_name (Str.ofString "first") (fun v => True) (by assumption) (by assumption) ?_ ?_
    · k_steps
      all_goals (refine' cutI ?F ?x ?s ?N ?P; (case F => assumption); (case x => with_unfolding_all rfl); (case s => first | exact fun y hy => if_neg hy | exact fun _ _ => rfl); (case N => exact News.nil); (case P => trivial))
    intro first t_first h_first tk_first p_first F_first N_first
    try dsimp only
    refine cut_name (Str.ofString "second") (fun v => True) (by assumption) (by assumption) ?_ ?_
    · k_steps
      all_goals (refine' cutI ?F ?x ?s ?N ?P; (case F => assumption); (case x => with_unfolding_all rfl); (case s => first | exact fun y hy => if_neg hy | exact fun _ _ => rfl); (case N => exact News.nil); (case P => trivial))
    intro sec0 t_sec0 h_sec0 tk_sec0 p_sec0 F_sec0 N_sec0
    try dsimp only
    refine cut_name (Str.ofString "second") (fun v => True) (by assumption) (by assumption) ?_ ?_
    · k_steps
      all_goals (refine' cutI ?F ?x ?s ?N ?P; (case F => assumption); (case x => with_unfolding_all rfl); (case s => first | exact fun y hy => if_neg hy | exact fun _ _ => rfl); (case N => exact News.nil); (case P => trivial))
    intro second t_second h_second tk_second p_second F_second N_second
    try dsimp only
    k_steps
    case done =>
      unfold Stop
      intro m9 news9 h9 tk9 F9 N9
      dsimp only
      k_steps
      k_end
      wrow_close
    unfold Stop
    rename World => wW
    intro i n tn v ta tv u T ti h tk I oe oi g0 g1 hT hoe hoi hdx hxl hlI F N
    have hbits := p_bits.1
    have hbits1 := p_bits.2
    have hPp := P2_pos (bits - 1)
    walk1
    try dsimp only
    walk1
    try dsimp only
    walk1
    try dsimp only
    walk1
    try dsimp only
    walk1
    try dsimp only
    walk1
    try dsimp only
    walk1
    try dsimp only
    walk1
    try dsimp only

    refine cut_name (Str.ofString "kind") (fun w => 0 ≤ w ∧ w ≤ 4) (by assumption) (by assumption) ?_ ?_
    · k_steps
      all_goals first | (exfalso; omega) | (refine' cutIs ?cF ?cx ?cs ?cN ?cu ?cP; (case cF => assumption); (case cx => with_unfolding_all rfl); (case cs => first | exact fun y hy => if_neg hy | exact fun _ _ => rfl); (case cN => assumption); (case cu => repeat (first | (with_reducible exact fun _ h => h) | (with_reducible refine subK ?_) | refine subC ?_)); (case cP => first | omega | (simp only [Int.fmod_eq_emod_of_nonneg _ (by decide : (0:Int) ≤ 5)]; omega)))
    (try clear F); (try clear N)
    intro kind t_kind h_kind tk_kind p_kind F N
    try dsimp only
    refine cut_name (Str.ofString "step") (fun w => True) (by assumption) (by assumption) ?_ ?_
    · k_steps
      all_goals first | (exfalso; omega) | (refine' cutIs ?cF ?cx ?cs ?cN ?cu ?cP; (case cF => assumption); (case cx => with_unfolding_all rfl); (case cs => first | exact fun y hy => if_neg hy | exact fun _ _ => rfl); (case cN => assumption); (case cu => repeat (first | (with_reducible exact fun _ h => h) | (with_reducible refine subK ?_) | refine subC ?_)); (case cP => trivial))
    (try clear F); (try clear N)
    intro step t_step h_step tk_step p_step F N
    try dsimp only
    refine cut_bool (Str.ofString "minus") (fun w => True) (by assumption) (by assumption) ?_ ?_
    · k_steps
      all_goals first | (exfalso; omega) | (refine' cutBI ?cF ?cx ?cs ?cN ?cu ?cP; (case cF => assumption); (case cx => with_unfolding_all rfl); (case cs => first | exact fun y hy => if_neg hy | exact fun _ _ => rfl); (case cN => assumption); (case cu => repeat (first | (with_reducible exact fun _ h => h) | (with_reducible refine subK ?_) | refine subC ?_)); (case cP => trivial))
    (try clear F); (try clear N)
    intro minus h_minus tk_minus p_minus F N
    try dsimp only
    refine cut_bool (Str.ofString "allowed") (fun w => w = decide (-(P2 (bits - 1)) < step ∧ step < P2 (bits - 1))) (by assumption) (by assumption) ?_ ?_
    · k_steps
      all_goals first | (exfalso; omega) | (refine' cutBI ?cF ?cx ?cs ?cN ?cu ?cP; (case cF => assumption); (case cx => with_unfolding_all rfl); (case cs => first | exact fun y hy => if_neg hy | exact fun _ _ => rfl); (case cN => assumption); (case cu => repeat (first | (with_reducible exact fun _ h => h) | (with_reducible refine subK ?_) | refine subC ?_)); (case cP => first | exact dec_tt (by assumption) | exact dec_ff (by assumption)))
    (try clear F); (try clear N)
    intro allowed h_allowed tk_allowed p_allowed F N
    subst p_allowed
    try dsimp only
    refine cut_name (Str.ofString "after") (fun w => w = addS v step bits minus) (by assumption) (by assumption) ?_ ?_
    · k_steps
      all_goals first | (exfalso; omega) | (refine' cutIs ?cF ?cx ?cs ?cN ?cu ?cP; (case cF => assumption); (case cx => with_unfolding_all rfl); (case cs => first | exact fun y hy => if_neg hy | exact fun _ _ => rfl); (case cN => assumption); (case cu => repeat (first | (with_reducible exact fun _ h => h) | (with_reducible refine subK ?_) | refine subC ?_)); (case cP => first | exact addS_t (by assumption) | exact addS_f (by assumption)))
    (try clear F); (try clear N)
    intro after t_after h_after tk_after p_after F N
    subst p_after
    try dsimp only
    refine cut_name (Str.ofString "told") (fun w => w = sumS v step bits minus) (by assumption) (by assumption) ?_ ?_
    · k_steps
      all_goals first | (exfalso; omega) | (refine' cutIs ?cF ?cx ?cs ?cN ?cu ?cP; (case cF => assumption); (case cx => with_unfolding_all rfl); (case cs => first | exact fun y hy => if_neg hy | exact fun _ _ => rfl); (case cN => assumption); (case cu => repeat (first | (with_reducible exact fun _ h => h) | (with_reducible refine subK ?_) | refine subC ?_)); (case cP => rfl))
    (try clear F); (try clear N)
    intro told t_told h_told tk_told p_told F N
    subst p_told
    try dsimp only
    refine cut_skip (by assumption) (by assumption) ?_ ?_
    · k_steps
      all_goals first | (exfalso; omega) | (refine' cutSI ?cF ?cN ?cu; (case cF => assumption); (case cN => assumption); (case cu => repeat (first | (with_reducible exact fun _ h => h) | (with_reducible refine subK ?_) | refine subC ?_)))
    (try clear F); (try clear N)
    intro h_told1 tk_told1 F N
    try dsimp only
    refine cut_skip (by assumption) (by assumption) ?_ ?_
    · k_steps
      all_goals first | (exact (gt_dead hbits g0 g1 (by assumption) (by assumption) (by assumption)).elim) | (exact (lt_dead hbits g0 g1 (by assumption) (by assumption) (by assumption)).elim) | (refine' cutSI ?cF ?cN ?cu; (case cF => assumption); (case cN => assumption); (case cu => repeat (first | (with_reducible exact fun _ h => h) | (with_reducible refine subK ?_) | refine subC ?_)))
    (try clear F); (try clear N)
    intro h_more tk_more F N
    try dsimp only
    refine cut_name (Str.ofString "by_serial") (fun w => w = -1) (by assumption) (by assumption) ?_ ?_
    · k_steps
      all_goals first | (exfalso; omega) | (refine' cutIs ?cF ?cx ?cs ?cN ?cu ?cP; (case cF => assumption); (case cx => with_unfolding_all rfl); (case cs => first | exact fun y hy => if_neg hy | exact fun _ _ => rfl); (case cN => assumption); (case cu => repeat (first | (with_reducible exact fun _ h => h) | (with_reducible refine subK ?_) | refine subC ?_)); (case cP => rfl))
    (try clear F); (try clear N)
    intro bys0 t_bys0 h_bys0 tk_bys0 p_bys0 F N
    subst p_bys0
    try dsimp only
    refine cut_name (Str.ofString "by_serial") (fun w => w = sumS v (step.fmod (P2 bits)) bits minus) (by assumption) (by assumption) ?_ ?_
    · k_steps
      all_goals first | (exfalso; omega) | (refine' cutIs ?cF ?cx ?cs ?cN ?cu ?cP; (case cF => assumption); (case cx => with_unfolding_all rfl); (case cs => first | exact fun y hy => if_neg hy | exact fun _ _ => rfl); (case cN => assumption); (case cu => repeat (first | (with_reducible exact fun _ h => h) | (with_reducible refine subK ?_) | refine subC ?_)); (case cP => first | exact by_t (by assumption) (by assumption) | exact by_f (by assumption) (by assumption) | exact by_n (by assumption) | exact by_n (by omega)))
    (try clear F); (try clear N)
    intro bys t_bys h_bys tk_bys p_bys F N
    subst p_bys
    try dsimp only
    refine cut_made (Str.ofString "other") wW.params ((v).fmod (P2 bits)) bits (by assumption) (by assumption) ?_ ?_
    · k_steps
      all_goals (refine' cutNI ?cF ?cx ?cs ?cN ?c1 ?c2; (case cF => assumption); (case cx => with_unfolding_all rfl); (case cs => first | exact fun y hy => if_neg hy | exact fun _ _ => rfl); (case cN => assumption); (case c1 => assumption); (case c2 => assumption))
    (try clear F); (try clear N)
    intro y_other d_other ka_other ta_other kb_other tb_other h_other tk_other F N la_other lb_other
    rw [fm_id g0 g1] at N
    k_lt la_other
    try dsimp only
    refine' cut_turned_at wW.params lb_other (inS v (step.fmod (P2 bits)) bits minus) bits ?cF ?cN ?cS ?_ ?_; (case cF => assumption); (case cN => assumption); (case cS => k_updF)
    · k_steps
      all_goals first | (exfalso; omega) | (refine' cutDI ?cF ?cN ?cq ?cu; (case cF => assumption); (case cN => assumption); (case cq => k_mem); (case cu => repeat (first | (with_reducible exact fun _ h => h) | (with_reducible refine subK ?_) | refine subC ?_)))
    (try clear F); (try clear N)
    intro t_oin h_oin tk_oin F N
    try dsimp only
    refine cut_skip (by assumption) (by assumption) ?_ ?_
    · k_steps
      all_goals first | (exfalso; omega) | (refine' cutSI ?cF ?cN ?cu; (case cF => assumption); (case cN => assumption); (case cu => repeat (first | (with_reducible exact fun _ h => h) | (with_reducible refine subK ?_) | refine subC ?_)))
    (try clear F); (try clear N)
    intro h_oval tk_oval F N
    try dsimp only
    refine cut_made (Str.ofString "other") wW.params ((v).fmod (P2 bits)) bits (by assumption) (by assumption) ?_ ?_
    · k_steps
      all_goals (refine' cutNI ?cF ?cx ?cs ?cN ?c1 ?c2; (case cF => assumption); (case cx => with_unfolding_all rfl); (case cs => first | exact fun y hy => if_neg hy | exact fun _ _ => rfl); (case cN => assumption); (case c1 => assumption); (case c2 => assumption))
    (try clear F); (try clear N)
    intro y_other2 d_other2 ka_other2 ta_other2 kb_other2 tb_other2 h_other2 tk_other2 F N la_other2 lb_other2
    rw [fm_id g0 g1] at N
    k_lt la_other2
    try dsimp only
    refine' cut_turned_at wW.params lb_other2 (v) bits ?cF ?cN ?cS ?_ ?_; (case cF => assumption); (case cN => assumption); (case cS => k_updF)
    · k_steps
      all_goals first | (exfalso; omega) | (refine' cutDI ?cF ?cN ?cq ?cu; (case cF => assumption); (case cN => assumption); (case cq => k_mem); (case cu => repeat (first | (with_reducible exact fun _ h => h) | (with_reducible refine subK ?_) | refine subC ?_)))
    (try clear F); (try clear N)
    intro t_text h_text tk_text F N
    try dsimp only
    refine' cut_turned_at wW.params hdx (inS v step bits minus) bits ?cF ?cN ?cS ?_ ?_; (case cF => assumption); (case cN => assumption); (case cS => k_updF)
    · k_steps
      all_goals first | (exfalso; omega) | (refine' cutDI ?cF ?cN ?cq ?cu; (case cF => assumption); (case cN => assumption); (case cq => k_mem); (case cu => repeat (first | (with_reducible exact fun _ h => h) | (with_reducible refine subK ?_) | refine subC ?_)))
    (try clear F); (try clear N)
    intro t_onein h_onein tk_onein F N
    try dsimp only
    refine cut_name (Str.ofString "value") (fun w => w = inS v step bits minus) (by assumption) (by assumption) ?_ ?_
    · k_steps
      all_goals first | (exfalso; omega) | (refine' cutIs ?cF ?cx ?cs ?cN ?cu ?cP; (case cF => assumption); (case cx => with_unfolding_all rfl); (case cs => first | exact fun y hy => if_neg hy | exact fun _ _ => rfl); (case cN => assumption); (case cu => repeat (first | (with_reducible exact fun _ h => h) | (with_reducible refine subK ?_) | refine subC ?_)); (case cP => rfl))
    (try clear F); (try clear N)
    intro val t_val h_val tk_val p_val F N
    subst p_val
    try dsimp only
    refine wpAny_execs_nil ?_
    dsimp only [UnrPostW]
    refine' turn_end (ta := t_onein) hoe hoi hdx hxl hlI F N ?q1 ?q2 ?q3 ?q4 ?q5 rfl rfl rfl rfl (inS_nn g0) (inS_lt g1)
    all_goals k_mem))

end
end
end
end
end
end
end
end
end
end
end
end
end
end
end
end
end
end
end
end
end
end
end
end
end
end
end
end
end
end
end
end
end
end
end Mine
theorem PySem.Challenge.cw_jf0011_01_holds : PySem.Challenge.rw_jf0011_01.Holds := by
  exact Mine.law_t
