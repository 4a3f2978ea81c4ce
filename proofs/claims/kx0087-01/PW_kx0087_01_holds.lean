import PyProof.Rows.All
import Wide.All
import OpenK.AllK
import Wide.FinOn
import Lean
import PySem.Challenge.RW_kx0087_01
open PySem PySem.W PyProof.Rows
set_option Elab.async false
set_option rowWalk.seconds 0
namespace Mine
def nthSt2 : Nat → List Stmt → Stmt
  | _, [] => .Pass ⟨0, 0, 0, 0⟩
  | 0, s :: _ => s
  | n + 1, _ :: r => nthSt2 n r
noncomputable def hd.view_39 : Program := { PySem.Challenge.pw_kx0087_01 with main := { PySem.Challenge.pw_kx0087_01.main with body := [nthSt2 1 PySem.Challenge.pw_kx0087_01.main.body, nthSt2 2 PySem.Challenge.pw_kx0087_01.main.body, nthSt2 4 PySem.Challenge.pw_kx0087_01.main.body, nthSt2 5 PySem.Challenge.pw_kx0087_01.main.body, nthSt2 6 PySem.Challenge.pw_kx0087_01.main.body, nthSt2 7 PySem.Challenge.pw_kx0087_01.main.body, nthSt2 8 PySem.Challenge.pw_kx0087_01.main.body, nthSt2 9 PySem.Challenge.pw_kx0087_01.main.body] } }
local macro_rules | `(tactic| o_head $H) => `(tactic| (refine holds_open (q := Mine.hd.view_39) (loose := [Str.ofString "Rectangle"]) (Xt := fun s => xlAt Mine.hd.view_39 [] s && recOk (RowW.records (OpenRow.toRowW (OpenLaw.row PySem.Challenge.rw_kx0087_01))) s) (XP := XL Mine.hd.view_39 []) (Yf := Hook.obs $H) (Ya := Hook.val $H) (YP := Hook.says $H) (N := 3610) ?hl (Hook.of $H) (Hook.keeps $H) (fun s e => xl_of s (Bool.and_eq_true_iff.mp e).1) XL.keeps (by rfl) (by rfl) (by rfl) (fun s e => recFacts_of (Bool.and_eq_true_iff.mp e).2) (by rfl) (by first | assumption | decide +kernel) (by decide +kernel) ⟨rfl, rfl, rfl, rfl, rfl, by decide +kernel⟩ ?hw ?hc; (case hl => exact (fun w => by kernel_rfl))))
set_option maxRecDepth 100000 in
set_option maxHeartbeats 8000000 in
open_top hd for PySem.Challenge.rw_kx0087_01
local macro_rules | `(tactic| k_mem) => `(tactic| first | with_reducible assumption | assumption)
local macro_rules | `(tactic| k_all) => `(tactic| first | with_reducible assumption | assumption)
local macro_rules | `(tactic| k_room) => `(tactic| ((try simp only [depth_under_make, depth_under_kw, depth_in1, depth_deeper, depth_caller]); (try dsimp only [recursionLimit] at *); omega))
local macro_rules | `(tactic| walk_at "call builtin:max") => `(tactic| ((with_reducible show wpAny _ _ (call (Value.builtin _) [Value.int _ _, Value.int _ _]) _ _ _); (with_reducible rename News _ _ _ _ => N'); (with_unfolding_all apply max_two_N); (case hh => assumption); (case N => exact N'); (case F => assumption); clear N'; intro _ _ _ _))
local macro_rules | `(tactic| walk_at "call builtin:min") => `(tactic| ((with_reducible show wpAny _ _ (call (Value.builtin _) [Value.int _ _, Value.int _ _]) _ _ _); (with_reducible rename News _ _ _ _ => N'); (with_unfolding_all apply min_two_N); (case hh => assumption); (case N => exact N'); (case F => assumption); clear N'; intro _ _ _ _))
local macro_rules | `(tactic| k_enter) => `(tactic| (refine' code_defC ?k1 ?k2 ?k3 ?k4 ?k5 ?kA ?kF ?kK ?k6 ?k7 ?k8 ?k9 ?kB ?kD ?_ ?c2 ?c3 ?c4; (case kA => first | assumption | exact congrArg (Option.map (_ :: ·)) (by assumption) | exact congrArg (Option.map (_ :: ·)) (congrArg (Option.map (_ :: ·)) (by assumption))); (case kF => first | assumption | exact rfl); (case kK => first | assumption | exact rfl); (case k1 => k_asm); (case k2 => k_asm); (case k3 => k_asm); (case k4 => k_asm); (case k5 => k_asm); (case k6 => k_is); (case k7 => k_is); (case k8 => k_room); (case k9 => first | exact BindsTo.of_eq rfl | exact binds_K (by k_in) rfl (by k_is) rfl rfl rfl | fail "k_enter: no rule for these arguments"); (case kB => exact rfl); (case kD => decide +kernel); (case c2 => exact rfl); (case c3 => exact rfl); (case c4 => exact rfl); k_whole; intro g' L' h' tk' cells' FG' F' N' Y' B' X' T' l1; (try k_lt l1); k_cells Y'; (try simp only [List.cons_append, List.nil_append] at N'); (try dsimp only); (try k_lift B'); (try k_fold)))
local macro_rules | `(tactic| k_enter) => `(tactic| (refine' code_def ?k1 ?k2 ?k3 ?k4 ?k5 ?kA ?kF ?kK ?k6 ?k7 ?k8 ?k9 ?kB ?_ ?c2 ?c3 ?c4 ?c5; (case kA => first | assumption | exact congrArg (Option.map (_ :: ·)) (by assumption) | exact congrArg (Option.map (_ :: ·)) (congrArg (Option.map (_ :: ·)) (by assumption))); (case kF => first | assumption | exact rfl); (case kK => first | assumption | exact rfl); (case k1 => k_asm); (case k2 => k_asm); (case k3 => k_asm); (case k4 => k_asm); (case k5 => k_asm); (case k6 => k_is); (case k7 => k_is); (case k8 => k_room); (case k9 => first | exact BindsTo.of_eq rfl | exact binds_K (by k_in) rfl (by k_is) rfl rfl rfl | fail "k_enter: no rule for these arguments"); (case c5 => decide); (case kB => exact locs rfl); (case c2 => exact rfl); (case c3 => exact rfl); (case c4 => exact rfl); k_whole; intro g' L' h' FG' F' N' B' X' T'; (try dsimp only); (try k_lift B'); (try k_fold)))
local macro_rules | `(tactic| walk_at "Fr") => `(tactic| with_reducible assumption)
local macro_rules | `(tactic| walk_at "News") => `(tactic| with_reducible assumption)
local macro_rules | `(tactic| walk_at "execs cons") => `(tactic| ((with_reducible show wpAny _ _ (execs (_ :: _) _) _ _ _); (refine wpAny_execs_cons ?_); k_fold))
theorem top_off : True := by
  w_top off
  trivial
section
def bodyOf : Stmt → List Stmt
  | .FunctionDef _ _ b _ _ _ _ _ _ _ => b
  | _ => []
def scopeOf : Stmt → Scope
  | .FunctionDef _ _ _ _ _ _ sc _ _ _ => sc
  | _ => { kind := .function, names := [], isGenerator := false, isCoroutine := false, more := [] }
def nthSt : Nat → List Stmt → Stmt
  | _, [] => .Pass ⟨0, 0, 0, 0⟩
  | 0, s :: _ => s
  | n + 1, _ :: r => nthSt n r
def clsBody : Stmt → List Stmt
  | .ClassDef _ _ _ b _ _ _ _ _ _ _ => b
  | _ => []
/-- a rectangle's five fields as its dict holds them -/
noncomputable abbrev rectEs (P : Params) (k1 k2 k3 k4 k5 : Tok) (wd ht x y rid : Value) : List DictEntry :=
  [{ hash := PyData.keyHash P (Str.ofString "width"), key := .str (Str.ofString "width") k1, val := wd },
   { hash := PyData.keyHash P (Str.ofString "height"), key := .str (Str.ofString "height") k2, val := ht },
   { hash := PyData.keyHash P (Str.ofString "x"), key := .str (Str.ofString "x") k3, val := x },
   { hash := PyData.keyHash P (Str.ofString "y"), key := .str (Str.ofString "y") k4, val := y },
   { hash := PyData.keyHash P (Str.ofString "rid"), key := .str (Str.ofString "rid") k5, val := rid }]
def containsB (x1 y1 wa ha x2 y2 wb hb : Int) : Bool := decide (y1 ≤ y2 ∧ x1 ≤ x2 ∧ y2 + hb ≤ y1 + ha ∧ x2 + wb ≤ x1 + wa)
def meetsB (x1 y1 wa ha x2 y2 wb hb : Int) : Bool := decide (y1 < y2 + hb ∧ y2 < y1 + ha ∧ x1 < x2 + wb ∧ x2 < x1 + wa)
def touchB (x1 y1 wa ha x2 y2 wb hb : Int) : Bool := decide (y1 ≤ y2 + hb ∧ y2 ≤ y1 + ha ∧ x1 ≤ x2 + wb ∧ x2 ≤ x1 + wa)
theorem ne_of_all_lt {l : List (Addr × Obj)} {d : Addr} (h : ∀ p ∈ l, p.1 < d) : ∀ p ∈ l, p.1 ≠ d := fun p hp => Nat.ne_of_lt (h p hp)
theorem max_ite (a b : Int) : max a b = if b > a then b else a := by omega
theorem min_ite (a b : Int) : min a b = if b < a then b else a := by omega
def joinV (x1 y1 wa ha x2 y2 wb hb : Int) : Bool × Int × Int × Int × Int :=
  if containsB x1 y1 wa ha x2 y2 wb hb = true then (true, x1, y1, wa, ha)
  else if containsB x2 y2 wb hb x1 y1 wa ha = true then (true, x2, y2, wb, hb)
  else if touchB x1 y1 wa ha x2 y2 wb hb = false then (false, x1, y1, wa, ha)
  else if x1 = x2 ∧ wa = wb then (true, x1, min y1 y2, wa, max (y1 + ha) (y2 + hb) - min y1 y2)
  else if y1 = y2 ∧ ha = hb then (true, min x1 x2, y1, max (x1 + wa) (x2 + wb) - min x1 x2, ha)
  else (false, x1, y1, wa, ha)
section
variable {x1 y1 wa ha x2 y2 wb hb : Int}
theorem joinV_1 (h1 : containsB x1 y1 wa ha x2 y2 wb hb = true) : joinV x1 y1 wa ha x2 y2 wb hb = (true, x1, y1, wa, ha) := by
  unfold joinV; rw [if_pos h1]
theorem joinV_2 (h1 : containsB x1 y1 wa ha x2 y2 wb hb = false) (h2 : containsB x2 y2 wb hb x1 y1 wa ha = true) : joinV x1 y1 wa ha x2 y2 wb hb = (true, x2, y2, wb, hb) := by
  unfold joinV; rw [if_neg (by simp [h1]), if_pos h2]
theorem joinV_3 (h1 : containsB x1 y1 wa ha x2 y2 wb hb = false) (h2 : containsB x2 y2 wb hb x1 y1 wa ha = false) (h3 : touchB x1 y1 wa ha x2 y2 wb hb = false) : joinV x1 y1 wa ha x2 y2 wb hb = (false, x1, y1, wa, ha) := by
  unfold joinV; rw [if_neg (by simp [h1]), if_neg (by simp [h2]), if_pos h3]
theorem joinV_4 (h1 : containsB x1 y1 wa ha x2 y2 wb hb = false) (h2 : containsB x2 y2 wb hb x1 y1 wa ha = false) (h3 : touchB x1 y1 wa ha x2 y2 wb hb = true) (e : x1 = x2 ∧ wa = wb) :
    joinV x1 y1 wa ha x2 y2 wb hb = (true, x1, (if y2 < y1 then y2 else y1), wa, (if y2 + hb > y1 + ha then y2 + hb else y1 + ha) - (if y2 < y1 then y2 else y1)) := by
  unfold joinV; rw [if_neg (by simp [h1]), if_neg (by simp [h2]), if_neg (by simp [h3]), if_pos e, min_ite, max_ite]
theorem joinV_5 (h1 : containsB x1 y1 wa ha x2 y2 wb hb = false) (h2 : containsB x2 y2 wb hb x1 y1 wa ha = false) (h3 : touchB x1 y1 wa ha x2 y2 wb hb = true) (n : ¬ (x1 = x2 ∧ wa = wb)) (e : y1 = y2 ∧ ha = hb) :
    joinV x1 y1 wa ha x2 y2 wb hb = (true, (if x2 < x1 then x2 else x1), y1, (if x2 + wb > x1 + wa then x2 + wb else x1 + wa) - (if x2 < x1 then x2 else x1), ha) := by
  unfold joinV; rw [if_neg (by simp [h1]), if_neg (by simp [h2]), if_neg (by simp [h3]), if_neg n, if_pos e, min_ite, max_ite]
theorem joinV_6 (h1 : containsB x1 y1 wa ha x2 y2 wb hb = false) (h2 : containsB x2 y2 wb hb x1 y1 wa ha = false) (h3 : touchB x1 y1 wa ha x2 y2 wb hb = true) (n : ¬ (x1 = x2 ∧ wa = wb)) (n' : ¬ (y1 = y2 ∧ ha = hb)) :
    joinV x1 y1 wa ha x2 y2 wb hb = (false, x1, y1, wa, ha) := by
  unfold joinV; rw [if_neg (by simp [h1]), if_neg (by simp [h2]), if_neg (by simp [h3]), if_neg n, if_neg n']
end
theorem allLt_all {d : Addr} {l : List (Addr × Obj)} (h : AllLt d l) : ∀ p ∈ l, p.1 < d := by
  induction l with
  | nil => intro p hp; cases hp
  | cons q r ih =>
    intro p hp
    rcases List.mem_cons.mp hp with e | hp
    · rw [e]; exact h.1
    · exact ih h.2 p hp
theorem news_drop4 {h₀ h : Heap} {L : Addr} {a b c d e : Addr × Obj} {news : List (Addr × Obj)} (N : News h₀ L h (a :: b :: c :: d :: e :: news)) : News h₀ L h (a :: news) := fun p hp => N p (by
  rcases List.mem_cons.mp hp with rfl | hp
  · exact List.mem_cons_self
  · exact List.mem_cons_of_mem _ (List.mem_cons_of_mem _ (List.mem_cons_of_mem _ (List.mem_cons_of_mem _ (List.mem_cons_of_mem _ hp)))))
theorem news_sub {h₀ h : Heap} {L : Addr} {news news' : List (Addr × Obj)} (N : News h₀ L h news) (hs : ∀ p ∈ news', p ∈ news) : News h₀ L h news' := fun p hp => N p (hs p hp)
end
section
local macro_rules | `(tactic| walk_at "idle 0") => `(tactic| skip)
inductive Side (x y wd ht : Int) : Str → Int → Prop
  | bottom : Side x y wd ht (Str.ofString "bottom") y
  | top : Side x y wd ht (Str.ofString "top") (y + ht)
  | left : Side x y wd ht (Str.ofString "left") x
  | right : Side x y wd ht (Str.ofString "right") (x + wd)
inductive Fld (x y wd ht : Int) (t1 t2 t3 t4 : Tok) : Str → Value → Prop
  | width : Fld x y wd ht t1 t2 t3 t4 (Str.ofString "width") (.int wd t1)
  | height : Fld x y wd ht t1 t2 t3 t4 (Str.ofString "height") (.int ht t2)
  | x : Fld x y wd ht t1 t2 t3 t4 (Str.ofString "x") (.int x t3)
  | y : Fld x y wd ht t1 t2 t3 t4 (Str.ofString "y") (.int y t4)
set_option maxRecDepth 100000 in
set_option maxHeartbeats 8000000 in
theorem side_get {w : World} {A₀ A : Around} {env : Env} {outer : List Env} {base h₀ : Heap} {L : Addr} {m mg mb : Str → Option Value} {mean : ExcName → Option Value} {news : List (Addr × Obj)} {s : Shared} {E : Value → Shared → Prop} {Q : Value → Shared → Prop} {xa da : Addr} {ka1 ka2 ka3 ka4 ka5 : Tok} {wa ha x1 y1 : Int} {ra : Value} {ta1 ta2 ta3 ta4 : Tok} {na : Nat} {nm : Str} {v : Int} :
    Fr h₀ L s.heap m → News h₀ L s.heap news → (hd.heap_39 w.params).In h₀ → Below A₀ base outer h₀ → Top hd.view_39 (looseW hd.view_39 [Str.ofString "Rectangle"]) mean mg mb h₀ → A.frames = some (env :: outer) → env.frame = some L → env.scope.kind = .function → A.depth + 5 < recursionLimit → A.handled = none →
    (xa, instObj 196 da) ∈ news → (da, dictOf (rectEs w.params ka1 ka2 ka3 ka4 ka5 (.int wa ta1) (.int ha ta2) (.int x1 ta3) (.int y1 ta4) ra) na) ∈ news → Side x1 y1 wa ha nm v →
    (∀ t h' tk, Fr h₀ L h' m → News h₀ L h' news → Q (.int v t) { s with heap := h', toks := tk }) →
    wpAny (model PySem.Challenge.rw_kx0087_01.row.prog w) A (getAttr (.ref xa) nm true) Q E s := by
  k_fill
  intro F N X B T hA hf hk hroom hh hxa hda hs hQ
  cases hs
  all_goals (k_steps; exact hQ _ _ _ (by assumption) (by assumption))
set_option maxRecDepth 100000 in
set_option maxHeartbeats 8000000 in
theorem fld_get {w : World} {A : Around} {h₀ : Heap} {L : Addr} {m : Str → Option Value} {news : List (Addr × Obj)} {s : Shared} {E : Value → Shared → Prop} {Q : Value → Shared → Prop} {xa da : Addr} {ka1 ka2 ka3 ka4 ka5 : Tok} {wa ha x1 y1 : Int} {ra : Value} {ta1 ta2 ta3 ta4 : Tok} {na : Nat} {nm : Str} {v : Value} :
    Fr h₀ L s.heap m → News h₀ L s.heap news → (hd.heap_39 w.params).In h₀ →
    (xa, instObj 196 da) ∈ news → (da, dictOf (rectEs w.params ka1 ka2 ka3 ka4 ka5 (.int wa ta1) (.int ha ta2) (.int x1 ta3) (.int y1 ta4) ra) na) ∈ news → Fld x1 y1 wa ha ta1 ta2 ta3 ta4 nm v → Q v { s with toks := s.toks + 1 } →
    wpAny (model PySem.Challenge.rw_kx0087_01.row.prog w) A (getAttr (.ref xa) nm true) Q E s := by
  k_fill
  intro F N X hxa hda hs hQ
  cases hs
  all_goals (k_steps; exact hQ)
section
variable {w : World} {A₀ A : Around} {outer : List Env} {base h₀ : Heap} {L a : Addr} {m mg mb : Str → Option Value} {mean : ExcName → Option Value} {cn : Str} {cs : Scope} {ccd : Value} {cl : List (Str × Addr)} {news : List (Addr × Obj)} {E : Value → Shared → Prop} {x nm : Str} {p1 p2 p3 : Pos} {s : Shared} {Q : Value → Shared → Prop}
theorem fld_name {xa da : Addr} {ka1 ka2 ka3 ka4 ka5 : Tok} {wa ha x1 y1 : Int} {ra : Value} {ta1 ta2 ta3 ta4 : Tok} {na : Nat} {v : Value} (F : Fr h₀ L s.heap m) (N : News h₀ L s.heap news) (X : (hd.heap_39 w.params).In h₀) (hv : m x = some (.ref xa)) (hxa : (xa, instObj 196 da) ∈ news) (hda : (da, dictOf (rectEs w.params ka1 ka2 ka3 ka4 ka5 (.int wa ta1) (.int ha ta2) (.int x1 ta3) (.int y1 ta4) ra) na) ∈ news) (hs : Fld x1 y1 wa ha ta1 ta2 ta3 ta4 nm v)
    (hk : cs.kind = .function) (hx : (envX cn cs L a ccd cl).kindOf x = some .local) (hb : (x == ("__debug__" : Str)) = false) (h : Q v { s with toks := s.toks + 1 }) : wpAny (model PySem.Challenge.rw_kx0087_01.row.prog w) A (eval (.Attribute (.Name x p1) nm p2) (envX cn cs L a ccd cl)) Q E s :=
  Attribute_Name_ (nameX_L F hv (fld_get F N X hxa hda hs h) hk hx hb)
theorem side_name {xa da : Addr} {ka1 ka2 ka3 ka4 ka5 : Tok} {wa ha x1 y1 : Int} {ra : Value} {ta1 ta2 ta3 ta4 : Tok} {na : Nat} {v : Int} (F : Fr h₀ L s.heap m) (N : News h₀ L s.heap news) (X : (hd.heap_39 w.params).In h₀) (B : Below A₀ base outer h₀) (T : Top hd.view_39 (looseW hd.view_39 [Str.ofString "Rectangle"]) mean mg mb h₀) (hA : A.frames = some (envX cn cs L a ccd cl :: outer)) (hr : A.depth + 5 < recursionLimit) (hh : A.handled = none)
    (hv : m x = some (.ref xa)) (hxa : (xa, instObj 196 da) ∈ news) (hda : (da, dictOf (rectEs w.params ka1 ka2 ka3 ka4 ka5 (.int wa ta1) (.int ha ta2) (.int x1 ta3) (.int y1 ta4) ra) na) ∈ news) (hs : Side x1 y1 wa ha nm v)
    (hk : cs.kind = .function) (hx : (envX cn cs L a ccd cl).kindOf x = some .local) (hb : (x == ("__debug__" : Str)) = false) (h : ∀ t h' tk, Fr h₀ L h' m → News h₀ L h' news → Q (.int v t) { s with heap := h', toks := tk }) : wpAny (model PySem.Challenge.rw_kx0087_01.row.prog w) A (eval (.Attribute (.Name x p1) nm p2) (envX cn cs L a ccd cl)) Q E s :=
  Attribute_Name_ (nameX_L F hv (side_get F N X B T hA rfl hk hr hh hxa hda hs h) hk hx hb)
theorem item_name {o : Addr} {n : Nat} {l : List Value} {i : Int} {k j : Nat} {v : Value} (F : Fr h₀ L s.heap m) (N : News h₀ L s.heap news) (hv : m x = some (.ref o)) (hm : (o, ({ cls := .type "tuple", data := .seq l.toArray n } : Obj)) ∈ news) (h0 : -(2 ^ 63) ≤ i) (h1 : i < 2 ^ 63) (hj : seqIndex? i l.length = some j) (hl : l[j]? = some v)
    (hk : cs.kind = .function) (hx : (envX cn cs L a ccd cl).kindOf x = some .local) (hb : (x == ("__debug__" : Str)) = false) (h : Q v { s with toks := s.toks + 1 }) : wpAny (model PySem.Challenge.rw_kx0087_01.row.prog w) A (eval (.Subscript (.Name x p1) (.Constant (.int i) k p2) p3) (envX cn cs L a ccd cl)) Q E s :=
  Subscript_ (nameX_L F hv (wpAny_Constant_int (item_tupleT ⟨_, N.get hm, rfl, _, rfl⟩ h0 h1 hj hl h rfl)) hk hx hb)
end
end
local macro_rules | `(tactic| walk_at "eval Attribute Name") => `(tactic| (k_here; k_dflt ((refine' fld_name ?F ?N ?X ?hv ?a ?b ?s rfl rfl ?d ?_); (case s => with_reducible first | apply Fld.y | apply Fld.x | apply Fld.width | apply Fld.height); (case F => assumption); (case N => assumption); (case X => assumption); (case hv => first | assumption | exact rfl); (case d => decide); (case a => k_mem); (case b => k_mem))))
local macro_rules | `(tactic| walk_at "eval Attribute Name") => `(tactic| (k_here; k_dflt ((refine' side_name ?F ?N ?X ?B ?T ?hA ?hr ?hh ?hv ?a ?b ?s rfl rfl ?d ?_); (case s => with_reducible first | apply Side.top | apply Side.bottom | apply Side.left | apply Side.right); (case F => assumption); (case N => assumption); (case X => assumption); (case B => assumption); (case T => assumption); (case hA => first | assumption | exact rfl | exact congrArg (Option.map (_ :: ·)) (by assumption)); (case hr => k_room); (case hh => first | assumption | exact rfl); (case hv => first | assumption | exact rfl); (case d => decide); (case a => k_mem); (case b => k_mem)); intro t' h' tk' F' N'))
section
set_option maxRecDepth 100000 in
set_option maxHeartbeats 8000000 in
theorem contains_call {w : World} {A₀ A : Around} {env : Env} {outer : List Env} {base h₀ : Heap} {L : Addr} {m mg mb : Str → Option Value} {mean : ExcName → Option Value} {news : List (Addr × Obj)} {s : Shared} {E : Value → Shared → Prop} {Q : Value → Shared → Prop} {xa da : Addr} {ka1 ka2 ka3 ka4 ka5 : Tok} {wa ha x1 y1 : Int} {ra : Value} {ta1 ta2 ta3 ta4 : Tok} {na : Nat} {xb db : Addr} {kb1 kb2 kb3 kb4 kb5 : Tok} {wb hb x2 y2 : Int} {rb : Value} {tb1 tb2 tb3 tb4 : Tok} {nb : Nat} {r : Bool} :
    (hd.heap_39 w.params).In h₀ → Below A₀ base outer h₀ → Top hd.view_39 (looseW hd.view_39 [Str.ofString "Rectangle"]) mean mg mb h₀ → A.frames = some (env :: outer) → env.frame = some L → env.scope.kind = .function → A.depth + 20 < recursionLimit → A.handled = none →
    Fr h₀ L s.heap m → News h₀ L s.heap news →
    (xa, instObj 196 da) ∈ news → (da, dictOf (rectEs w.params ka1 ka2 ka3 ka4 ka5 (.int wa ta1) (.int ha ta2) (.int x1 ta3) (.int y1 ta4) ra) na) ∈ news → (xb, instObj 196 db) ∈ news → (db, dictOf (rectEs w.params kb1 kb2 kb3 kb4 kb5 (.int wb tb1) (.int hb tb2) (.int x2 tb3) (.int y2 tb4) rb) nb) ∈ news →
    containsB x1 y1 wa ha x2 y2 wb hb = r → 
    (∀ h' tk, Fr h₀ L h' m → News h₀ L h' news → Q (.bool r) { s with heap := h', toks := tk }) →
    wpAny (model PySem.Challenge.rw_kx0087_01.row.prog w) A (PySem.call (.ref 170) [.ref xa, .ref xb]) Q E s := by
  k_fill
  intro X B T hA hf hk hroom hh F N hxa hda hxb hdb hv h
  replace h : ∀ r' h' tk, r' = containsB x1 y1 wa ha x2 y2 wb hb → Fr h₀ L h' m → News h₀ L h' news → Q (.bool r') { s with heap := h', toks := tk } := fun r' h' tk e => by subst e; subst hv; exact h h' tk
  clear hv
  k_steps
  all_goals (refine h _ _ _ ?_ (by assumption) (by assumption); unfold containsB; apply decide_eq_decide.mpr; omega)
end
section
local macro_rules | `(tactic| walk_at "idle 0") => `(tactic| skip)
set_option maxRecDepth 100000 in
set_option maxHeartbeats 8000000 in
theorem intersects_call {w : World} {A₀ A : Around} {env : Env} {outer : List Env} {base h₀ : Heap} {L : Addr} {m mg mb : Str → Option Value} {mean : ExcName → Option Value} {news : List (Addr × Obj)} {s : Shared} {E : Value → Shared → Prop} {Q : Value → Shared → Prop} {xa da : Addr} {ka1 ka2 ka3 ka4 ka5 : Tok} {wa ha x1 y1 : Int} {ra : Value} {ta1 ta2 ta3 ta4 : Tok} {na : Nat} {xb db : Addr} {kb1 kb2 kb3 kb4 kb5 : Tok} {wb hb x2 y2 : Int} {rb : Value} {tb1 tb2 tb3 tb4 : Tok} {nb : Nat} {r : Bool} :
    (hd.heap_39 w.params).In h₀ → Below A₀ base outer h₀ → Top hd.view_39 (looseW hd.view_39 [Str.ofString "Rectangle"]) mean mg mb h₀ → A.frames = some (env :: outer) → env.frame = some L → env.scope.kind = .function → A.depth + 20 < recursionLimit → A.handled = none →
    Fr h₀ L s.heap m → News h₀ L s.heap news →
    (xa, instObj 196 da) ∈ news → (da, dictOf (rectEs w.params ka1 ka2 ka3 ka4 ka5 (.int wa ta1) (.int ha ta2) (.int x1 ta3) (.int y1 ta4) ra) na) ∈ news → (xb, instObj 196 db) ∈ news → (db, dictOf (rectEs w.params kb1 kb2 kb3 kb4 kb5 (.int wb tb1) (.int hb tb2) (.int x2 tb3) (.int y2 tb4) rb) nb) ∈ news →
    meetsB x1 y1 wa ha x2 y2 wb hb = r → 
    (∀ h' tk, Fr h₀ L h' m → News h₀ L h' news → Q (.bool r) { s with heap := h', toks := tk }) →
    wpAny (model PySem.Challenge.rw_kx0087_01.row.prog w) A (PySem.call (.ref 178) [.ref xa, .ref xb]) Q E s := by
  k_fill
  intro X B T hA hf hk hroom hh F N hxa hda hxb hdb hv h
  replace h : ∀ r' h' tk, r' = meetsB x1 y1 wa ha x2 y2 wb hb → Fr h₀ L h' m → News h₀ L h' news → Q (.bool r') { s with heap := h', toks := tk } := fun r' h' tk e => by subst e; subst hv; exact h h' tk
  clear hv
  k_steps
  all_goals (refine h _ _ _ ?_ (by assumption) (by assumption); unfold meetsB; first | (symm; apply decide_eq_true; omega) | (symm; apply decide_eq_false; omega))
set_option maxRecDepth 100000 in
set_option maxHeartbeats 8000000 in
theorem intersects_pos {w : World} {A₀ A : Around} {env : Env} {outer : List Env} {base h₀ : Heap} {L : Addr} {m mg mb : Str → Option Value} {mean : ExcName → Option Value} {news : List (Addr × Obj)} {s : Shared} {E : Value → Shared → Prop} {Q : Value → Shared → Prop} {xa da : Addr} {ka1 ka2 ka3 ka4 ka5 : Tok} {wa ha x1 y1 : Int} {ra : Value} {ta1 ta2 ta3 ta4 : Tok} {na : Nat} {xb db : Addr} {kb1 kb2 kb3 kb4 kb5 : Tok} {wb hb x2 y2 : Int} {rb : Value} {tb1 tb2 tb3 tb4 : Tok} {nb : Nat} {r : Bool} :
    (hd.heap_39 w.params).In h₀ → Below A₀ base outer h₀ → Top hd.view_39 (looseW hd.view_39 [Str.ofString "Rectangle"]) mean mg mb h₀ → A.frames = some (env :: outer) → env.frame = some L → env.scope.kind = .function → A.depth + 20 < recursionLimit → A.handled = none →
    Fr h₀ L s.heap m → News h₀ L s.heap news →
    (xa, instObj 196 da) ∈ news → (da, dictOf (rectEs w.params ka1 ka2 ka3 ka4 ka5 (.int wa ta1) (.int ha ta2) (.int x1 ta3) (.int y1 ta4) ra) na) ∈ news → (xb, instObj 196 db) ∈ news → (db, dictOf (rectEs w.params kb1 kb2 kb3 kb4 kb5 (.int wb tb1) (.int hb tb2) (.int x2 tb3) (.int y2 tb4) rb) nb) ∈ news →
    touchB x1 y1 wa ha x2 y2 wb hb = r → 
    (∀ h' tk, Fr h₀ L h' m → News h₀ L h' news → Q (.bool r) { s with heap := h', toks := tk }) →
    wpAny (model PySem.Challenge.rw_kx0087_01.row.prog w) A (PySem.call (.ref 178) [.ref xa, .ref xb, .bool true]) Q E s := by
  k_fill
  intro X B T hA hf hk hroom hh F N hxa hda hxb hdb hv h
  replace h : ∀ r' h' tk, r' = touchB x1 y1 wa ha x2 y2 wb hb → Fr h₀ L h' m → News h₀ L h' news → Q (.bool r') { s with heap := h', toks := tk } := fun r' h' tk e => by subst e; subst hv; exact h h' tk
  clear hv
  k_steps
  all_goals (refine h _ _ _ ?_ (by assumption) (by assumption); unfold touchB; first | (symm; apply decide_eq_true; omega) | (symm; apply decide_eq_false; omega))
set_option maxRecDepth 100000 in
set_option maxHeartbeats 8000000 in
theorem intersects_kwF {w : World} {A₀ A : Around} {env : Env} {outer : List Env} {base h₀ : Heap} {L : Addr} {m mg mb : Str → Option Value} {mean : ExcName → Option Value} {news : List (Addr × Obj)} {s : Shared} {E : Value → Shared → Prop} {Q : Value → Shared → Prop} {xa da : Addr} {ka1 ka2 ka3 ka4 ka5 : Tok} {wa ha x1 y1 : Int} {ra : Value} {ta1 ta2 ta3 ta4 : Tok} {na : Nat} {xb db : Addr} {kb1 kb2 kb3 kb4 kb5 : Tok} {wb hb x2 y2 : Int} {rb : Value} {tb1 tb2 tb3 tb4 : Tok} {nb : Nat} {r : Bool} :
    (hd.heap_39 w.params).In h₀ → Below A₀ base outer h₀ → Top hd.view_39 (looseW hd.view_39 [Str.ofString "Rectangle"]) mean mg mb h₀ → A.frames = some (env :: outer) → env.frame = some L → env.scope.kind = .function → A.depth + 20 < recursionLimit → A.handled = none →
    Fr h₀ L s.heap m → News h₀ L s.heap news →
    (xa, instObj 196 da) ∈ news → (da, dictOf (rectEs w.params ka1 ka2 ka3 ka4 ka5 (.int wa ta1) (.int ha ta2) (.int x1 ta3) (.int y1 ta4) ra) na) ∈ news → (xb, instObj 196 db) ∈ news → (db, dictOf (rectEs w.params kb1 kb2 kb3 kb4 kb5 (.int wb tb1) (.int hb tb2) (.int x2 tb3) (.int y2 tb4) rb) nb) ∈ news →
    meetsB x1 y1 wa ha x2 y2 wb hb = r → 
    (∀ h' tk, Fr h₀ L h' m → News h₀ L h' news → Q (.bool r) { s with heap := h', toks := tk }) →
    wpAny (model PySem.Challenge.rw_kx0087_01.row.prog w) A (PySem.call (.ref 178) [.ref xa, .ref xb] [(Str.ofString "edges", .bool false)]) Q E s := by
  k_fill
  intro X B T hA hf hk hroom hh F N hxa hda hxb hdb hv h
  replace h : ∀ r' h' tk, r' = meetsB x1 y1 wa ha x2 y2 wb hb → Fr h₀ L h' m → News h₀ L h' news → Q (.bool r') { s with heap := h', toks := tk } := fun r' h' tk e => by subst e; subst hv; exact h h' tk
  clear hv
  k_steps
  all_goals (refine h _ _ _ ?_ (by assumption) (by assumption); unfold meetsB; first | (symm; apply decide_eq_true; omega) | (symm; apply decide_eq_false; omega))
set_option maxRecDepth 100000 in
set_option maxHeartbeats 8000000 in
theorem intersects_kwT {w : World} {A₀ A : Around} {env : Env} {outer : List Env} {base h₀ : Heap} {L : Addr} {m mg mb : Str → Option Value} {mean : ExcName → Option Value} {news : List (Addr × Obj)} {s : Shared} {E : Value → Shared → Prop} {Q : Value → Shared → Prop} {xa da : Addr} {ka1 ka2 ka3 ka4 ka5 : Tok} {wa ha x1 y1 : Int} {ra : Value} {ta1 ta2 ta3 ta4 : Tok} {na : Nat} {xb db : Addr} {kb1 kb2 kb3 kb4 kb5 : Tok} {wb hb x2 y2 : Int} {rb : Value} {tb1 tb2 tb3 tb4 : Tok} {nb : Nat} {r : Bool} :
    (hd.heap_39 w.params).In h₀ → Below A₀ base outer h₀ → Top hd.view_39 (looseW hd.view_39 [Str.ofString "Rectangle"]) mean mg mb h₀ → A.frames = some (env :: outer) → env.frame = some L → env.scope.kind = .function → A.depth + 20 < recursionLimit → A.handled = none →
    Fr h₀ L s.heap m → News h₀ L s.heap news →
    (xa, instObj 196 da) ∈ news → (da, dictOf (rectEs w.params ka1 ka2 ka3 ka4 ka5 (.int wa ta1) (.int ha ta2) (.int x1 ta3) (.int y1 ta4) ra) na) ∈ news → (xb, instObj 196 db) ∈ news → (db, dictOf (rectEs w.params kb1 kb2 kb3 kb4 kb5 (.int wb tb1) (.int hb tb2) (.int x2 tb3) (.int y2 tb4) rb) nb) ∈ news →
    touchB x1 y1 wa ha x2 y2 wb hb = r → 
    (∀ h' tk, Fr h₀ L h' m → News h₀ L h' news → Q (.bool r) { s with heap := h', toks := tk }) →
    wpAny (model PySem.Challenge.rw_kx0087_01.row.prog w) A (PySem.call (.ref 178) [.ref xa, .ref xb] [(Str.ofString "edges", .bool true)]) Q E s := by
  k_fill
  intro X B T hA hf hk hroom hh F N hxa hda hxb hdb hv h
  replace h : ∀ r' h' tk, r' = touchB x1 y1 wa ha x2 y2 wb hb → Fr h₀ L h' m → News h₀ L h' news → Q (.bool r') { s with heap := h', toks := tk } := fun r' h' tk e => by subst e; subst hv; exact h h' tk
  clear hv
  k_steps
  all_goals (refine h _ _ _ ?_ (by assumption) (by assumption); unfold touchB; first | (symm; apply decide_eq_true; omega) | (symm; apply decide_eq_false; omega))
end
section
set_option maxRecDepth 100000 in
set_option maxHeartbeats 8000000 in
theorem rect_make {w : World} {A₀ A : Around} {env : Env} {outer : List Env} {base h₀ : Heap} {L : Addr} {m mg mb : Str → Option Value} {mean : ExcName → Option Value} {news : List (Addr × Obj)} {s : Shared} {E : Value → Shared → Prop} {Q : Value → Shared → Prop} {px py wi hi : Int} {tx ty tw th : Tok} {rid : Value} :
    (hd.heap_39 w.params).In h₀ → Below A₀ base outer h₀ → Top hd.view_39 (looseW hd.view_39 [Str.ofString "Rectangle"]) mean mg mb h₀ → A.frames = some (env :: outer) → env.frame = some L → env.scope.kind = .function → A.depth + 20 < recursionLimit → A.handled = none →
    Fr h₀ L s.heap m → News h₀ L s.heap news →
    0 ≤ wi → 0 ≤ hi →
    (∀ (d x : Nat) k1 k2 k3 k4 k5 h' tk, Fr h₀ L h' m → News h₀ L h' ((x, instObj 196 d) :: (d, dictOf (rectEs w.params k1 k2 k3 k4 k5 (.int wi tw) (.int hi th) (.int px tx) (.int py ty) rid) 5) :: news) → (∀ p ∈ news, p.1 < d) → d < x → Q (.ref x) { s with heap := h', toks := tk }) →
    wpAny (model PySem.Challenge.rw_kx0087_01.row.prog w) A (PySem.call (.ref 196) [.int px tx, .int py ty, .int wi tw, .int hi th, rid]) Q E s := by
  k_fill
  intro X B T hA hf hk hroom hh F N p1 p2 hQ
  k_steps
  exact hQ _ _ _ _ _ _ _ _ _ (by assumption) (by assumption) (by first | assumption | exact allLt_all (by assumption)) (by assumption)
set_option maxRecDepth 100000 in
set_option maxHeartbeats 8000000 in
theorem rect_make4 {w : World} {A₀ A : Around} {env : Env} {outer : List Env} {base h₀ : Heap} {L : Addr} {m mg mb : Str → Option Value} {mean : ExcName → Option Value} {news : List (Addr × Obj)} {s : Shared} {E : Value → Shared → Prop} {Q : Value → Shared → Prop} {px py wi hi : Int} {tx ty tw th : Tok} :
    (hd.heap_39 w.params).In h₀ → Below A₀ base outer h₀ → Top hd.view_39 (looseW hd.view_39 [Str.ofString "Rectangle"]) mean mg mb h₀ → A.frames = some (env :: outer) → env.frame = some L → env.scope.kind = .function → A.depth + 20 < recursionLimit → A.handled = none →
    Fr h₀ L s.heap m → News h₀ L s.heap news →
    0 ≤ wi → 0 ≤ hi →
    (∀ (d x : Nat) k1 k2 k3 k4 k5 h' tk, Fr h₀ L h' m → News h₀ L h' ((x, instObj 196 d) :: (d, dictOf (rectEs w.params k1 k2 k3 k4 k5 (.int wi tw) (.int hi th) (.int px tx) (.int py ty) .none) 5) :: news) → (∀ p ∈ news, p.1 < d) → d < x → Q (.ref x) { s with heap := h', toks := tk }) →
    wpAny (model PySem.Challenge.rw_kx0087_01.row.prog w) A (PySem.call (.ref 196) [.int px tx, .int py ty, .int wi tw, .int hi th]) Q E s := by
  k_fill
  intro X B T hA hf hk hroom hh F N p1 p2 hQ
  k_steps
  exact hQ _ _ _ _ _ _ _ _ _ (by assumption) (by assumption) (by first | assumption | exact allLt_all (by assumption)) (by assumption)
end
local macro_rules | `(tactic| walk_at "call ref") => `(tactic| (k_here; (with_reducible show wpAny _ _ (PySem.call (Value.ref 196) _ _) _ _ _); k_dflt ((first | refine' rect_make ?X ?B ?T ?hA ?hf ?hk ?hr ?hh ?F ?N ?p ?q ?_ | refine' rect_make4 ?X ?B ?T ?hA ?hf ?hk ?hr ?hh ?F ?N ?p ?q ?_); (case F | N | X | B | T => assumption); (case hA => first | assumption | exact rfl | exact congrArg (Option.map (_ :: ·)) (by assumption)); (case hf | hk | hh => first | assumption | exact rfl); (case hr => k_room); (case p | q => omega)); intro d' x' k1' k2' k3' k4' k5' h' tk' F' N' a' l'))
section
local macro_rules | `(tactic| walk_at "call ref") => `(tactic| (k_here; (with_reducible show wpAny _ _ (PySem.call (Value.ref 178) _ _) _ _ _); k_dflt ((first | refine' intersects_kwF ?X ?B ?T ?hA ?hf ?hk ?hr ?hh ?F ?N ?a ?b ?c ?d ?v ?_ | refine' intersects_kwT ?X ?B ?T ?hA ?hf ?hk ?hr ?hh ?F ?N ?a ?b ?c ?d ?v ?_); (case X => assumption); (case B => assumption); (case T => assumption); (case hA => first | exact rfl | assumption | exact congrArg (Option.map (_ :: ·)) (by assumption)); (case hf => first | exact rfl | assumption); (case hk => first | exact rfl | assumption); (case hr => k_room); (case hh => first | assumption | exact rfl); (case F => assumption); (case N => assumption); (case a => k_mem); (case b => k_mem); (case c => k_mem); (case d => k_mem); (case v => first | assumption | exact rfl)); intro h' tk' F' N'))
set_option maxRecDepth 100000 in
set_option maxHeartbeats 8000000 in
theorem intersection_F {w : World} {A₀ A : Around} {env : Env} {outer : List Env} {base h₀ : Heap} {L : Addr} {m mg mb : Str → Option Value} {mean : ExcName → Option Value} {news : List (Addr × Obj)} {s : Shared} {E : Value → Shared → Prop} {Q : Value → Shared → Prop} {xa da : Addr} {ka1 ka2 ka3 ka4 ka5 : Tok} {wa ha x1 y1 : Int} {ra : Value} {ta1 ta2 ta3 ta4 : Tok} {na : Nat} {xb db : Addr} {kb1 kb2 kb3 kb4 kb5 : Tok} {wb hb x2 y2 : Int} {rb : Value} {tb1 tb2 tb3 tb4 : Tok} {nb : Nat} {r : Bool} :
    (hd.heap_39 w.params).In h₀ → Below A₀ base outer h₀ → Top hd.view_39 (looseW hd.view_39 [Str.ofString "Rectangle"]) mean mg mb h₀ → A.frames = some (env :: outer) → env.frame = some L → env.scope.kind = .function → A.depth + 60 < recursionLimit → A.handled = none →
    Fr h₀ L s.heap m → News h₀ L s.heap news →
    (xa, instObj 196 da) ∈ news → (da, dictOf (rectEs w.params ka1 ka2 ka3 ka4 ka5 (.int wa ta1) (.int ha ta2) (.int x1 ta3) (.int y1 ta4) ra) na) ∈ news → (xb, instObj 196 db) ∈ news → (db, dictOf (rectEs w.params kb1 kb2 kb3 kb4 kb5 (.int wb tb1) (.int hb tb2) (.int x2 tb3) (.int y2 tb4) rb) nb) ∈ news → meetsB x1 y1 wa ha x2 y2 wb hb = r → 0 < wa → 0 < ha → 0 < wb → 0 < hb →
    (r = false → ∀ h' tk, Fr h₀ L h' m → News h₀ L h' news → Q .none { s with heap := h', toks := tk }) →
    (r = true → ∀ xm dm k1 k2 k3 k4 k5 t1 t2 t3 t4 n h' tk, Fr h₀ L h' m → News h₀ L h' ((xm, instObj 196 dm) :: (dm, dictOf (rectEs w.params k1 k2 k3 k4 k5 (.int (min (x1 + wa) (x2 + wb) - max x1 x2) t1) (.int (min (y1 + ha) (y2 + hb) - max y1 y2) t2) (.int (max x1 x2) t3) (.int (max y1 y2) t4) .none) n) :: news) →
      (∀ p ∈ news, p.1 < dm) → dm < xm → Q (.ref xm) { s with heap := h', toks := tk }) →
    wpAny (model PySem.Challenge.rw_kx0087_01.row.prog w) A (PySem.call (.ref 186) [.ref xa, .ref xb]) Q E s := by
  k_fill
  intro X B T hA hf hk hroom hh F N hxa hda hxb hdb hv p1 p2 p3 p4 hN hY
  cases r with
  | false =>
    k_steps
    exact hN rfl _ _ (by assumption) (by assumption)
  | true =>
    have hv' := hv
    simp only [meetsB, decide_eq_true_eq] at hv'
    obtain ⟨q1, q2, q3, q4⟩ := hv'
    k_steps
    replace hY := hY rfl
    simp only [max_ite, min_ite] at hY
    exact hY _ _ _ _ _ _ _ _ _ _ _ _ _ _ (by assumption) (by assumption) (by assumption) (by assumption)
set_option maxRecDepth 100000 in
set_option maxHeartbeats 8000000 in
theorem intersection_T {w : World} {A₀ A : Around} {env : Env} {outer : List Env} {base h₀ : Heap} {L : Addr} {m mg mb : Str → Option Value} {mean : ExcName → Option Value} {news : List (Addr × Obj)} {s : Shared} {E : Value → Shared → Prop} {Q : Value → Shared → Prop} {xa da : Addr} {ka1 ka2 ka3 ka4 ka5 : Tok} {wa ha x1 y1 : Int} {ra : Value} {ta1 ta2 ta3 ta4 : Tok} {na : Nat} {xb db : Addr} {kb1 kb2 kb3 kb4 kb5 : Tok} {wb hb x2 y2 : Int} {rb : Value} {tb1 tb2 tb3 tb4 : Tok} {nb : Nat} {r : Bool} :
    (hd.heap_39 w.params).In h₀ → Below A₀ base outer h₀ → Top hd.view_39 (looseW hd.view_39 [Str.ofString "Rectangle"]) mean mg mb h₀ → A.frames = some (env :: outer) → env.frame = some L → env.scope.kind = .function → A.depth + 60 < recursionLimit → A.handled = none →
    Fr h₀ L s.heap m → News h₀ L s.heap news →
    (xa, instObj 196 da) ∈ news → (da, dictOf (rectEs w.params ka1 ka2 ka3 ka4 ka5 (.int wa ta1) (.int ha ta2) (.int x1 ta3) (.int y1 ta4) ra) na) ∈ news → (xb, instObj 196 db) ∈ news → (db, dictOf (rectEs w.params kb1 kb2 kb3 kb4 kb5 (.int wb tb1) (.int hb tb2) (.int x2 tb3) (.int y2 tb4) rb) nb) ∈ news → touchB x1 y1 wa ha x2 y2 wb hb = r → 0 < wa → 0 < ha → 0 < wb → 0 < hb →
    (r = false → ∀ h' tk, Fr h₀ L h' m → News h₀ L h' news → Q .none { s with heap := h', toks := tk }) →
    (r = true → ∀ xm dm k1 k2 k3 k4 k5 t1 t2 t3 t4 n h' tk, Fr h₀ L h' m → News h₀ L h' ((xm, instObj 196 dm) :: (dm, dictOf (rectEs w.params k1 k2 k3 k4 k5 (.int (min (x1 + wa) (x2 + wb) - max x1 x2) t1) (.int (min (y1 + ha) (y2 + hb) - max y1 y2) t2) (.int (max x1 x2) t3) (.int (max y1 y2) t4) .none) n) :: news) →
      (∀ p ∈ news, p.1 < dm) → dm < xm → Q (.ref xm) { s with heap := h', toks := tk }) →
    wpAny (model PySem.Challenge.rw_kx0087_01.row.prog w) A (PySem.call (.ref 186) [.ref xa, .ref xb, .bool true]) Q E s := by
  k_fill
  intro X B T hA hf hk hroom hh F N hxa hda hxb hdb hv p1 p2 p3 p4 hN hY
  cases r with
  | false =>
    k_steps
    exact hN rfl _ _ (by assumption) (by assumption)
  | true =>
    have hv' := hv
    simp only [touchB, decide_eq_true_eq] at hv'
    obtain ⟨q1, q2, q3, q4⟩ := hv'
    k_steps
    replace hY := hY rfl
    simp only [max_ite, min_ite] at hY
    exact hY _ _ _ _ _ _ _ _ _ _ _ _ _ _ (by assumption) (by assumption) (by assumption) (by assumption)
end
section
local macro_rules | `(tactic| walk_at "call ref") => `(tactic| (k_here; (with_reducible show wpAny _ _ (PySem.call (Value.ref 178) _ _) _ _ _); k_dflt ((first | refine' intersects_kwT ?X ?B ?T ?hA ?hf ?hk ?hr ?hh ?F ?N ?a ?b ?c ?d ?v ?_); (case X => assumption); (case B => assumption); (case T => assumption); (case hA => first | exact rfl | assumption | exact congrArg (Option.map (_ :: ·)) (by assumption)); (case hf => first | exact rfl | assumption); (case hk => first | exact rfl | assumption); (case hr => k_room); (case hh => first | assumption | exact rfl); (case F => assumption); (case N => assumption); (case a => k_mem); (case b => k_mem); (case c => k_mem); (case d => k_mem); (case v => first | assumption | exact rfl)); intro h' tk' F' N'))
local macro_rules | `(tactic| walk_at "call ref") => `(tactic| (k_here; (with_reducible show wpAny _ _ (PySem.call (Value.ref 170) _ _) _ _ _); k_dflt ((first | refine' contains_call ?X ?B ?T ?hA ?hf ?hk ?hr ?hh ?F ?N ?a ?b ?c ?d ?v ?_); (case X => assumption); (case B => assumption); (case T => assumption); (case hA => first | exact rfl | assumption | exact congrArg (Option.map (_ :: ·)) (by assumption)); (case hf => first | exact rfl | assumption); (case hk => first | exact rfl | assumption); (case hr => k_room); (case hh => first | assumption | exact rfl); (case F => assumption); (case N => assumption); (case a => k_mem); (case b => k_mem); (case c => k_mem); (case d => k_mem); (case v => first | assumption | exact rfl)); intro h' tk' F' N'))
set_option maxRecDepth 100000 in
set_option maxHeartbeats 8000000 in
theorem join_call {w : World} {A₀ A : Around} {env : Env} {outer : List Env} {base h₀ : Heap} {L : Addr} {m mg mb : Str → Option Value} {mean : ExcName → Option Value} {news : List (Addr × Obj)} {s : Shared} {E : Value → Shared → Prop} {Q : Value → Shared → Prop} {rest : List (Addr × Obj)} {xa da : Addr} {ka1 ka2 ka3 ka4 ka5 : Tok} {wa ha x1 y1 : Int} {ra : Value} {ta1 ta2 ta3 ta4 : Tok} {xb db : Addr} {kb1 kb2 kb3 kb4 kb5 : Tok} {wb hb x2 y2 : Int} {rb : Value} {tb1 tb2 tb3 tb4 : Tok} {nb : Nat} :
    (hd.heap_39 w.params).In h₀ → Below A₀ base outer h₀ → Top hd.view_39 (looseW hd.view_39 [Str.ofString "Rectangle"]) mean mg mb h₀ → A.frames = some (env :: outer) → env.frame = some L → env.scope.kind = .function → A.depth + 60 < recursionLimit → A.handled = none →
    Fr h₀ L s.heap m → News h₀ L s.heap ((da, dictOf (rectEs w.params ka1 ka2 ka3 ka4 ka5 (.int wa ta1) (.int ha ta2) (.int x1 ta3) (.int y1 ta4) ra) 5) :: rest) →
    (xa, instObj 196 da) ∈ rest → (xb, instObj 196 db) ∈ rest → (db, dictOf (rectEs w.params kb1 kb2 kb3 kb4 kb5 (.int wb tb1) (.int hb tb2) (.int x2 tb3) (.int y2 tb4) rb) nb) ∈ rest → (∀ p ∈ rest, p.1 ≠ da) →
    (∀ r x' y' w' k', joinV x1 y1 wa ha x2 y2 wb hb = (r, x', y', w', k') → ∀ t1 t2 t3 t4 h' tk, Fr h₀ L h' m →
      News h₀ L h' ((da, dictOf (rectEs w.params ka1 ka2 ka3 ka4 ka5 (.int w' t1) (.int k' t2) (.int x' t3) (.int y' t4) ra) 5) :: rest) → Q (.bool r) { s with heap := h', toks := tk }) →
    wpAny (model PySem.Challenge.rw_kx0087_01.row.prog w) A (PySem.call (.ref 193) [.ref xa, .ref xb]) Q E s := by
  k_fill
  intro X B T hA hf hk hroom hh F N hxa hxb hdb hne hQ
  rcases hv1 : containsB x1 y1 wa ha x2 y2 wb hb with _ | _
  · rcases hv2 : containsB x2 y2 wb hb x1 y1 wa ha with _ | _
    · rcases hv3 : touchB x1 y1 wa ha x2 y2 wb hb with _ | _
      · k_steps
        exact hQ _ _ _ _ _ (joinV_3 hv1 hv2 hv3) _ _ _ _ _ _ (by assumption) (by assumption)
      · k_steps
        all_goals first
          | exact hQ _ _ _ _ _ (joinV_4 hv1 hv2 hv3 (by omega)) _ _ _ _ _ _ (by assumption) (by assumption)
          | exact hQ _ _ _ _ _ (joinV_5 hv1 hv2 hv3 (by omega) (by omega)) _ _ _ _ _ _ (by assumption) (by assumption)
          | exact hQ _ _ _ _ _ (joinV_6 hv1 hv2 hv3 (by omega) (by omega)) _ _ _ _ _ _ (by assumption) (by assumption)
    · k_steps
      exact hQ _ _ _ _ _ (joinV_2 hv1 hv2) _ _ _ _ _ _ (by assumption) (by assumption)
  · k_steps
    exact hQ _ _ _ _ _ (joinV_1 hv1) _ _ _ _ _ _ (by assumption) (by assumption)
end
section
/-- the pairs of a rectangle of ints, column by column -/
def row (i a2 : Int) (n : Nat) : List (Int × Int) := List.map (fun j : Nat => (i, a2 + (j : Int))) (List.range n)
def sq (a1 a2 : Int) (n1 n2 : Nat) : List (Int × Int) := List.flatMap (fun k : Nat => row (a1 + (k : Int)) a2 n2) (List.range n1)
theorem row_succ (i a2 : Int) (n : Nat) : row i a2 (n + 1) = row i a2 n ++ [(i, a2 + (n : Int))] := by simp [row, List.range_succ]
theorem sq_succ (a1 a2 : Int) (n1 n2 : Nat) : sq a1 a2 (n1 + 1) n2 = sq a1 a2 n1 n2 ++ row (a1 + (n1 : Int)) a2 n2 := by simp [sq, List.range_succ]
theorem row_length (i a2 : Int) (n : Nat) : (row i a2 n).length = n := by simp [row]
theorem sq_length (a1 a2 : Int) (n1 n2 : Nat) : (sq a1 a2 n1 n2).length = n1 * n2 := by
  induction n1 with
  | zero => simp [sq]
  | succ n ih => rw [sq_succ, List.length_append, ih, row_length, Nat.succ_mul]
abbrev tupO (i : Int) (t : Tok) (j : Int) (u : Tok) : Obj := { cls := .type "tuple", data := .seq #[.int i t, .int j u] }
def TupIn (tl : List (Addr × Obj)) (v : Value) (p : Int × Int) : Prop := ∃ a t u, v = .ref a ∧ (a, tupO p.1 t p.2 u) ∈ tl
theorem TupIn.mono {tl tl' : List (Addr × Obj)} (hs : ∀ p ∈ tl, p ∈ tl') {v : Value} {p : Int × Int} (h : TupIn tl v p) : TupIn tl' v p := let ⟨a, t, u, e, hm⟩ := h; ⟨a, t, u, e, hs _ hm⟩
theorem paired_imp {α β : Type} {F G : α → β → Prop} (hi : ∀ a b, F a b → G a b) : ∀ {l : List α} {l' : List β}, Paired F l l' → Paired G l l'
  | _, _, .nil => .nil
  | _, _, .cons h r => .cons (hi _ _ h) (paired_imp hi r)

structure In2 (h₀ : Heap) (L : Nat) (m : Str → Option Value) (news : List (Addr × Obj)) (C D : Nat) (ps : List (Int × Int)) (tl : List (Addr × Obj)) (ys : List Value) (m₂ : Str → Option Value) (h : Heap) : Prop where
  F : Fr h₀ L h m
  ns : h.Ns C m₂
  N : News h₀ L h ((D, LCg.lst ys) :: (tl ++ news))
  off : ∀ p ∈ tl, C < p.1
  low : ∀ p ∈ news, p.1 < D
  pr : Paired (TupIn tl) ys ps

section
variable {prog : Program} {w : World} {A : Around} {E : Value → Shared → Prop} {R : Result → Shared → Prop} {s : Shared} {env : Env} {h₀ : Heap} {L : Nat} {m : Str → Option Value} {news : List (Addr × Obj)}

theorem compTurn_two0 (elt t1 it1 t2 it2 : Expr) (scope : Scope) (pos : Pos) (it acc : Value) (env : Env) :
    compTurn (.ListComp elt [⟨t1, it1, [], 0⟩, ⟨t2, it2, [], 0⟩] scope pos) 0 it acc env = (standAt it1.pos >>= fun _ => pyNext it >>= fun r => match r with
      | none => pure (.done .next)
      | some v => letOwnedTupleGo t1 it v >>= fun _ => assign t1 env v >>= fun _ =>
        eval it2 env >>= fun x => standAt it2.pos >>= fun _ => foldedSetIterable it2 env x >>= fun x' => holding [x'] (pyIter x') >>= fun it' => runOwn (.compStart (.ListComp elt [⟨t1, it1, [], 0⟩, ⟨t2, it2, [], 0⟩] scope pos) 1 it' acc env) env >>= fun _ =>
          again (.compLoop (.ListComp elt [⟨t1, it1, [], 0⟩, ⟨t2, it2, [], 0⟩] scope pos) 0 it acc env)) := by rfl
theorem compTurn_two1 (elt t1 it1 t2 it2 : Expr) (scope : Scope) (pos : Pos) (it acc : Value) (env : Env) :
    compTurn (.ListComp elt [⟨t1, it1, [], 0⟩, ⟨t2, it2, [], 0⟩] scope pos) 1 it acc env = (standAt it2.pos >>= fun _ => pyNext it >>= fun r => match r with
      | none => pure (.done .next)
      | some v => letOwnedTupleGo t2 it v >>= fun _ => assign t2 env v >>= fun _ =>
        (eval elt env >>= fun x => PySem.call (.builtin "list.append") [acc, x] >>= fun _ => pure ()) >>= fun _ =>
          again (.compLoop (.ListComp elt [⟨t1, it1, [], 0⟩, ⟨t2, it2, [], 0⟩] scope pos) 1 it acc env)) := by rfl

theorem compStart_two1 {elt t1 it1 t2 it2 scope pos it acc env}
    (h0 : codeAny (model prog w) A (.compLoop (.ListComp elt [⟨t1, it1, [], 0⟩, ⟨t2, it2, [], 0⟩] scope pos) 1 it acc env) R s)
    (h : wpAny (model prog w) A (pyIter it) (fun it' s' => codeAny (model prog w) A (.compLoop (.ListComp elt [⟨t1, it1, [], 0⟩, ⟨t2, it2, [], 0⟩] scope pos) 1 it' acc env) R s')
      (notedBy (model prog w) A env fun x s' => R (.error x) s') s) :
    codeAny (model prog w) A (.compStart (.ListComp elt [⟨t1, it1, [], 0⟩, ⟨t2, it2, [], 0⟩] scope pos) 1 it acc env) R s := by
  refine codeAny_of_tree ?_
  show wpAny _ _ ((compStart (.ListComp elt [⟨t1, it1, [], 0⟩, ⟨t2, it2, [], 0⟩] scope pos) 1 it acc env).onRaise (fun x => do noteFrame x env; standAt theWindowsPlace)) _ _ s
  refine wpAny_notedAt ?_
  unfold compStart
  show wpAny _ _ (ask >>= _) _ _ s
  refine wpAny_bind (wpAny_askSetting (wpAny_ite ?_))
  split
  · first
      | exact wpAny_bind (wpAny_pure (wpAny_pure (And.intro rfl h0)))
      | exact wpAny_pure (And.intro rfl h0)
  · first
      | exact wpAny_bind (wpAny_rule (wpAny_bind (wpAny_standAt (wpAny_bind (wpAny_mono h (fun it' s' h' => wpAny_pure (And.intro rfl h')) fun _ _ x => x)))))
      | (refine wpAny_bind (wpAny_rule ?_); show wpAny _ _ (standAt it2.pos >>= _) _ _ s; exact wpAny_bind (wpAny_standAt (wpAny_bind (wpAny_mono h (fun it' s' h' => wpAny_pure (And.intro rfl h')) fun _ _ x => x))))

/-- the element of a turn: a fresh pair of the two loop names -/
def EltOk (prog : Program) (w : World) (A : Around) (env : Env) (elt : Expr) (x1 x2 : Str) (scope : Scope) (cl : List (Str × Addr)) : Prop :=
  ∀ (s : Shared) (C : Addr) (m₂ : Str → Option Value) (i : Int) (t : Tok) (j : Int) (u : Tok) (E' : Value → Shared → Prop), s.heap.Ns C m₂ → m₂ x1 = some (.int i t) → m₂ x2 = some (.int j u) →
    wpAny (model prog w) A (eval elt (compEnvC scope cl C env)) (fun y s' => ∃ (a : Nat) (h' : Heap) (tk' : Nat), y = .ref a ∧ s' = { s with heap := h', toks := tk' } ∧ (∀ b o, s.heap.get? b = some o → h'.get? b = some o) ∧ h'.get? a = some (tupO i t j u) ∧ s.heap.objs.size ≤ a) E' s

theorem two_inner {elt it1 it2 : Expr} {x1 x2 : Str} {p1 p2 : Pos} {scope : Scope} {cl : List (Str × Addr)} {pos : Pos} {I I1 C D : Nat} {oI : Obj} {i a2 : Int} {t1 : Tok} {n2 : Nat} {ps : List (Int × Int)} {tl : List (Addr × Obj)} {ys : List Value} {m₂ : Str → Option Value}
    (hkind : scope.kind = .function) (hh : A.handled = none) (hx1 : scope.names.lookup x1 = some .local) (hx2 : scope.names.lookup x2 = some .local) (hxx : x1 ≠ x2) (helt : EltOk prog w A env elt x1 x2 scope cl)
    (hLI : L < I) (hID : I < D) (hDC : D < C) (hCI : C < I1) (inv : In2 h₀ L m news C D ps tl ys m₂ s.heap) (hm1 : m₂ x1 = some (.int i t1)) (hit : IsRangeIter s.heap I1 a2 (n2 : Int) 1) (hI1 : ∀ p ∈ tl, p.1 ≠ I1) (hI : s.heap.get? I = some oI)
    (hlen : ps.length + n2 ≤ sizeLine)
    (hR : ∀ tl' ys' m₂' h' tk, In2 h₀ L m news C D (ps ++ row i a2 n2) tl' ys' m₂' h' → h'.get? I = some oI → R (.ok .next) { s with heap := h', toks := tk }) :
    codeAny (model prog w) A (.compLoop (.ListComp elt [⟨.Name x1 p1, it1, [], 0⟩, ⟨.Name x2 p2, it2, [], 0⟩] scope pos) 1 (.ref I1) (.ref D) (compEnvC scope cl C env)) R s := by
  refine codeAny_loop rfl (fun k s' => ∃ h' tk j tl' ys' m', s' = { s with heap := h', toks := tk } ∧ j ≤ n2 ∧ k = n2 + 1 - j ∧ In2 h₀ L m news C D (ps ++ row i a2 j) tl' ys' m' h' ∧ m' x1 = some (.int i t1) ∧
    IsRangeIter h' I1 (a2 + (j : Int)) ((n2 : Int) - (j : Int)) 1 ∧ (∀ p ∈ tl', p.1 ≠ I1) ∧ h'.get? I = some oI) ?_ (n2 + 1)
    ⟨s.heap, s.toks, 0, tl, ys, m₂, rfl, Nat.zero_le _, rfl, by simpa [row] using inv, hm1, by simpa using hit, hI1, hI⟩
  rintro k s' ⟨h', tk, j, tl', ys', m', rfl, hj, rfl, inv', hm', hit', hI1', hI'⟩
  show wpAny _ A ((compTurn (.ListComp elt [⟨.Name x1 p1, it1, [], 0⟩, ⟨.Name x2 p2, it2, [], 0⟩] scope pos) 1 (.ref I1) (.ref D) (compEnvC scope cl C env)).onRaise (fun x => do noteFrame x (compEnvC scope cl C env); theTreesLotGoes x)) _ _ _
  refine wpAny_noted ?_
  rw [compTurn_two1]
  refine wpAny_bind (wpAny_standAt (wpAny_bind ?_))
  have hLs : h₀.objs.size ≤ L := inv'.F.above
  have none₀ : ∀ a : Nat, L ≤ a → h₀.get? a = none := fun a ha => Heap.get?_none_of_le (Nat.le_trans hLs ha)
  have off1 : ∀ p ∈ (D, LCg.lst ys') :: (tl' ++ news), p.1 ≠ I1 := fun p hp => by
    rcases List.mem_cons.mp hp with rfl | hp
    · exact Nat.ne_of_lt (Nat.lt_trans hDC hCI)
    · rcases List.mem_append.mp hp with hp | hp
      · exact hI1' p hp
      · have := inv'.low p hp
        exact Nat.ne_of_lt (Nat.lt_trans this (Nat.lt_trans hDC hCI))
  by_cases hlt : j < n2
  · refine wpAny_pyNext_range_item hit' (by omega) fun h2 hit2 hs2 => ?_
    refine wpAny_bind (wpAny_of_eq (a := ()) (by rfl) ?_)
    have ns2 : h2.Ns C m' := inv'.ns.sameBut hs2 (Nat.ne_of_lt hCI)
    refine wpAny_bind (wpAny_assign_Name (wpAny_storeName_local (env := compEnvC scope cl C env) (lookup_relabel_local hx2) ns2 (fun h3 hn3 hs3 => ?_) (by simp [compEnvC, relabel, hkind])))
    have F2 : Fr h₀ L h2 m := inv'.F.change hs2 (by show I1 ≠ L; omega) (none₀ I1 (by omega))
    have F3 : Fr h₀ L h3 m := F2.change hs3 (by show C ≠ L; omega) (none₀ C (by omega))
    have N2 : News h₀ L h2 ((D, LCg.lst ys') :: (tl' ++ news)) := fun p hp => ⟨hs2.extBut _ _ (off1 p hp) (inv'.N p hp).1, (inv'.N p hp).2⟩
    have offC : ∀ p ∈ (D, LCg.lst ys') :: (tl' ++ news), p.1 ≠ C := fun p hp => by
      rcases List.mem_cons.mp hp with rfl | hp
      · exact Nat.ne_of_lt hDC
      · rcases List.mem_append.mp hp with hp | hp
        · exact Nat.ne_of_gt (inv'.off p hp)
        · exact Nat.ne_of_lt (Nat.lt_trans (inv'.low p hp) hDC)
    have N3 : News h₀ L h3 ((D, LCg.lst ys') :: (tl' ++ news)) := fun p hp => ⟨hs3.extBut _ _ (offC p hp) (N2 p hp).1, (N2 p hp).2⟩
    have hit3 : IsRangeIter h3 I1 (a2 + (j : Int) + 1) ((n2 : Int) - (j : Int) - 1) 1 := hs3.extBut _ _ (by show I1 ≠ C; omega) hit2
    have hI3 : h3.get? I = some oI := hs3.extBut _ _ (by show I ≠ C; omega) (hs2.extBut _ _ (by show I ≠ I1; omega) hI')
    refine wpAny_bind (wpAny_bind (wpAny_mono (helt _ C _ i t1 (a2 + (j : Int)) tk _ hn3 (by show (if x1 = x2 then _ else _) = _; rw [if_neg hxx]; exact hm') (by simp)) (fun y s4 h4 => ?_) fun _ _ e => e))
    obtain ⟨a, h4, tk4, rfl, rfl, hk4, ha4, hsz4⟩ := h4
    have F4 : Fr h₀ L h4 m := F3.keeps hk4
    have N4 : News h₀ L h4 ((D, LCg.lst ys') :: (tl' ++ news)) := N3.grown hk4
    have hsz3 : ∀ (b : Nat) (o : Obj), h3.get? b = some o → b < a := fun b o e => Nat.lt_of_lt_of_le (Heap.lt_size e) hsz4
    have hCa : C < a := by obtain ⟨o, e, _⟩ := LCg.ns_obj hn3; exact hsz3 _ _ e
    have hIa : I1 < a := hsz3 _ _ hit3
    have hylen : ys'.length = ps.length + j := by
      have := inv'.pr.length
      rw [List.length_append, row_length] at this; exact this
    refine wpAny_bind (append_at (hsz := by show ys'.toArray.size ≤ sizeLine; rw [List.size_toArray, hylen]; omega) (N4 _ List.mem_cons_self).1 fun h5 hs5 hD5 => ?_)
    refine wpAny_pure (wpAny_pure ⟨rfl, n2 + 1 - (j + 1), by omega, h5, tk4, j + 1, (a, tupO i t1 (a2 + (j : Int)) tk) :: tl', ys' ++ [.ref a], (fun y => if y = x2 then some (.int (a2 + (j : Int)) tk) else m' y), rfl, hlt, rfl, ?_, ?_, ?_, ?_, ?_⟩)
    rotate_left
    · show (if x1 = x2 then _ else _) = _
      rw [if_neg hxx]; exact hm'
    · have e := hs5.extBut _ _ (by show I1 ≠ D; omega) (hk4 _ _ hit3)
      have e1 : (a2 + ((j + 1 : Nat) : Int)) = a2 + (j : Int) + 1 := by push_cast; omega
      have e2 : ((n2 : Int) - ((j + 1 : Nat) : Int)) = (n2 : Int) - (j : Int) - 1 := by push_cast; omega
      rw [e1, e2]; exact e
    · intro p hp
      rcases List.mem_cons.mp hp with rfl | hp
      · exact Nat.ne_of_gt hIa
      · exact hI1' p hp
    · exact hs5.extBut _ _ (by show I ≠ D; omega) (hk4 _ _ hI3)
    · refine ⟨F4.change hs5 (by show D ≠ L; omega) (none₀ D (by omega)), (hn3.keeps hk4).sameBut hs5 (by show C ≠ D; omega), ?_, ?_, inv'.low, ?_⟩
      · intro p hp
        rcases List.mem_cons.mp hp with rfl | hp
        · exact ⟨hD5.trans (congrArg some (LCg.lst_snoc ys' _)), by show D ≠ L; omega, none₀ D (by omega)⟩
        · rcases List.mem_append.mp hp with hp | hp
          · rcases List.mem_cons.mp hp with rfl | hp
            · exact ⟨hs5.extBut _ _ (by show a ≠ D; omega) ha4, by show a ≠ L; omega, none₀ a (by omega)⟩
            · have z := N4 p (List.mem_cons_of_mem _ (List.mem_append.mpr (.inl hp)))
              have q : p.1 ≠ D := by have := inv'.off p hp; have : D < p.1 := Nat.lt_trans hDC this; exact Nat.ne_of_gt this
              exact ⟨hs5.extBut _ _ q z.1, z.2⟩
          · have z := N4 p (List.mem_cons_of_mem _ (List.mem_append.mpr (.inr hp)))
            exact ⟨hs5.extBut _ _ (Nat.ne_of_lt (inv'.low p hp)) z.1, z.2⟩
      · intro p hp
        rcases List.mem_cons.mp hp with rfl | hp
        · exact hCa
        · exact inv'.off p hp
      · rw [row_succ, ← List.append_assoc]
        exact Paired.snoc (paired_imp (fun _ _ => TupIn.mono fun q hq => List.mem_cons_of_mem _ hq) inv'.pr) ⟨a, t1, tk, rfl, List.mem_cons_self⟩
  · obtain rfl : j = n2 := by omega
    refine wpAny_pyNext_range_end hh hit' (by omega) fun h2 he2 => ?_
    refine wpAny_pure (hR tl' ys' m' h2 tk ⟨?_, inv'.ns.extBut he2 (by show C ≠ I1; omega), ?_, inv'.off, inv'.low, inv'.pr⟩ (he2 _ _ (by show I ≠ I1; omega) hI'))
    · exact LCg.fr_but (I := I1) inv'.F (fun b o hb e => he2 b o (by simpa using hb) e) (by show L ≠ I1; omega) (none₀ I1 (by omega))
    · exact LCg.news_but (I := I1) inv'.N (fun b o hb e => he2 b o (by simpa using hb) e) off1

/-- the second clause's iterable, at whatever turn: a fresh range -/
def It2Ok (prog : Program) (w : World) (A : Around) (h₀ : Heap) (L : Nat) (m : Str → Option Value) (news : List (Addr × Obj)) (env : Env) (it2 : Expr) (scope : Scope) (cl : List (Str × Addr)) (a2 : Int) (n2 : Nat) : Prop :=
  ∀ (s : Shared) (C : Nat) (oC : Obj) (m₂ : Str → Option Value) (ent : List (Addr × Obj)) (E' : Value → Shared → Prop), LCg.NsObj oC m₂ → (C, oC) ∈ ent → (∀ p ∈ news, p ∈ ent) → Fr h₀ L s.heap m → News h₀ L s.heap ent →
    wpAny (model prog w) A (eval it2 (compEnvC scope cl C env)) (fun xv s' => ∃ (r : Nat) (t u v : Tok) (h' : Heap) (tk' : Nat), xv = .ref r ∧ s' = { s with heap := h', toks := tk' } ∧ IsRange h' r a2 (a2 + (n2 : Int)) 1 t u v ∧ Fr h₀ L h' m ∧ News h₀ L h' ent) E' s

theorem two_outer {elt it1 it2 : Expr} {x1 x2 : Str} {p1 p2 : Pos} {scope : Scope} {cl : List (Str × Addr)} {pos : Pos} {I C D : Nat} {a1 a2 : Int} {n1 n2 : Nat} {m₂ : Str → Option Value}
    (hkind : scope.kind = .function) (hh : A.handled = none) (hx1 : scope.names.lookup x1 = some .local) (hx2 : scope.names.lookup x2 = some .local) (hxx : x1 ≠ x2) (helt : EltOk prog w A env elt x1 x2 scope cl)
    (hs2 : ∀ x, foldedSetIterable it2 (compEnvC scope cl C env) x = pure x) (hit2 : It2Ok prog w A h₀ L m news env it2 scope cl a2 n2)
    (hsm2 : Builtin.Range.small a2 (a2 + (n2 : Int)) 1 = true) (hsz2 : Builtin.Range.rangeSize a2 (a2 + (n2 : Int)) 1 = (n2 : Int))
    (hLI : L < I) (hID : I < D) (hDC : D < C) (hnI : ∀ p ∈ news, p.1 < I) (inv : In2 h₀ L m news C D [] [] [] m₂ s.heap) (hit : IsRangeIter s.heap I a1 (n1 : Int) 1)
    (hlen : n1 * n2 ≤ sizeLine)
    (hR : ∀ tl' ys' m₂' h' tk, In2 h₀ L m news C D (sq a1 a2 n1 n2) tl' ys' m₂' h' → R (.ok .next) { s with heap := h', toks := tk }) :
    codeAny (model prog w) A (.compLoop (.ListComp elt [⟨.Name x1 p1, it1, [], 0⟩, ⟨.Name x2 p2, it2, [], 0⟩] scope pos) 0 (.ref I) (.ref D) (compEnvC scope cl C env)) R s := by
  refine codeAny_loop rfl (fun k s' => ∃ h' tk j tl' ys' m', s' = { s with heap := h', toks := tk } ∧ j ≤ n1 ∧ k = n1 + 1 - j ∧ In2 h₀ L m news C D (sq a1 a2 j n2) tl' ys' m' h' ∧
    IsRangeIter h' I (a1 + (j : Int)) ((n1 : Int) - (j : Int)) 1) ?_ (n1 + 1)
    ⟨s.heap, s.toks, 0, [], [], m₂, rfl, Nat.zero_le _, rfl, by simpa [sq] using inv, by simpa using hit⟩
  rintro k s' ⟨h', tk, j, tl', ys', m', rfl, hj, rfl, inv', hit'⟩
  show wpAny _ A ((compTurn (.ListComp elt [⟨.Name x1 p1, it1, [], 0⟩, ⟨.Name x2 p2, it2, [], 0⟩] scope pos) 0 (.ref I) (.ref D) (compEnvC scope cl C env)).onRaise (fun x => do noteFrame x (compEnvC scope cl C env); theTreesLotGoes x)) _ _ _
  refine wpAny_noted ?_
  rw [compTurn_two0]
  refine wpAny_bind (wpAny_standAt (wpAny_bind ?_))
  have hLs : h₀.objs.size ≤ L := inv'.F.above
  have none₀ : ∀ a : Nat, L ≤ a → h₀.get? a = none := fun a ha => Heap.get?_none_of_le (Nat.le_trans hLs ha)
  have offI : ∀ p ∈ (D, LCg.lst ys') :: (tl' ++ news), p.1 ≠ I := fun p hp => by
    rcases List.mem_cons.mp hp with rfl | hp
    · exact Nat.ne_of_gt hID
    · rcases List.mem_append.mp hp with hp | hp
      · exact Nat.ne_of_gt (Nat.lt_trans (Nat.lt_trans hID hDC) (inv'.off p hp))
      · exact Nat.ne_of_lt (hnI p hp)
  have offC : ∀ p ∈ (D, LCg.lst ys') :: (tl' ++ news), p.1 ≠ C := fun p hp => by
    rcases List.mem_cons.mp hp with rfl | hp
    · exact Nat.ne_of_lt hDC
    · rcases List.mem_append.mp hp with hp | hp
      · exact Nat.ne_of_gt (inv'.off p hp)
      · exact Nat.ne_of_lt (Nat.lt_trans (inv'.low p hp) hDC)
  by_cases hlt : j < n1
  · refine wpAny_pyNext_range_item hit' (by omega) fun h2 hit2' hs2' => ?_
    refine wpAny_bind (wpAny_of_eq (a := ()) (by rfl) ?_)
    have ns2 : h2.Ns C m' := inv'.ns.sameBut hs2' (by show C ≠ I; omega)
    refine wpAny_bind (wpAny_assign_Name (wpAny_storeName_local (env := compEnvC scope cl C env) (lookup_relabel_local hx1) ns2 (fun h3 hn3 hs3 => ?_) (by simp [compEnvC, relabel, hkind])))
    have F2 : Fr h₀ L h2 m := inv'.F.change hs2' (by show I ≠ L; omega) (none₀ I (by omega))
    have F3 : Fr h₀ L h3 m := F2.change hs3 (by show C ≠ L; omega) (none₀ C (by omega))
    have N2 : News h₀ L h2 ((D, LCg.lst ys') :: (tl' ++ news)) := fun p hp => ⟨hs2'.extBut _ _ (offI p hp) (inv'.N p hp).1, (inv'.N p hp).2⟩
    have hit3 : IsRangeIter h3 I (a1 + (j : Int) + 1) ((n1 : Int) - (j : Int) - 1) 1 := hs3.extBut _ _ (by show I ≠ C; omega) hit2'
    obtain ⟨oC, eC, nsC⟩ := LCg.ns_obj hn3
    have eI := hit3
    unfold IsRangeIter at eI
    have N3 : News h₀ L h3 ((I, _) :: (C, oC) :: (D, LCg.lst ys') :: (tl' ++ news)) := fun p hp => by
      rcases List.mem_cons.mp hp with rfl | hp
      · exact ⟨eI, by show I ≠ L; omega, none₀ I (by omega)⟩
      · rcases List.mem_cons.mp hp with rfl | hp
        · exact ⟨eC, by show C ≠ L; omega, none₀ C (by omega)⟩
        · exact ⟨hs3.extBut _ _ (offC p hp) (N2 p hp).1, (N2 p hp).2⟩
    refine wpAny_bind (wpAny_mono (hit2 _ C oC _ _ _ nsC (List.mem_cons_of_mem _ List.mem_cons_self) (fun p hp => List.mem_cons_of_mem _ (List.mem_cons_of_mem _ (List.mem_cons_of_mem _ (List.mem_append.mpr (.inr hp))))) F3 N3) (fun xv s4 h4 => ?_) fun _ _ e => e)
    obtain ⟨r, t, u, v, h4, tk4, rfl, rfl, hr4, F4, N4⟩ := h4
    refine wpAny_bind (wpAny_standAt (wpAny_bind (wpAny_of_eq (hs2 _) ?_)))
    refine wpAny_bind (wpAny_holding (wpAny_pyIter_range hr4 hsm2 ?_))
    refine wpAny_bind (wpAny_onRaise (wpAny_run ?_))
    rw [hsz2]
    have zC := (N4 (C, oC) (List.mem_cons_of_mem _ List.mem_cons_self)).1
    have zI := (N4 _ List.mem_cons_self).1
    have up : ∀ (o : Obj) b x, h4.get? b = some x → (h4.push o).get? b = some x := fun o b x e => Heap.get?_push_of_some _ e
    have N4' : News h₀ L h4 ((D, LCg.lst ys') :: (tl' ++ news)) := fun p hp => N4 p (List.mem_cons_of_mem _ (List.mem_cons_of_mem _ hp))
    have loop := two_inner (R := fun r s' => match r with
        | .ok f => wpAny (model prog w) A (again (.compLoop (.ListComp elt [⟨.Name x1 p1, it1, [], 0⟩, ⟨.Name x2 p2, it2, [], 0⟩] scope pos) 0 (.ref I) (.ref D) (compEnvC scope cl C env))) (fun fin s' => match fin with | .done f => R (.ok f) s' | .again c' => c' = (.compLoop (.ListComp elt [⟨.Name x1 p1, it1, [], 0⟩, ⟨.Name x2 p2, it2, [], 0⟩] scope pos) 0 (.ref I) (.ref D) (compEnvC scope cl C env)) ∧ ∃ m_1, m_1 < n1 + 1 - j ∧ ∃ h' tk j tl' ys' m', s' = { s with heap := h', toks := tk } ∧ j ≤ n1 ∧ m_1 = n1 + 1 - j ∧ In2 h₀ L m news C D (sq a1 a2 j n2) tl' ys' m' h' ∧ IsRangeIter h' I (a1 + (j : Int)) ((n1 : Int) - (j : Int)) 1) (notedBy (model prog w) A (compEnvC scope cl C env) fun e s' => R (.error e) s') s'
        | .error _ => False) (s := { s with heap := h4.push { cls := .type "range_iterator", data := .fields #[rawInt a2, rawInt (n2 : Int), rawInt 1] }, toks := tk4 }) (elt := elt) (it1 := it1) (it2 := it2) (p1 := p1) (p2 := p2) (pos := pos) (I1 := h4.objs.size) (n2 := n2) (a2 := a2) (t1 := tk) (i := a1 + (j : Int)) (m₂ := fun y => if y = x1 then some (.int (a1 + (j : Int)) tk) else m' y)
        hkind hh hx1 hx2 hxx helt hLI hID hDC (Heap.lt_size zC) (ps := sq a1 a2 j n2) (tl := tl') (ys := ys')
        ⟨F4.push _, (nsC.ns zC).keeps (up _), N4'.grown (up _), inv'.off, inv'.low, inv'.pr⟩ (by simp) (Heap.get?_push_size _ rfl)
        (fun p hp => Nat.ne_of_lt (Heap.lt_size (N4' p (List.mem_cons_of_mem _ (List.mem_append.mpr (.inl hp)))).1)) (up _ _ _ zI)
        (by rw [sq_length, ← Nat.succ_mul]; exact Nat.le_trans (Nat.mul_le_mul_right _ hlt) hlen)
        (fun tl'' ys'' m'' h'' tk'' inv'' hI'' => ?_)
    · exact codeAny_mono (compStart_two1 (R := _) loop (wpAny_pyIter_rangeiter (Heap.get?_push_size _ rfl) loop)) fun r s' hr => by
        cases r with
        | ok f => exact hr
        | error e => exact hr.elim
    · have e1 : (a1 + ((j + 1 : Nat) : Int)) = a1 + (j : Int) + 1 := by push_cast; omega
      have e2 : ((n1 : Int) - ((j + 1 : Nat) : Int)) = (n1 : Int) - (j : Int) - 1 := by push_cast; omega
      exact wpAny_pure ⟨rfl, n1 + 1 - (j + 1), by omega, h'', tk'', j + 1, tl'', ys'', m'', rfl, hlt, rfl, by rw [sq_succ]; exact inv'', by rw [e1, e2]; exact hI''⟩
  · obtain rfl : j = n1 := by omega
    refine wpAny_pyNext_range_end hh hit' (by omega) fun h2 he2 => ?_
    refine wpAny_pure (hR tl' ys' m' h2 tk ⟨?_, inv'.ns.extBut he2 (by show C ≠ I; omega), ?_, inv'.off, inv'.low, inv'.pr⟩)
    · exact LCg.fr_but (I := I) inv'.F (fun b o hb e => he2 b o (by simpa using hb) e) (by show L ≠ I; omega) (none₀ I (by omega))
    · exact LCg.news_but (I := I) inv'.N (fun b o hb e => he2 b o (by simpa using hb) e) offI

/-- a comprehension over two ranges, the second the same at each turn of the first -/
theorem ListComp_two {elt it1 it2 : Expr} {x1 x2 : Str} {p1 p2 : Pos} {scope : Scope} {cl : List (Str × Addr)} {pos : Pos} {a1 a2 : Int} {n1 n2 : Nat} {Q : Value → Shared → Prop} (_F : Fr h₀ L s.heap m) (_N : News h₀ L s.heap news)
    (hh : A.handled = none) (hclos : closureFor scope env = pure cl) (hcell : ∀ y ∈ scope.names, y.2 ≠ .cell) (hkind : scope.kind = .function)
    (hnames : ∀ y ∈ scope.names, y.2 = .local → scope.names.lookup y.1 = some .local) (hx1 : scope.names.lookup x1 = some .local) (hx2 : scope.names.lookup x2 = some .local) (hxx : x1 ≠ x2)
    (hs1 : ∀ x, foldedSetIterable it1 env x = pure x) (hs2 : ∀ C x, foldedSetIterable it2 (compEnvC scope cl C env) x = pure x)
    (hsm1 : Builtin.Range.small a1 (a1 + (n1 : Int)) 1 = true) (hsz1 : Builtin.Range.rangeSize a1 (a1 + (n1 : Int)) 1 = (n1 : Int))
    (hsm2 : Builtin.Range.small a2 (a2 + (n2 : Int)) 1 = true) (hsz2 : Builtin.Range.rangeSize a2 (a2 + (n2 : Int)) 1 = (n2 : Int)) (hlen : n1 * n2 ≤ sizeLine)
    (helt : EltOk prog w A env elt x1 x2 scope cl) (hit2 : It2Ok prog w A h₀ L m news env it2 scope cl a2 n2)
    (h : wpAny (model prog w) A (eval it1 env) (fun xv s' => ∃ (r : Nat) (t u v : Tok) (h' : Heap) (tk' : Nat), xv = .ref r ∧ s' = { s with heap := h', toks := tk' } ∧ IsRange h' r a1 (a1 + (n1 : Int)) 1 t u v ∧ Fr h₀ L h' m ∧ News h₀ L h' news) E s)
    (hQ : ∀ (D : Nat) tl ys h' tk, Fr h₀ L h' m → News h₀ L h' ((D, LCg.lst ys) :: (tl ++ news)) → Paired (TupIn tl) ys (sq a1 a2 n1 n2) → (∀ p ∈ news, p.1 < D) → (∀ p ∈ tl, D < p.1) → Q (.ref D) { s with heap := h', toks := tk }) :
    wpAny (model prog w) A (eval (.ListComp elt [⟨.Name x1 p1, it1, [], 0⟩, ⟨.Name x2 p2, it2, [], 0⟩] scope pos) env) Q E s := by
  rw [eval_ListComp]
  refine wpAny_comprehension_free (use := none) rfl hs1 hclos hkind hnames (wpAny_mono h (fun xv s₁ h₁ => ?_) fun _ _ e => e)
  obtain ⟨r, t, u, v, h1, tk1, rfl, rfl, hr, F, N⟩ := h₁
  refine wpAny_pyIter_range hr hsm1 ?_
  rw [hsz1]
  have up : ∀ (g : Heap) (o : Obj) b x, g.get? b = some x → (g.push o).get? b = some x := fun g o b x e => Heap.get?_push_of_some _ e
  refine wpAny_newObj_type (wpAny_newFunctionEnv hcell (by intro y hy; simp at hy) (fun h₂ hns₂ hsb₂ => ?_) hkind)
  dsimp only at hns₂ hsb₂ ⊢
  have hLs : h₀.objs.size ≤ L := F.above
  have none₀ : ∀ a : Nat, L ≤ a → h₀.get? a = none := fun a ha => Heap.get?_none_of_le (Nat.le_trans hLs ha)
  have hL1 : L < h1.objs.size := F.ns.lt
  generalize hI : h1.push { cls := .type "range_iterator", data := .fields #[rawInt a1, rawInt (n1 : Int), rawInt 1] } = H1 at hns₂ hsb₂ ⊢
  have eI : H1.objs.size = h1.objs.size + 1 := by rw [← hI, Heap.size_push]
  generalize hH2 : H1.push { cls := .type "list", dict := none, data := .seq ([] : List Value).toArray } = H2 at hns₂ hsb₂ ⊢
  have eC : H2.objs.size = H1.objs.size + 1 := by rw [← hH2, Heap.size_push]
  have keep1 : ∀ b o, h1.get? b = some o → H2.get? b = some o := fun b o e => by rw [← hH2, ← hI]; exact up _ _ _ _ (up _ _ _ _ e)
  have keep2 : ∀ b o, b ≠ H2.objs.size → H2.get? b = some o → h₂.get? b = some o := fun b o hb e => hsb₂.extBut b o hb (up _ _ _ _ e)
  have lt2 : ∀ (b : Nat) (o : Obj), h1.get? b = some o → b < h1.objs.size := fun b o e => Heap.lt_size e
  have keep : ∀ b o, h1.get? b = some o → h₂.get? b = some o := fun b o e => keep2 b o (Nat.ne_of_lt (Nat.lt_of_lt_of_le (lt2 b o e) (by omega))) (keep1 b o e)
  have hD : h₂.get? H1.objs.size = some (LCg.lst []) := keep2 _ _ (by show (H1.objs.size : Nat) ≠ _; omega) (by rw [← hH2]; exact Heap.get?_push_size _ rfl)
  have hit : IsRangeIter h₂ h1.objs.size a1 (n1 : Int) 1 := keep2 _ _ (by show (h1.objs.size : Nat) ≠ _; omega) (by rw [← hH2, ← hI]; exact up _ _ _ _ (Heap.get?_push_size _ rfl))
  have loop : ∀ s₃ : Shared, s₃ = { s with heap := h₂, toks := tk1 + ([] : List (Str × Value)).length } →
      codeAny (model prog w) A (.compLoop (.ListComp elt [⟨.Name x1 p1, it1, [], 0⟩, ⟨.Name x2 p2, it2, [], 0⟩] scope pos) 0 (.ref h1.objs.size) (.ref H1.objs.size) (compEnvC scope cl H2.objs.size env))
        (compPost (model prog w) A E none Q (.ref H1.objs.size) H2.objs.size) s₃ := by
    rintro s₃ rfl
    refine two_outer (s := { s with heap := h₂, toks := tk1 + ([] : List (Str × Value)).length }) hkind hh hx1 hx2 hxx helt (hs2 _) hit2 hsm2 hsz2 hL1 (by omega) (by omega) (fun p hp => lt2 _ _ (N p hp).1) (m₂ := fun x => ([] : List (Str × Value)).reverse.lookup x)
      ⟨F.keeps keep, hns₂, fun p hp => ?_, fun _ hp => (nomatch hp), fun p hp => ?_, .nil⟩ hit hlen ?_
    · rcases List.mem_cons.mp hp with rfl | hp
      · exact ⟨hD, by show (H1.objs.size : Nat) ≠ L; omega, none₀ _ (by omega)⟩
      · exact ⟨keep _ _ (N p hp).1, (N p hp).2⟩
    · have := lt2 _ _ (N p hp).1
      exact Nat.lt_of_lt_of_le this (by omega)
    · intro tl' ys' m' h' tk inv
      refine ⟨m', inv.ns, fun h'' hs'' => ?_⟩
      refine hQ _ tl' ys' h'' tk (inv.F.change hs'' (by show (H2.objs.size : Nat) ≠ L; omega) (none₀ _ (by omega))) (fun p hp => ⟨hs''.extBut _ _ ?_ (inv.N p hp).1, (inv.N p hp).2⟩) inv.pr inv.low (fun p hp => ?_)
      · rcases List.mem_cons.mp hp with rfl | hp
        · show (H1.objs.size : Nat) ≠ _; omega
        · rcases List.mem_append.mp hp with hp | hp
          · exact Nat.ne_of_gt (inv.off p hp)
          · exact Nat.ne_of_lt (Nat.lt_trans (inv.low p hp) (by omega))
      · exact Nat.lt_trans (by omega : H1.objs.size < H2.objs.size) (inv.off p hp)
  exact codeAny_compStart_list (loop _ rfl) (wpAny_pyIter_rangeiter hit (loop _ rfl))
end
end
section
theorem size_range {a : Int} {n : Nat} : Builtin.Range.rangeSize a (a + (n : Int)) 1 = (n : Int) := by
  unfold Builtin.Range.rangeSize
  rw [if_pos (by decide)]
  split
  · rw [Int.ediv_one]; omega
  · omega
theorem small_range {a : Int} {n : Nat} (h0 : 0 ≤ a) (h1 : a ≤ 100) (hn : n ≤ 100) : Builtin.Range.small a (a + (n : Int)) 1 = true := by
  unfold Builtin.Range.small
  rw [size_range]
  have f : ∀ i : Int, 0 ≤ i → i ≤ 1000 → Builtin.Range.rangeFitsLong i = true := fun i h h' => by
    unfold Builtin.Range.rangeFitsLong
    simp only [Bool.and_eq_true, decide_eq_true_eq]
    exact ⟨by omega, by omega⟩
  rw [f a h0 (by omega), f (a + n) (by omega) (by omega), f 1 (by omega) (by omega), f n (by omega) (by omega), if_pos (by decide), f (a + n + (1 - 1)) (by omega) (by omega)]
  simp
/-- a display of two of the block's names -/
theorem elt_pair {prog : Program} {w : World} {A : Around} {env : Env} {x1 x2 : Str} {p1 p2 pp : Pos} {k : Nat} {scope : Scope} {cl : List (Str × Addr)} (hk : scope.kind = .function)
    (h1 : scope.names.lookup x1 = some .local) (h2 : scope.names.lookup x2 = some .local) (d1 : (x1 == ("__debug__" : Str)) = false) (d2 : (x2 == ("__debug__" : Str)) = false) :
    EltOk prog w A env (.Tuple [.Name x1 p1, .Name x2 p2] k pp) x1 x2 scope cl := by
  intro s C m₂ i t j u E' ns e1 e2
  refine Tuple_ (spliced_more (ldVarK (C := C) ns e1 (spliced_more (ldVarK (C := C) ns e2 (spliced_none ?_) hk (lookup_relabel_local h2) d2)) hk (lookup_relabel_local h1) d1))
  refine wpAny_newObj_type ⟨_, _, _, rfl, rfl, fun b o e => Heap.get?_push_of_some _ e, Heap.get?_push_size _ rfl, Nat.le_refl _⟩ (by show 2 ≤ sizeLine; decide)
set_option maxRecDepth 100000 in
set_option maxHeartbeats 8000000 in
theorem squares_call {w : World} {A₀ A : Around} {env : Env} {outer : List Env} {base h₀ : Heap} {L : Addr} {m mg mb : Str → Option Value} {mean : ExcName → Option Value} {news : List (Addr × Obj)} {s : Shared} {E : Value → Shared → Prop} {Q : Value → Shared → Prop} {x y : Int} {n1 n2 : Nat} {tx ty tw th : Tok} :
    (hd.heap_39 w.params).In h₀ → Below A₀ base outer h₀ → Top hd.view_39 (looseW hd.view_39 [Str.ofString "Rectangle"]) mean mg mb h₀ → A.frames = some (env :: outer) → env.frame = some L → env.scope.kind = .function → A.depth + 20 < recursionLimit → A.handled = none →
    Fr h₀ L s.heap m → News h₀ L s.heap news →
    0 ≤ x → x ≤ 20 → 0 ≤ y → y ≤ 20 → n1 ≤ 20 → n2 ≤ 20 →
    (∀ (D : Nat) tl ys h' tk, Fr h₀ L h' m → News h₀ L h' ((D, LCg.lst ys) :: (tl ++ news)) → Paired (TupIn tl) ys (sq x y n1 n2) → (∀ p ∈ news, p.1 < D) → (∀ p ∈ tl, D < p.1) → Q (.ref D) { s with heap := h', toks := tk }) →
    wpAny (model PySem.Challenge.rw_kx0087_01.row.prog w) A (PySem.call (.ref 212) [.int x tx, .int y ty, .int (n1 : Int) tw, .int (n2 : Int) th]) Q E s := by
  k_fill
  intro X B T hA hf hk hroom hh F N hx0 hx1 hy0 hy1 hn1 hn2 hQ
  iterate 3 walk1
  refine ListComp_two (n1 := n1) (n2 := n2) (a1 := x) (a2 := y) (by assumption) (by assumption) hh (by with_unfolding_all rfl) (by decide) (by rfl) (by decide) (by rfl) (by rfl) (by decide) (fun _ => by with_unfolding_all rfl) (fun _ _ => by with_unfolding_all rfl) (small_range (by omega) (by omega) (by omega)) size_range (small_range (by omega) (by omega) (by omega)) size_range ?_ (elt_pair (by rfl) (by rfl) (by rfl) (by decide) (by decide)) ?_ ?_ ?_
  · exact Nat.le_trans (Nat.mul_le_mul hn1 hn2) (by decide)
  · intro s C oC m₂ ent E' hC hCm hsub F N
    have c1 := hsub _ List.mem_cons_self
    have c2 := hsub _ (List.mem_cons_of_mem _ List.mem_cons_self)
    k_steps
    all_goals assumption
  · k_steps
    all_goals assumption
  · intro D tl ys h' tk F' N' hp hlow hoff
    k_steps
    rename News _ _ _ _ => NN
    refine hQ D tl ys _ _ (by assumption) (fun p hp' => NN p ?_) hp (fun p hp' => hlow p (List.mem_cons_of_mem _ (List.mem_cons_of_mem _ hp'))) hoff
    rcases List.mem_cons.mp hp' with rfl | hp'
    · exact List.mem_cons_self
    · rcases List.mem_append.mp hp' with hp' | hp'
      · exact List.mem_cons_of_mem _ (List.mem_append.mpr (.inl hp'))
      · exact List.mem_cons_of_mem _ (List.mem_append.mpr (.inr (List.mem_cons_of_mem _ (List.mem_cons_of_mem _ hp'))))
end
section
theorem paired_get {α β : Type} {F : α → β → Prop} : ∀ {l : List α} {l' : List β}, Paired F l l' → ∀ (i : Nat) (b : β), l'[i]? = some b → ∃ a, l[i]? = some a ∧ F a b
  | _, _, .cons h r, 0, b, e => by simp at e; subst e; exact ⟨_, rfl, h⟩
  | _, _, .cons h r, i + 1, b, e => by simpa using paired_get r i b (by simpa using e)
section
variable {prog : Program} {w : World} {A : Around} {E : Value → Shared → Prop} {R : Result → Shared → Prop} {s : Shared} {env : Env} {h₀ : Heap} {L : Nat} {m : Str → Option Value} {news : List (Addr × Obj)}

/-- a comprehension that unpacks the pairs of a list and keeps one of the two -/
theorem ListComp_pairs {elt iter : Expr} {x1 x2 : Str} {p1 p2 tp : Pos} {tk0} {scope : Scope} {cl : List (Str × Addr)} {pos : Pos} {Q : Value → Shared → Prop} {ax : Nat} {vs : List Value} {ps : List (Int × Int)} {nn : Nat} {f : Int × Int → Int}
    (_F : Fr h₀ L s.heap m) (_N : News h₀ L s.heap news) (hl : (ax, ({ cls := .type "list", data := .seq vs.toArray nn } : Obj)) ∈ news) (hp : Paired (TupIn news) vs ps)
    (hh : A.handled = none) (hclos : closureFor scope env = pure cl) (hcell : ∀ y ∈ scope.names, y.2 ≠ .cell) (hkind : scope.kind = .function)
    (hnames : ∀ y ∈ scope.names, y.2 = .local → scope.names.lookup y.1 = some .local) (hx1 : scope.names.lookup x1 = some .local) (hx2 : scope.names.lookup x2 = some .local) (hxx : x1 ≠ x2)
    (hs1 : ∀ x, foldedSetIterable iter env x = pure x) (hlen : vs.length ≤ sizeLine)
    (helt : ∀ (s : Shared) (C : Nat) (m₂ : Str → Option Value) (i : Int) (t : Tok) (j : Int) (u : Tok) (Q' : Value → Shared → Prop) (E' : Value → Shared → Prop), s.heap.Ns C m₂ → m₂ x1 = some (.int i t) → m₂ x2 = some (.int j u) →
      (∀ t', Q' (.int (f (i, j)) t') s) → wpAny (model prog w) A (eval elt (compEnvC scope cl C env)) Q' E' s)
    (h : wpAny (model prog w) A (eval iter env) (fun xv s' => ∃ (h' : Heap) (tk' : Nat), xv = .ref ax ∧ s' = { s with heap := h', toks := tk' } ∧ Fr h₀ L h' m ∧ News h₀ L h' news) E s)
    (hQ : ∀ (D : Nat) ys h' tk, Fr h₀ L h' m → News h₀ L h' ((D, LCg.lst ys) :: news) → IntsAre ys (ps.map f) → (∀ p ∈ news, p.1 < D) → Q (.ref D) { s with heap := h', toks := tk }) :
    wpAny (model prog w) A (eval (.ListComp elt [⟨.Tuple [.Name x1 p1, .Name x2 p2] tk0 tp, iter, [], 0⟩] scope pos) env) Q E s := by
  rw [eval_ListComp]
  refine wpAny_comprehension_free (use := none) rfl hs1 hclos hkind hnames (wpAny_mono h (fun xv s₁ h₁ => ?_) fun _ _ e => e)
  obtain ⟨h1, tk1, rfl, rfl, F, N⟩ := h₁
  have hL : h1.IsList ax vs.toArray := ⟨_, (N _ hl).1, rfl, nn, rfl⟩
  refine wpAny_pyIter_list hL ?_
  have up : ∀ (g : Heap) (o : Obj) b x, g.get? b = some x → (g.push o).get? b = some x := fun g o b x e => Heap.get?_push_of_some _ e
  refine wpAny_newObj_type (wpAny_newFunctionEnv hcell (by intro y hy; simp at hy) (fun h₂ hns₂ hsb₂ => ?_) hkind)
  dsimp only at hns₂ hsb₂ ⊢
  have hLs : h₀.objs.size ≤ L := F.above
  have none₀ : ∀ a : Nat, L ≤ a → h₀.get? a = none := fun a ha => Heap.get?_none_of_le (Nat.le_trans hLs ha)
  have hL1 : L < h1.objs.size := F.ns.lt
  have hax1 : ax < h1.objs.size := Heap.lt_size (N _ hl).1
  generalize hI : h1.push { cls := .type "list_iterator", data := .fields #[.ref ax, .int 0 0] } = H1 at hns₂ hsb₂ ⊢
  have eI : H1.objs.size = h1.objs.size + 1 := by rw [← hI, Heap.size_push]
  generalize hH2 : H1.push { cls := .type "list", dict := none, data := .seq ([] : List Value).toArray } = H2 at hns₂ hsb₂ ⊢
  have eC : H2.objs.size = H1.objs.size + 1 := by rw [← hH2, Heap.size_push]
  have keep1 : ∀ b o, h1.get? b = some o → H2.get? b = some o := fun b o e => by rw [← hH2, ← hI]; exact up _ _ _ _ (up _ _ _ _ e)
  have keep2 : ∀ b o, b ≠ H2.objs.size → H2.get? b = some o → h₂.get? b = some o := fun b o hb e => hsb₂.extBut b o hb (up _ _ _ _ e)
  have lt2 : ∀ (b : Nat) (o : Obj), h1.get? b = some o → b < h1.objs.size := fun b o e => Heap.lt_size e
  have keep : ∀ b o, h1.get? b = some o → h₂.get? b = some o := fun b o e => keep2 b o (Nat.ne_of_lt (Nat.lt_of_lt_of_le (lt2 b o e) (by omega))) (keep1 b o e)
  have hD : h₂.get? H1.objs.size = some (LCg.lst []) := keep2 _ _ (by show (H1.objs.size : Nat) ≠ _; omega) (by rw [← hH2]; exact Heap.get?_push_size _ rfl)
  have hit : h₂.IsListIter h1.objs.size ax 0 := ⟨_, keep2 _ _ (by show (h1.objs.size : Nat) ≠ _; omega) (by rw [← hH2, ← hI]; exact up _ _ _ _ (Heap.get?_push_size _ rfl)), rfl, rfl⟩
  have lowI : ∀ p ∈ news, p.1 < h1.objs.size := fun p hp => lt2 _ _ (N p hp).1
  have hlps : vs.length = ps.length := hp.length
  have loop : ∀ s₃ : Shared, s₃ = { s with heap := h₂, toks := tk1 + ([] : List (Str × Value)).length } →
      codeAny (model prog w) A (.compLoop (.ListComp elt [⟨.Tuple [.Name x1 p1, .Name x2 p2] tk0 tp, iter, [], 0⟩] scope pos) 0 (.ref h1.objs.size) (.ref H1.objs.size) (compEnvC scope cl H2.objs.size env))
        (compPost (model prog w) A E none Q (.ref H1.objs.size) H2.objs.size) s₃ := by
    rintro s₃ rfl
    refine LCp.codeAny_compLoop_pair
      (fun k s' => ∃ h' tk i ys m', s' = { s with heap := h', toks := tk } ∧ i ≤ ps.length ∧ k = ps.length + 1 - i ∧ h'.IsListIter h1.objs.size ax i ∧ Fr h₀ L h' m ∧ h'.Ns H2.objs.size m' ∧ News h₀ L h' ((H1.objs.size, LCg.lst ys) :: news) ∧
        IntsAre ys ((ps.take i).map f)) ?_ (ps.length + 1)
      ⟨h₂, _, 0, [], _, rfl, Nat.zero_le _, rfl, hit, F.keeps keep, hns₂, fun p hp => ?_, by simpa using IntsAre.nil⟩
    · rintro k s' ⟨h', tk, i, ys, m', rfl, hi, rfl, hit', F', hn', N', hy⟩
      have hL' : h'.IsList ax vs.toArray := ⟨_, (N' _ (List.mem_cons_of_mem _ hl)).1, rfl, nn, rfl⟩
      have offI : ∀ p ∈ (H1.objs.size, LCg.lst ys) :: news, p.1 ≠ h1.objs.size := fun p hp => by
        rcases List.mem_cons.mp hp with rfl | hp
        · show (H1.objs.size : Nat) ≠ _; omega
        · exact Nat.ne_of_lt (lowI p hp)
      by_cases hlt : i < ps.length
      · obtain ⟨v, hv, hT⟩ := paired_get hp i ps[i] (List.getElem?_eq_getElem hlt)
        obtain ⟨a, t, u, rfl, hm⟩ := hT
        refine wpAny_pyNext_list_item hit' hL' (x := .ref a) (by simpa using hv) fun h₃ hit₃ hs₃ => ?_
        have N₃ : News h₀ L h₃ ((H1.objs.size, LCg.lst ys) :: news) := fun p hp => ⟨hs₃.extBut _ _ (offI p hp) (N' p hp).1, (N' p hp).2⟩
        have ht : IsTup h₃ a #[.int ps[i].1 t, .int ps[i].2 u] := ⟨_, (N₃ _ (List.mem_cons_of_mem _ hm)).1, rfl, 0, rfl⟩
        refine wpAny_letOwnedTupleGo_listiter hit₃ ?_
        refine assign_Tuple_tuple hh ht rfl rfl fun h₅ he => ?_
        have he' : ∀ b o, h₃.get? b = some o → h₅.get? b = some o := fun b o e => he b o (Nat.ne_of_lt (Heap.lt_size e)) e
        have hn₃ : h₃.Ns H2.objs.size m' := hn'.sameBut hs₃ (by show (H2.objs.size : Nat) ≠ h1.objs.size; omega)
        refine assignInOrder_cons (wpAny_assign_Name (wpAny_storeName_local (env := compEnvC scope cl H2.objs.size env) (lookup_relabel_local hx1) (hn₃.at' fun o e => he' _ o e) (fun h₆ hn₆ hs₆ => ?_) (by simp [compEnvC, relabel, hkind])))
        refine assignInOrder_cons (wpAny_assign_Name (wpAny_storeName_local (env := compEnvC scope cl H2.objs.size env) (lookup_relabel_local hx2) hn₆ (fun h₇ hn₇ hs₇ => ?_) (by simp [compEnvC, relabel, hkind])))
        refine assignInOrder_nil ?_
        have old : ∀ b o, b ≠ H2.objs.size → h₃.get? b = some o → h₇.get? b = some o := fun b o hb e => hs₇.extBut b o hb (hs₆.extBut b o hb (he' b o e))
        have F₃ : Fr h₀ L h₃ m := F'.change hs₃ (by show (h1.objs.size : Nat) ≠ L; omega) (none₀ _ (by omega))
        have F₇ : Fr h₀ L h₇ m := ((F₃.keeps he').change hs₆ (by show (H2.objs.size : Nat) ≠ L; omega) (none₀ H2.objs.size (by omega))).change hs₇ (by show (H2.objs.size : Nat) ≠ L; omega) (none₀ H2.objs.size (by omega))
        have offC : ∀ p ∈ (H1.objs.size, LCg.lst ys) :: news, p.1 ≠ H2.objs.size := fun p hp => by
          rcases List.mem_cons.mp hp with rfl | hp
          · show (H1.objs.size : Nat) ≠ _; omega
          · exact Nat.ne_of_lt (Nat.lt_of_lt_of_le (lowI p hp) (by omega))
        have N₇ : News h₀ L h₇ ((H1.objs.size, LCg.lst ys) :: news) := fun p hp => ⟨old _ _ (offC p hp) (N₃ p hp).1, (N₃ p hp).2⟩
        have hit₇ : h₇.IsListIter h1.objs.size ax (i + 1) := hit₃.at fun o e => old _ _ (by show (h1.objs.size : Nat) ≠ H2.objs.size; omega) e
        refine helt _ H2.objs.size _ ps[i].1 t ps[i].2 u _ _ hn₇ (by show (if x1 = x2 then _ else (if x1 = x1 then _ else _)) = _; rw [if_neg hxx, if_pos rfl]) (by show (if x2 = x2 then _ else _) = _; rw [if_pos rfl]) fun t' => ?_
        have hyl : ys.length = i := by have := hy.length; rw [List.length_map, List.length_take] at this; omega
        refine append_at (hsz := by show ys.toArray.size ≤ sizeLine; rw [List.size_toArray, hyl]; omega) (N₇ _ List.mem_cons_self).1 fun h₈ hs₈ hD₈ => ?_
        refine ⟨ps.length + 1 - (i + 1), by omega, h₈, _, i + 1, ys ++ [.int (f ps[i]) t'], _, rfl, hlt, rfl, hit₇.at fun o e => hs₈.extBut _ _ (by show (h1.objs.size : Nat) ≠ H1.objs.size; omega) e,
          F₇.change hs₈ (by show (H1.objs.size : Nat) ≠ L; omega) (none₀ _ (by omega)), hn₇.sameBut hs₈ (by show (H2.objs.size : Nat) ≠ H1.objs.size; omega), fun p hp => ?_, ?_⟩
        · rcases List.mem_cons.mp hp with rfl | hp
          · exact ⟨hD₈.trans (congrArg some (LCg.lst_snoc ys _)), by show (H1.objs.size : Nat) ≠ L; omega, none₀ _ (by omega)⟩
          · have z := N₇ p (List.mem_cons_of_mem _ hp)
            exact ⟨hs₈.extBut _ _ (Nat.ne_of_lt (Nat.lt_of_lt_of_le (lowI p hp) (by omega))) z.1, z.2⟩
        · rw [List.take_add_one, List.getElem?_eq_getElem hlt, List.map_append]
          exact hy.append (.cons _ _ .nil)
      · obtain rfl : i = ps.length := by omega
        refine wpAny_pyNext_list_end hh hit' hL' (by simp [hlps]) fun h₃ he => ?_
        refine ⟨m', hn'.extBut he (by show (H2.objs.size : Nat) ≠ h1.objs.size; omega), fun h'' hs'' => ?_⟩
        rw [List.take_length] at hy
        have F₃ : Fr h₀ L h₃ m := LCg.fr_but (I := h1.objs.size) F' (fun b o hb e => he b o (by simpa using hb) e) (by show (L : Nat) ≠ h1.objs.size; omega) (none₀ _ (by omega))
        refine hQ _ ys h'' tk (F₃.change hs'' (by show (H2.objs.size : Nat) ≠ L; omega) (none₀ _ (by omega))) (fun p hp => ⟨hs''.extBut _ _ ?_ (he _ _ (offI p hp) (N' p hp).1), (N' p hp).2⟩) hy (fun p hp => Nat.lt_of_lt_of_le (lowI p hp) (by omega))
        rcases List.mem_cons.mp hp with rfl | hp
        · show (H1.objs.size : Nat) ≠ _; omega
        · exact Nat.ne_of_lt (Nat.lt_of_lt_of_le (lowI p hp) (by omega))
    · rcases List.mem_cons.mp hp with rfl | hp
      · exact ⟨hD, by show (H1.objs.size : Nat) ≠ L; omega, none₀ _ (by omega)⟩
      · exact ⟨keep _ _ (N p hp).1, (N p hp).2⟩
  exact codeAny_compStart_list (loop _ rfl) (wpAny_pyIter_listiter hit (loop _ rfl))
end
end
section
local macro_rules | `(tactic| walk_at "idle 0") => `(tactic| skip)
def BoxOf (ps : List (Int × Int)) (l lo r u : Int) : Prop :=
  (l ∈ ps.map Prod.fst ∧ ∀ a ∈ ps.map Prod.fst, l ≤ a) ∧ (lo ∈ ps.map Prod.snd ∧ ∀ a ∈ ps.map Prod.snd, lo ≤ a) ∧
  (r ∈ ps.map Prod.fst ∧ ∀ a ∈ ps.map Prod.fst, a ≤ r) ∧ (u ∈ ps.map Prod.snd ∧ ∀ a ∈ ps.map Prod.snd, a ≤ u)
theorem paired_up {tl tl' : List (Addr × Obj)} {vs : List Value} {ps : List (Int × Int)} (h : Paired (TupIn tl) vs ps) (hs : ∀ p ∈ tl, p ∈ tl') : Paired (TupIn tl') vs ps := paired_imp (fun _ _ => TupIn.mono hs) h
abbrev tup4 (a b c d : Int) (t1 t2 t3 t4 : Tok) : Obj := { cls := .type "tuple", data := .seq #[.int a t1, .int b t2, .int c t3, .int d t4] }
local macro_rules | `(tactic| walk_at "eval ListComp") => `(tactic| (k_here; k_dflt (first
  | refine ListComp_pairs (f := Prod.fst) (by k_asm) (by k_asm) (by first | with_reducible assumption | (repeat (first | with_reducible assumption | refine List.mem_cons_of_mem _ ?_))) (paired_up (by with_reducible assumption) (fun p hp => by repeat (first | exact hp | refine List.mem_cons_of_mem _ ?_))) (by assumption) (by with_unfolding_all rfl) (by decide) (by rfl) (by decide) (by rfl) (by rfl) (by decide) (fun _ => by with_unfolding_all rfl) (by with_reducible assumption) (fun _ _ _ _ _ _ _ _ _ ns e1 _ hq => ldVarK ns e1 (hq _) (by rfl) (by rfl)) ?_ ?_
  | refine ListComp_pairs (f := Prod.snd) (by k_asm) (by k_asm) (by first | with_reducible assumption | (repeat (first | with_reducible assumption | refine List.mem_cons_of_mem _ ?_))) (paired_up (by with_reducible assumption) (fun p hp => by repeat (first | exact hp | refine List.mem_cons_of_mem _ ?_))) (by assumption) (by with_unfolding_all rfl) (by decide) (by rfl) (by decide) (by rfl) (by rfl) (by decide) (fun _ => by with_unfolding_all rfl) (by with_reducible assumption) (fun _ _ _ _ _ _ _ _ _ ns _ e2 hq => ldVarK ns e2 (hq _) (by rfl) (by rfl)) ?_ ?_)))
local macro_rules | `(tactic| walk_at "call builtin:min") => `(tactic| (k_here; (with_reducible show wpAny _ _ (call (Value.builtin _) [Value.ref _]) _ _ _); (with_unfolding_all refine' kso_min ?k1 ?k2 ?k3 ?k4 ?k5 ?k6 ?_; (case k1 => k_asm); (case k2 => k_asm); (case k3 => kso_list); (case k4 => l_ints); (case k5 => kso_len); (case k6 => assumption); k_whole); intro h' M' t' k' F' N' a' b'; (try k_sweep)))
local macro_rules | `(tactic| walk_at "call builtin:max") => `(tactic| (k_here; (with_reducible show wpAny _ _ (call (Value.builtin _) [Value.ref _]) _ _ _); (with_unfolding_all refine' kso_max ?k1 ?k2 ?k3 ?k4 ?k5 ?k6 ?_; (case k1 => k_asm); (case k2 => k_asm); (case k3 => kso_list); (case k4 => l_ints); (case k5 => kso_len); (case k6 => assumption); k_whole); intro h' M' t' k' F' N' a' b'; (try k_sweep)))
set_option maxRecDepth 100000 in
set_option maxHeartbeats 8000000 in
theorem box_call {w : World} {A₀ A : Around} {env : Env} {outer : List Env} {base h₀ : Heap} {L : Addr} {m mg mb : Str → Option Value} {mean : ExcName → Option Value} {news : List (Addr × Obj)} {s : Shared} {E : Value → Shared → Prop} {Q : Value → Shared → Prop} {ax : Nat} {vs : List Value} {ps : List (Int × Int)} {nn : Nat} :
    (hd.heap_39 w.params).In h₀ → Below A₀ base outer h₀ → Top hd.view_39 (looseW hd.view_39 [Str.ofString "Rectangle"]) mean mg mb h₀ → A.frames = some (env :: outer) → env.frame = some L → env.scope.kind = .function → A.depth + 20 < recursionLimit → A.handled = none →
    Fr h₀ L s.heap m → News h₀ L s.heap news →
    (ax, ({ cls := .type "list", data := .seq vs.toArray nn } : Obj)) ∈ news → Paired (TupIn news) vs ps → 0 < ps.length → vs.length ≤ sizeLine →
    (∀ l lo r u b t1 t2 t3 t4 h' tk, BoxOf ps l lo r u → Fr h₀ L h' m → News h₀ L h' ((b, tup4 l lo (r - l + 1) (u - lo + 1) t1 t2 t3 t4) :: news) → (∀ p ∈ news, p.1 < b) → Q (.ref b) { s with heap := h', toks := tk }) →
    wpAny (model PySem.Challenge.rw_kx0087_01.row.prog w) A (PySem.call (.ref 217) [.ref ax]) Q E s := by
  k_fill
  intro X B T hA hf hk hroom hh F N hl hp hne hlen hQ
  k_steps
  rename _ ∧ _ ∧ _ ∧ _ ∧ AllLt _ _ => ll
  obtain ⟨_, _, _, _, ll⟩ := ll
  rename News _ _ _ _ => NN
  refine hQ _ _ _ _ _ _ _ _ _ _ _ ?bx (by assumption) (news_drop4 NN) (allLt_all ll)
  exact ⟨⟨by assumption, by assumption⟩, ⟨by assumption, by assumption⟩, ⟨by assumption, by assumption⟩, ⟨by assumption, by assumption⟩⟩
end
section
def pd (p : Int × Int) : PyData := .tuple [.int p.1, .int p.2]
theorem pd_eqv (p q : Int × Int) : PyData.eqv (pd p) (pd q) = decide (p = q) := by
  obtain ⟨a, b⟩ := p
  obtain ⟨c, d⟩ := q
  simp only [pd, PyData.eqv, PyData.eqvAll, Prod.mk.injEq, Bool.and_true, Bool.decide_and]
  rfl
theorem pd_eqvAll : ∀ ps qs : List (Int × Int), PyData.eqvAll (ps.map pd) (qs.map pd) = decide (ps = qs)
  | [], [] => by simp [PyData.eqvAll]
  | [], _ :: _ => by simp [PyData.eqvAll]
  | _ :: _, [] => by simp [PyData.eqvAll]
  | a :: r, b :: t => by
    simp only [List.map_cons, PyData.eqvAll, pd_eqv, pd_eqvAll r t, List.cons.injEq, Bool.decide_and]
theorem pd_layAll : ∀ ps : List (Int × Int), PyData.canLayAll0 (ps.map pd) = true
  | [] => rfl
  | _ :: r => by simp [PyData.canLayAll0, PyData.canLay0, pd, pd_layAll r]
theorem pd_lay (p : Int × Int) : (pd p).canLay0 = true := by simp [pd, PyData.canLay0, PyData.canLayAll0]
theorem pd_depth (p : Int × Int) : (pd p).depth ≤ 1 := by simp [pd, PyData.depth, PyData.depthAll]
theorem pd_depthAll : ∀ ps : List (Int × Int), PyData.depthAll (ps.map pd) ≤ 1
  | [] => by simp [PyData.depthAll]
  | p :: r => by
    have h1 := pd_depth p
    have h2 := pd_depthAll r
    simp only [List.map_cons, PyData.depthAll]
    omega
theorem pd_shaped (ps : List (Int × Int)) : SeqAt.shaped (.list (ps.map pd)) = true := by
  have := pd_depthAll ps
  unfold SeqAt.shaped
  simp only [PyData.canLay0, pd_layAll, PyData.depth, Bool.true_and]
  exact decide_eq_true (by omega)
theorem reads_pair {h : Heap} {tl : List (Addr × Obj)} (N : ∀ q ∈ tl, h.get? q.1 = some q.2) {v : Value} {p : Int × Int} (hT : TupIn tl v p) : ∃ as, Reads h v (pd p) as := by
  obtain ⟨a, t, u, rfl, hm⟩ := hT
  exact ⟨_, reads_tuple_at (N _ hm) rfl rfl (.cons (.int _ _) (.cons (.int _ _) .nil))⟩
theorem readsAll_pairs {h : Heap} {tl : List (Addr × Obj)} (N : ∀ q ∈ tl, h.get? q.1 = some q.2) : ∀ {vs : List Value} {ps : List (Int × Int)}, Paired (TupIn tl) vs ps → ∃ as, ReadsAll h vs (ps.map pd) as
  | _, _, .nil => ⟨_, .nil⟩
  | _, _, .cons hT r => let ⟨_, a⟩ := reads_pair N hT; let ⟨_, b⟩ := readsAll_pairs N r; ⟨_, .cons a b⟩
theorem reads_pairs {h : Heap} {tl : List (Addr × Obj)} (N : ∀ q ∈ tl, h.get? q.1 = some q.2) {l : Addr} {vs : List Value} {n : Nat} {ps : List (Int × Int)} (hl : h.get? l = some { cls := .type "list", data := .seq vs.toArray n }) (hp : Paired (TupIn tl) vs ps) :
    ∃ as, Reads h (.ref l) (.list (ps.map pd)) as := let ⟨_, r⟩ := readsAll_pairs N hp; ⟨_, reads_list_at hl rfl rfl (by simpa using r)⟩
theorem pd_any (ps : List (Int × Int)) (p : Int × Int) : ((ps.map pd).any fun y => PyData.eqv y (pd p)) = decide (p ∈ ps) := by
  induction ps with
  | nil => simp
  | cons q r ih =>
    simp only [List.map_cons, List.any_cons, ih, pd_eqv, List.mem_cons, Bool.decide_or]
    by_cases h : q = p
    · simp [h]
    · have h' : ¬ p = q := fun e => h e.symm
      simp [h, h']
section
variable {prog : Program} {w : World} {A : Around} {E : Value → Shared → Prop} {s : Shared} {tl : List (Addr × Obj)} {Q : Value → Shared → Prop}
theorem in_pairs (N : ∀ q ∈ tl, s.heap.get? q.1 = some q.2) {l : Addr} {vs : List Value} {n : Nat} {ps : List (Int × Int)} (hl : s.heap.get? l = some { cls := .type "list", data := .seq vs.toArray n }) (hp : Paired (TupIn tl) vs ps) {v : Value} {p : Int × Int} (hT : TupIn tl v p)
    (hu : A.units + 10 < cLine) (h : Q (.bool (decide (p ∈ ps))) s) : wpAny (model prog w) A (compareOp .In v (.ref l)) Q E s := by
  obtain ⟨as, rc⟩ := reads_pairs N hl hp
  obtain ⟨bs, rx⟩ := reads_pair N hT
  refine SeqAt.in_list_reads rc rx (pd_layAll _) (pd_lay _) ?_ (by rw [pd_any]; exact h)
  have := pd_depth p
  have := Nat.min_le_right (PyData.depthAll (ps.map pd)) (pd p).depth
  omega
theorem notIn_pairs (N : ∀ q ∈ tl, s.heap.get? q.1 = some q.2) {l : Addr} {vs : List Value} {n : Nat} {ps : List (Int × Int)} (hl : s.heap.get? l = some { cls := .type "list", data := .seq vs.toArray n }) (hp : Paired (TupIn tl) vs ps) {v : Value} {p : Int × Int} (hT : TupIn tl v p)
    (hu : A.units + 10 < cLine) (h : Q (.bool (!decide (p ∈ ps))) s) : wpAny (model prog w) A (compareOp .NotIn v (.ref l)) Q E s := by
  obtain ⟨as, rc⟩ := reads_pairs N hl hp
  obtain ⟨bs, rx⟩ := reads_pair N hT
  refine SeqAt.notIn_list_reads rc rx (pd_layAll _) (pd_lay _) ?_ (by rw [pd_any]; exact h)
  have := pd_depth p
  have := Nat.min_le_right (PyData.depthAll (ps.map pd)) (pd p).depth
  omega
theorem eq_pairs (N : ∀ q ∈ tl, s.heap.get? q.1 = some q.2) {l l' : Addr} {vs vs' : List Value} {n n' : Nat} {ps ps' : List (Int × Int)} (hl : s.heap.get? l = some { cls := .type "list", data := .seq vs.toArray n }) (hp : Paired (TupIn tl) vs ps)
    (hl' : s.heap.get? l' = some { cls := .type "list", data := .seq vs'.toArray n' }) (hp' : Paired (TupIn tl) vs' ps') (hu : A.units + 64 < cLine) (h : Q (.bool (decide (ps = ps'))) s) : wpAny (model prog w) A (compareOp .Eq (.ref l) (.ref l')) Q E s := by
  obtain ⟨as, rc⟩ := reads_pairs N hl hp
  obtain ⟨bs, rx⟩ := reads_pairs N hl' hp'
  exact eq_dataH rc rx (pd_shaped _) (pd_shaped _) hu (by simp only [PyData.eqv, pd_eqvAll]; exact h)
theorem ne_pairs (N : ∀ q ∈ tl, s.heap.get? q.1 = some q.2) {l l' : Addr} {vs vs' : List Value} {n n' : Nat} {ps ps' : List (Int × Int)} (hl : s.heap.get? l = some { cls := .type "list", data := .seq vs.toArray n }) (hp : Paired (TupIn tl) vs ps)
    (hl' : s.heap.get? l' = some { cls := .type "list", data := .seq vs'.toArray n' }) (hp' : Paired (TupIn tl) vs' ps') (hu : A.units + 64 < cLine) (h : Q (.bool (!decide (ps = ps'))) s) : wpAny (model prog w) A (compareOp .NotEq (.ref l) (.ref l')) Q E s := by
  obtain ⟨as, rc⟩ := reads_pairs N hl hp
  obtain ⟨bs, rx⟩ := reads_pairs N hl' hp'
  exact ne_dataH rc rx (pd_shaped _) (pd_shaped _) hu (by simp only [PyData.eqv, pd_eqvAll]; exact h)
end
end
section
open Classical in
/-- the values that stand for a pair that passes -/
noncomputable def passV (tl : List (Addr × Obj)) (q : Int × Int → Bool) (v : Value) : Bool := decide (∃ p, TupIn tl v p ∧ q p = true)
theorem tupIn_fun {h : Heap} {tl : List (Addr × Obj)} (N : ∀ q ∈ tl, h.get? q.1 = some q.2) {v : Value} {p p' : Int × Int} (h1 : TupIn tl v p) (h2 : TupIn tl v p') : p = p' := by
  obtain ⟨a, t, u, rfl, m1⟩ := h1
  obtain ⟨b, t', u', e, m2⟩ := h2
  cases e
  have e1 := N _ m1
  have e2 := N _ m2
  simp only at e1 e2
  rw [e1] at e2
  injection e2 with e2
  injection e2 with _ _ e3 _
  injection e3 with e3 _
  have e4 := congrArg Array.toList e3
  simp only [List.cons.injEq, Value.int.injEq] at e4
  exact Prod.ext e4.1.1 e4.2.1.1
open Classical in
theorem passV_of {h : Heap} {tl : List (Addr × Obj)} (N : ∀ q ∈ tl, h.get? q.1 = some q.2) {q : Int × Int → Bool} {v : Value} {p : Int × Int} (h1 : TupIn tl v p) : passV tl q v = q p := by
  unfold passV
  cases hq : q p with
  | true => exact decide_eq_true ⟨p, h1, hq⟩
  | false => exact decide_eq_false fun ⟨p', h', e⟩ => by rw [tupIn_fun N h1 h', e] at hq; cases hq
theorem paired_filter {h : Heap} {tl : List (Addr × Obj)} (N : ∀ q ∈ tl, h.get? q.1 = some q.2) {q : Int × Int → Bool} : ∀ {vs : List Value} {ps : List (Int × Int)}, Paired (TupIn tl) vs ps → Paired (TupIn tl) (vs.filter (passV tl q)) (ps.filter q)
  | _, _, .nil => .nil
  | _, _, .cons (a := v) (b := p) hT r => by
    have ih := paired_filter N (q := q) r
    have e := passV_of N (q := q) hT
    cases hq : q p with
    | true => rw [List.filter_cons_of_pos (by rw [e, hq]), List.filter_cons_of_pos hq]; exact .cons hT ih
    | false => rw [List.filter_cons_of_neg (by rw [e, hq]; simp), List.filter_cons_of_neg (by simp [hq])]; exact ih
theorem paired_eq : ∀ {l l' : List Value}, Paired (fun v y => y = v) l l' → l' = l
  | _, _, .nil => rfl
  | _, _, .cons h r => by rw [h, paired_eq r]

/-- the test of a turn: it stores nothing, its answer is q of the pair -/
def TestOk (prog : Program) (w : World) (A : Around) (env : Env) (test : Expr) (scope : Scope) (cl : List (Str × Addr)) (news tl : List (Addr × Obj)) (x : Str) (q : Int × Int → Bool) : Prop :=
  ∀ (s : Shared) (C : Nat) (m₂ : Str → Option Value) (v : Value) (p : Int × Int) (Q' : Bool → Shared → Prop) (E' : Value → Shared → Prop), (∀ r ∈ news, s.heap.get? r.1 = some r.2) → s.heap.Ns C m₂ → m₂ x = some v → TupIn tl v p →
    (∀ tk, Q' (q p) { s with toks := tk }) → wpAny (model prog w) A (isTrue test (compEnvC scope cl C env) (eval test (compEnvC scope cl C env))) Q' E' s

section
variable {prog : Program} {w : World} {A : Around} {E : Value → Shared → Prop} {s : Shared} {env : Env} {h₀ : Heap} {m : Str → Option Value} {news tl : List (Addr × Obj)}

theorem filter_quiet {L : Nat} {x : Str} {px : Pos} {test : Expr} {scope : Scope} {cl : List (Str × Addr)} {vs : List Value} {ps : List (Int × Int)} {q : Int × Int → Bool} {h1 : Heap} {s₁ : Shared} (N : News h₀ L h1 news)
    (htl : ∀ p ∈ tl, p ∈ news) (hp : Paired (TupIn tl) vs ps) (hkind : scope.kind = .function) (hx : scope.names.lookup x = some .local) (hd : (x == ("__debug__" : Str)) = false) (ht : TestOk prog w A env test scope cl news tl x q) (hs : ∀ b o, h1.get? b = some o → s₁.heap.get? b = some o) {I : Nat} (hI : ∀ p ∈ news, p.1 ≠ I) :
    QuietOnC prog w A env scope cl x [test] (.Name x px) [I] (fun i v => vs.toArray[i]? = some v) (passV tl q) (fun v y => y = v) s₁ where
  tests := fun C i v s₃ m₃ E' _ hP ns hm hk _ => by
    have hv : vs[i]? = some v := by simpa using hP
    have Ns : ∀ r ∈ news, s₃.heap.get? r.1 = some r.2 := fun r hr => hk _ _ (by simpa using hI r hr) (hs _ _ (N r hr).1)
    obtain ⟨p, hT⟩ : ∃ p, TupIn tl v p := by
      have hi : i < ps.length := by rw [← hp.length]; exact (List.getElem?_eq_some_iff.mp hv).1
      obtain ⟨v', e, hT⟩ := paired_get hp i ps[i] (List.getElem?_eq_getElem hi)
      rw [hv] at e
      cases e
      exact ⟨_, hT⟩
    refine wpAny_tests_one (ht s₃ C m₃ v p _ _ Ns ns hm hT fun tk => ⟨(passV_of (fun r hr => Ns r (htl r hr)) hT).symm, s₃.heap, tk, rfl, fun _ _ e => e⟩)
  elt := fun C i v s₃ m₃ E' _ hP _ ns hm hk _ => ldVarK (C := C) ns hm ⟨rfl, s₃.heap, s₃.toks, rfl, fun _ _ e => e⟩ hkind (lookup_relabel_local hx) hd

theorem Assign_filter {x y : Str} {px px' py : Pos} {iter test : Expr} {scope : Scope} {cl : List (Str × Addr)} {pos spos : Pos} {Q : Flow → Shared → Prop} {ax : Nat} {vs : List Value} {ps : List (Int × Int)} {nn : Nat} {q : Int × Int → Bool}
    (_F : Fr h₀ env.locals s.heap m) (_N : News h₀ env.locals s.heap news) (hl : (ax, ({ cls := .type "list", data := .seq vs.toArray nn } : Obj)) ∈ news) (htl : ∀ p ∈ tl, p ∈ news) (hp : Paired (TupIn tl) vs ps) (hsz : vs.length ≤ sizeLine)
    (hh : A.handled = none) (hsw : swapsWith (.ListComp (.Name x px') [⟨.Name x px, iter, [test], 0⟩] scope pos) (some (.Name y py)) spos.line env = pure true)
    (hclos : closureFor scope env = pure cl) (hcell : ∀ z ∈ scope.names, z.2 ≠ .cell) (hkind : scope.kind = .function)
    (hnames : ∀ z ∈ scope.names, z.2 = .local → scope.names.lookup z.1 = some .local) (hx : scope.names.lookup x = some .local) (hd : (x == ("__debug__" : Str)) = false)
    (hy : env.kindOf y = some .local) (hpp : (env.scope.kind == .class || (env.scope.kind == .module && env.locals != env.globals)) = false) (hs : ∀ x, foldedSetIterable iter env x = pure x)
    (ht : TestOk prog w A env test scope cl news tl x q)
    (h : wpAny (model prog w) A (eval iter env) (fun xv s' => ∃ (h' : Heap) (tk' : Nat), xv = .ref ax ∧ s' = { s with heap := h', toks := tk' } ∧ Fr h₀ env.locals h' m ∧ News h₀ env.locals h' news) E s)
    (hQ : ∀ (D : Nat) ys n h' tk, Fr h₀ env.locals h' (fun z => if z = y then some (.ref D) else m z) → News h₀ env.locals h' ((D, listOf ys.toArray n) :: news) → Paired (TupIn tl) ys (ps.filter q) → (∀ p ∈ news, p.1 ≠ D) → Q .next { s with heap := h', toks := tk }) :
    wpAny (model prog w) A (exec (.Assign [.Name y py] (.ListComp (.Name x px') [⟨.Name x px, iter, [test], 0⟩] scope pos) spos) env) Q E s := by
  refine wpAny_Assign_ListComp_free (passV tl q) (fun v y => y = v) hsw hclos hcell hkind hnames hx hy hpp (wpAny_mono h (fun xv s₁ h₁ => ?_) fun _ _ e => e) hs
  obtain ⟨h1, tk1, rfl, rfl, F, N⟩ := h₁
  have hL : h1.IsList ax vs.toArray := ⟨_, (N _ hl).1, rfl, nn, rfl⟩
  have hax : ax < h1.objs.size := Heap.lt_size (N _ hl).1
  have hlow : ∀ p ∈ news, p.1 < h1.objs.size := fun p hp => Heap.lt_size (N p hp).1
  have hLl : env.locals < h1.objs.size := F.ns.lt
  have up : ∀ (o : Obj) b x, h1.get? b = some x → (h1.push o).get? b = some x := fun o b x e => Heap.get?_push_of_some _ e
  refine wpAny_pyIter_list hL ?_
  refine ⟨h1.objs.size, [h1.objs.size, ax], [h1.objs.size], vs.toArray.size, (fun i v => vs.toArray[i]? = some v), _, m, rfl, Walks.list hh h1.objs.size ax (Nat.ne_of_lt hax) vs.toArray, (by simpa using hsz),
    ⟨⟨_, Heap.get?_push_size _ rfl, rfl, rfl⟩, hL.push _⟩, ?_, ?_, F.ns.at' (up _ _), filter_quiet N htl hp hkind hx hd ht (up _) (fun p hp => Nat.ne_of_lt (hlow p hp)), ?_⟩
  · intro b hb
    show b < (h1.push _).objs.size
    rw [Heap.size_push]
    rcases List.mem_cons.mp hb with rfl | hb
    · exact Nat.lt_succ_self _
    · rw [List.mem_singleton.mp hb]; exact Nat.lt_succ_of_lt hax
  · intro hm
    exact absurd hLl ((List.mem_singleton.mp hm) ▸ Nat.lt_irrefl _)
  · intro D h' tk ys us hD hlD hpl hlen hP hF hnL hk
    have e : us = vs := list_of_places hlen hP |>.trans (by simp)
    subst e
    have ey := paired_eq hF
    obtain ⟨n, hn⟩ := hpl
    have N1 : News h₀ env.locals (h1.push { cls := .type "list_iterator", data := .fields #[.ref ax, .int 0 0] }) news := N.grown (up _)
    have hne : ∀ p ∈ news, p.1 ≠ D := fun p hp e => by
      have z := (N1 p hp).1
      have hD' : (h1.push { cls := .type "list_iterator", data := .fields #[.ref ax, .int 0 0] }).get? D = none := hD
      rw [e, hD'] at z; cases z
    have hDL : D ≠ env.locals := fun e => by
      have hD' : (h1.push { cls := .type "list_iterator", data := .fields #[.ref ax, .int 0 0] }).get? D = none := hD
      obtain ⟨o, _, _, z, _⟩ := F.ns.at' (up { cls := .type "list_iterator", data := .fields #[.ref ax, .int 0 0] } _)
      rw [← e, hD'] at z; cases z
    have hLs : h₀.objs.size ≤ env.locals := F.above
    have keep : ∀ b o, b ≠ env.locals → h1.get? b = some o → h'.get? b = some o := fun b o hb e => hk b o hb (fun hm => absurd (Heap.lt_size e) ((List.mem_singleton.mp hm) ▸ Nat.lt_irrefl _)) (up _ _ _ e)
    refine hQ D ys.toList n h' tk ⟨hnL, fun b o e => keep b o (fun q => by have := Heap.lt_size e; rw [q] at this; exact absurd this (Nat.not_lt.mpr hLs)) (F.keep b o e), F.above⟩ (fun p hp => ?_) (by rw [ey]; exact paired_filter (fun r hr => (N r (htl r hr)).1) hp) hne
    rcases List.mem_cons.mp hp with rfl | hp
    · refine ⟨by simpa using hn, hDL, ?_⟩
      cases e : h₀.get? D with
      | none => rfl
      | some o =>
        have hD' : (h1.push { cls := .type "list_iterator", data := .fields #[.ref ax, .int 0 0] }).get? D = none := hD
        rw [up _ _ _ (F.keep _ _ e)] at hD'; cases hD'
    · exact ⟨keep _ _ (N p hp).2.1 (N p hp).1, (N p hp).2⟩

theorem ListComp_filter {L : Nat} {x : Str} {px px' : Pos} {iter test : Expr} {scope : Scope} {cl : List (Str × Addr)} {pos : Pos} {Q : Value → Shared → Prop} {ax : Nat} {vs : List Value} {ps : List (Int × Int)} {nn : Nat} {q : Int × Int → Bool}
    (_F : Fr h₀ L s.heap m) (_N : News h₀ L s.heap news) (hl : (ax, ({ cls := .type "list", data := .seq vs.toArray nn } : Obj)) ∈ news) (htl : ∀ p ∈ tl, p ∈ news) (hp : Paired (TupIn tl) vs ps) (hsz : vs.length ≤ sizeLine)
    (hh : A.handled = none)
    (hclos : closureFor scope env = pure cl) (hcell : ∀ z ∈ scope.names, z.2 ≠ .cell) (hkind : scope.kind = .function)
    (hnames : ∀ z ∈ scope.names, z.2 = .local → scope.names.lookup z.1 = some .local) (hx : scope.names.lookup x = some .local) (hd : (x == ("__debug__" : Str)) = false)
    (hs : ∀ x, foldedSetIterable iter env x = pure x)
    (ht : TestOk prog w A env test scope cl news tl x q)
    (h : wpAny (model prog w) A (eval iter env) (fun xv s' => ∃ (h' : Heap) (tk' : Nat), xv = .ref ax ∧ s' = { s with heap := h', toks := tk' } ∧ Fr h₀ L h' m ∧ News h₀ L h' news) E s)
    (hQ : ∀ (D : Nat) ys n h' tk, Fr h₀ L h' m → News h₀ L h' ((D, listOf ys.toArray n) :: news) → Paired (TupIn tl) ys (ps.filter q) → (∀ p ∈ news, p.1 ≠ D) → Q (.ref D) { s with heap := h', toks := tk }) :
    wpAny (model prog w) A (eval (.ListComp (.Name x px') [⟨.Name x px, iter, [test], 0⟩] scope pos) env) Q E s := by
  refine wpAny_ListComp_free (passV tl q) (fun v y => y = v) hclos hcell hkind hnames hx (wpAny_mono h (fun xv s₁ h₁ => ?_) fun _ _ e => e) hs
  obtain ⟨h1, tk1, rfl, rfl, F, N⟩ := h₁
  have hL : h1.IsList ax vs.toArray := ⟨_, (N _ hl).1, rfl, nn, rfl⟩
  have hax : ax < h1.objs.size := Heap.lt_size (N _ hl).1
  have hlow : ∀ p ∈ news, p.1 < h1.objs.size := fun p hp => Heap.lt_size (N p hp).1
  have hLl : L < h1.objs.size := F.ns.lt
  have up : ∀ (o : Obj) b x, h1.get? b = some x → (h1.push o).get? b = some x := fun o b x e => Heap.get?_push_of_some _ e
  refine wpAny_pyIter_list hL ?_
  refine ⟨h1.objs.size, [h1.objs.size, ax], [h1.objs.size], vs.toArray.size, (fun i v => vs.toArray[i]? = some v), _, rfl, Walks.list hh h1.objs.size ax (Nat.ne_of_lt hax) vs.toArray, (by simpa using hsz),
    ⟨⟨_, Heap.get?_push_size _ rfl, rfl, rfl⟩, hL.push _⟩, ?_, filter_quiet N htl hp hkind hx hd ht (up _) (fun p hp => Nat.ne_of_lt (hlow p hp)), ?_⟩
  · intro b hb
    show b < (h1.push _).objs.size
    rw [Heap.size_push]
    rcases List.mem_cons.mp hb with rfl | hb
    · exact Nat.lt_succ_self _
    · rw [List.mem_singleton.mp hb]; exact Nat.lt_succ_of_lt hax
  · intro D h' tk ys us hD hlD hpl hlen hP hF hk
    have e : us = vs := list_of_places hlen hP |>.trans (by simp)
    subst e
    have ey := paired_eq hF
    obtain ⟨n, hn⟩ := hpl
    have hD' : (h1.push { cls := .type "list_iterator", data := .fields #[.ref ax, .int 0 0] }).get? D = none := hD
    have N1 : News h₀ L (h1.push { cls := .type "list_iterator", data := .fields #[.ref ax, .int 0 0] }) news := N.grown (up _)
    have hne : ∀ p ∈ news, p.1 ≠ D := fun p hp e => by
      have z := (N1 p hp).1
      rw [e, hD'] at z; cases z
    have hDL : D ≠ L := fun e => by
      obtain ⟨o, _, _, z, _⟩ := F.ns.at' (up { cls := .type "list_iterator", data := .fields #[.ref ax, .int 0 0] } _)
      rw [← e, hD'] at z; cases z
    have keep : ∀ b o, h1.get? b = some o → h'.get? b = some o := fun b o e => hk b o (fun hm => absurd (Heap.lt_size e) ((List.mem_singleton.mp hm) ▸ Nat.lt_irrefl _)) (up _ _ _ e)
    refine hQ D ys.toList n h' tk (F.keeps keep) (fun p hp => ?_) (by rw [ey]; exact paired_filter (fun r hr => (N r (htl r hr)).1) hp) hne
    rcases List.mem_cons.mp hp with rfl | hp
    · refine ⟨by simpa using hn, hDL, ?_⟩
      cases e : h₀.get? D with
      | none => rfl
      | some o => rw [up _ _ _ (F.keep _ _ e)] at hD'; cases hD'
    · exact ⟨keep _ _ (N p hp).1, (N p hp).2⟩
end
end
section
noncomputable def itDef : Stmt := nthSt 11 (clsBody (nthSt 2 PySem.Challenge.pw_kx0087_01.main.body))
noncomputable def itScope : Scope := scopeOf itDef
noncomputable abbrev itEnv (L : Addr) : Env := envOf (Str.ofString "Rectangle.__iter__") itScope L 149 (.ref 148)
abbrev itM (xa : Addr) : Str → Option Value := fun y => List.lookup y [(Str.ofString "self", .ref xa)]
noncomputable abbrev ptEs (P : Params) (k1 k2 : Tok) (x y : Value) : List DictEntry :=
  [{ hash := PyData.keyHash P (Str.ofString "x"), key := .str (Str.ofString "x") k1, val := x },
   { hash := PyData.keyHash P (Str.ofString "y"), key := .str (Str.ofString "y") k2, val := y }]
set_option maxRecDepth 100000 in
set_option maxHeartbeats 8000000 in
theorem it_corner_top_l {w : World} {A₀ A : Around} {outer : List Env} {base h₀ : Heap} {L : Addr} {mg mb : Str → Option Value} {mean : ExcName → Option Value} {news : List (Addr × Obj)} {s : Shared} {E : Value → Shared → Prop} {Q : Value → Shared → Prop} {xa da : Addr} {ka1 ka2 ka3 ka4 ka5 : Tok} {wa ha x1 y1 : Int} {ra : Value} {ta1 ta2 ta3 ta4 : Tok} {na : Nat} {p1 p2 : Pos} :
    (hd.heap_39 w.params).In h₀ → Below A₀ base outer h₀ → Top hd.view_39 (looseW hd.view_39 [Str.ofString "Rectangle"]) mean mg mb h₀ → A.frames = some (itEnv L :: outer) → A.depth + 20 < recursionLimit → A.handled = none →
    Fr h₀ L s.heap (itM xa) → News h₀ L s.heap news → (xa, instObj 196 da) ∈ news → (da, dictOf (rectEs w.params ka1 ka2 ka3 ka4 ka5 (.int wa ta1) (.int ha ta2) (.int x1 ta3) (.int y1 ta4) ra) na) ∈ news →
    (∀ x d k1 k2 t1 t2 n h' tk, Fr h₀ L h' (itM xa) → News h₀ L h' ((x, instObj 45 d) :: (d, dictOf (ptEs w.params k1 k2 (.int (x1) t1) (.int (y1 + ha) t2)) n) :: news) → (∀ p ∈ news, p.1 < d) → d < x → Q (.ref x) { s with heap := h', toks := tk }) →
    wpAny (model PySem.Challenge.rw_kx0087_01.row.prog w) A (eval (.Attribute (.Name (Str.ofString "self") p1) (Str.ofString "corner_top_l") p2) (itEnv L)) Q E s := by
  k_fill
  intro X B T hA hroom hh F N hxa hda hQ
  dsimp only [itEnv, itScope, itDef, scopeOf, nthSt, clsBody, PySem.Challenge.pw_kx0087_01] at *
  have hf : (itEnv L).frame = some L := rfl
  have hk : (itEnv L).scope.kind = .function := rfl
  k_steps
  exact hQ _ _ _ _ _ _ _ _ _ (by assumption) (by assumption) (by assumption) (by assumption)
set_option maxRecDepth 100000 in
set_option maxHeartbeats 8000000 in
theorem it_corner_top_r {w : World} {A₀ A : Around} {outer : List Env} {base h₀ : Heap} {L : Addr} {mg mb : Str → Option Value} {mean : ExcName → Option Value} {news : List (Addr × Obj)} {s : Shared} {E : Value → Shared → Prop} {Q : Value → Shared → Prop} {xa da : Addr} {ka1 ka2 ka3 ka4 ka5 : Tok} {wa ha x1 y1 : Int} {ra : Value} {ta1 ta2 ta3 ta4 : Tok} {na : Nat} {p1 p2 : Pos} :
    (hd.heap_39 w.params).In h₀ → Below A₀ base outer h₀ → Top hd.view_39 (looseW hd.view_39 [Str.ofString "Rectangle"]) mean mg mb h₀ → A.frames = some (itEnv L :: outer) → A.depth + 20 < recursionLimit → A.handled = none →
    Fr h₀ L s.heap (itM xa) → News h₀ L s.heap news → (xa, instObj 196 da) ∈ news → (da, dictOf (rectEs w.params ka1 ka2 ka3 ka4 ka5 (.int wa ta1) (.int ha ta2) (.int x1 ta3) (.int y1 ta4) ra) na) ∈ news →
    (∀ x d k1 k2 t1 t2 n h' tk, Fr h₀ L h' (itM xa) → News h₀ L h' ((x, instObj 45 d) :: (d, dictOf (ptEs w.params k1 k2 (.int (x1 + wa) t1) (.int (y1 + ha) t2)) n) :: news) → (∀ p ∈ news, p.1 < d) → d < x → Q (.ref x) { s with heap := h', toks := tk }) →
    wpAny (model PySem.Challenge.rw_kx0087_01.row.prog w) A (eval (.Attribute (.Name (Str.ofString "self") p1) (Str.ofString "corner_top_r") p2) (itEnv L)) Q E s := by
  k_fill
  intro X B T hA hroom hh F N hxa hda hQ
  dsimp only [itEnv, itScope, itDef, scopeOf, nthSt, clsBody, PySem.Challenge.pw_kx0087_01] at *
  have hf : (itEnv L).frame = some L := rfl
  have hk : (itEnv L).scope.kind = .function := rfl
  k_steps
  exact hQ _ _ _ _ _ _ _ _ _ (by assumption) (by assumption) (by assumption) (by assumption)
set_option maxRecDepth 100000 in
set_option maxHeartbeats 8000000 in
theorem it_corner_bot_r {w : World} {A₀ A : Around} {outer : List Env} {base h₀ : Heap} {L : Addr} {mg mb : Str → Option Value} {mean : ExcName → Option Value} {news : List (Addr × Obj)} {s : Shared} {E : Value → Shared → Prop} {Q : Value → Shared → Prop} {xa da : Addr} {ka1 ka2 ka3 ka4 ka5 : Tok} {wa ha x1 y1 : Int} {ra : Value} {ta1 ta2 ta3 ta4 : Tok} {na : Nat} {p1 p2 : Pos} :
    (hd.heap_39 w.params).In h₀ → Below A₀ base outer h₀ → Top hd.view_39 (looseW hd.view_39 [Str.ofString "Rectangle"]) mean mg mb h₀ → A.frames = some (itEnv L :: outer) → A.depth + 20 < recursionLimit → A.handled = none →
    Fr h₀ L s.heap (itM xa) → News h₀ L s.heap news → (xa, instObj 196 da) ∈ news → (da, dictOf (rectEs w.params ka1 ka2 ka3 ka4 ka5 (.int wa ta1) (.int ha ta2) (.int x1 ta3) (.int y1 ta4) ra) na) ∈ news →
    (∀ x d k1 k2 t1 t2 n h' tk, Fr h₀ L h' (itM xa) → News h₀ L h' ((x, instObj 45 d) :: (d, dictOf (ptEs w.params k1 k2 (.int (x1 + wa) t1) (.int (y1) t2)) n) :: news) → (∀ p ∈ news, p.1 < d) → d < x → Q (.ref x) { s with heap := h', toks := tk }) →
    wpAny (model PySem.Challenge.rw_kx0087_01.row.prog w) A (eval (.Attribute (.Name (Str.ofString "self") p1) (Str.ofString "corner_bot_r") p2) (itEnv L)) Q E s := by
  k_fill
  intro X B T hA hroom hh F N hxa hda hQ
  dsimp only [itEnv, itScope, itDef, scopeOf, nthSt, clsBody, PySem.Challenge.pw_kx0087_01] at *
  have hf : (itEnv L).frame = some L := rfl
  have hk : (itEnv L).scope.kind = .function := rfl
  k_steps
  exact hQ _ _ _ _ _ _ _ _ _ (by assumption) (by assumption) (by assumption) (by assumption)
set_option maxRecDepth 100000 in
set_option maxHeartbeats 8000000 in
theorem it_corner_bot_l {w : World} {A₀ A : Around} {outer : List Env} {base h₀ : Heap} {L : Addr} {mg mb : Str → Option Value} {mean : ExcName → Option Value} {news : List (Addr × Obj)} {s : Shared} {E : Value → Shared → Prop} {Q : Value → Shared → Prop} {xa da : Addr} {ka1 ka2 ka3 ka4 ka5 : Tok} {wa ha x1 y1 : Int} {ra : Value} {ta1 ta2 ta3 ta4 : Tok} {na : Nat} {p1 p2 : Pos} :
    (hd.heap_39 w.params).In h₀ → Below A₀ base outer h₀ → Top hd.view_39 (looseW hd.view_39 [Str.ofString "Rectangle"]) mean mg mb h₀ → A.frames = some (itEnv L :: outer) → A.depth + 20 < recursionLimit → A.handled = none →
    Fr h₀ L s.heap (itM xa) → News h₀ L s.heap news → (xa, instObj 196 da) ∈ news → (da, dictOf (rectEs w.params ka1 ka2 ka3 ka4 ka5 (.int wa ta1) (.int ha ta2) (.int x1 ta3) (.int y1 ta4) ra) na) ∈ news →
    (∀ x d k1 k2 t1 t2 n h' tk, Fr h₀ L h' (itM xa) → News h₀ L h' ((x, instObj 45 d) :: (d, dictOf (ptEs w.params k1 k2 (.int (x1) t1) (.int (y1) t2)) n) :: news) → (∀ p ∈ news, p.1 < d) → d < x → Q (.ref x) { s with heap := h', toks := tk }) →
    wpAny (model PySem.Challenge.rw_kx0087_01.row.prog w) A (eval (.Attribute (.Name (Str.ofString "self") p1) (Str.ofString "corner_bot_l") p2) (itEnv L)) Q E s := by
  k_fill
  intro X B T hA hroom hh F N hxa hda hQ
  dsimp only [itEnv, itScope, itDef, scopeOf, nthSt, clsBody, PySem.Challenge.pw_kx0087_01] at *
  have hf : (itEnv L).frame = some L := rfl
  have hk : (itEnv L).scope.kind = .function := rfl
  k_steps
  exact hQ _ _ _ _ _ _ _ _ _ (by assumption) (by assumption) (by assumption) (by assumption)
end
section
/-- all that a heap holds beyond g and the frame C -/
def allNew (g : Heap) (C : Nat) (h : Heap) : List (Addr × Obj) :=
  List.filterMap (fun a : Nat => if a = C then none else match g.get? a with | some _ => none | none => (h.get? a).map fun o => ((a : Addr), o)) (List.range h.objs.size)
theorem allNew_mem {g h : Heap} {C a : Nat} {o : Obj} (e : h.get? a = some o) (hg : g.get? a = none) (hC : a ≠ C) : (a, o) ∈ allNew g C h := by
  refine List.mem_filterMap.mpr ⟨a, List.mem_range.mpr (Heap.lt_size e), ?_⟩
  rw [if_neg hC, hg, e]; rfl
theorem allNew_news (g : Heap) (C : Nat) (h : Heap) : News g C h (allNew g C h) := by
  intro p hp
  obtain ⟨a, _, ha⟩ := List.mem_filterMap.mp hp
  split at ha
  · cases ha
  · rename_i hC
    split at ha
    · cases ha
    · rename_i hg
      obtain ⟨o, ho, rfl⟩ := Option.map_eq_some_iff.mp ha
      exact ⟨ho, hC, hg⟩
theorem keep_all {g h h' : Heap} {C : Nat} {m m' : Str → Option Value} {ex : List (Addr × Obj)} (F : Fr g C h m) (F' : Fr g C h' m') (N' : News g C h' ex) (hs : ∀ p ∈ allNew g C h, p ∈ ex) :
    ∀ b o, b ≠ C → h.get? b = some o → h'.get? b = some o := fun b o hb e => by
  cases q : g.get? b with
  | some o' =>
    have := F.keep b o' q
    rw [e] at this
    cases this
    exact F'.keep b _ q
  | none => exact (N' _ (hs _ (allNew_mem e q hb))).1

def cornerOf (x1 y1 wa ha : Int) : Nat → Int × Int
  | 0 => (x1, y1)
  | 1 => (x1 + wa, y1)
  | 2 => (x1 + wa, y1 + ha)
  | _ => (x1, y1 + ha)

/-- the generator's ground: its frame, its rectangle -/
structure GI (g : Heap) (C : Nat) (xa da : Addr) (dA : Obj) (h : Heap) : Prop where
  F : Fr g C h (itM xa)
  N : News g C h [(xa, instObj 196 da), (da, dA)]
/-- a step that makes a point -/
def PtStep (P : Params) (g : Heap) (C : Nat) (xa : Addr) (px py : Int) (s : Shared) (v : Value) (s' : Shared) : Prop :=
  ∃ x d k1 k2 t1 t2 n h' tk, v = .ref x ∧ s' = { s with heap := h', toks := tk } ∧ (∀ b o, b ≠ C → s.heap.get? b = some o → h'.get? b = some o) ∧ Fr g C h' (itM xa) ∧
    h'.get? x = some (instObj 45 d) ∧ h'.get? d = some (dictOf (ptEs P k1 k2 (.int px t1) (.int py t2)) n) ∧ (∀ (b : Nat) o, b ≠ C → g.get? b = none → s.heap.get? b = some o → b < d) ∧ d < x
def itY (P : Params) (g : Heap) (C : Nat) (xa da : Addr) (dA : Obj) (x1 y1 wa ha : Int) : Protocol := fun n s₀ v s₁ kap =>
  PtStep P g C xa (cornerOf x1 y1 wa ha n).1 (cornerOf x1 y1 wa ha n).2 s₀ v s₁ ∧ ∀ s₂, GI g C xa da dA s₂.heap → kap (.send .none) s₂

section
variable {w : World} {A₀ A : Around} {outer : List Env} {base g : Heap} {C : Nat} {mg mb : Str → Option Value} {mean : ExcName → Option Value} {xa da : Addr} {ka1 ka2 ka3 ka4 ka5 : Tok} {wa ha x1 y1 : Int} {ra : Value} {ta1 ta2 ta3 ta4 : Tok} {na : Nat}
theorem it_step {nm : Str} {px py : Int} {s : Shared} {E : Value → Shared → Prop} {p1 p2 : Pos}
    (walk : ∀ {news : List (Addr × Obj)} {Q : Value → Shared → Prop}, Fr g C s.heap (itM xa) → News g C s.heap news → (xa, instObj 196 da) ∈ news → (da, dictOf (rectEs w.params ka1 ka2 ka3 ka4 ka5 (.int wa ta1) (.int ha ta2) (.int x1 ta3) (.int y1 ta4) ra) na) ∈ news →
      (∀ x d k1 k2 t1 t2 n h' tk, Fr g C h' (itM xa) → News g C h' ((x, instObj 45 d) :: (d, dictOf (ptEs w.params k1 k2 (.int px t1) (.int py t2)) n) :: news) → (∀ p ∈ news, p.1 < d) → d < x → Q (.ref x) { s with heap := h', toks := tk }) →
      wpAny (model PySem.Challenge.rw_kx0087_01.row.prog w) A (eval (.Attribute (.Name (Str.ofString "self") p1) nm p2) (itEnv C)) Q E s)
    (H : GI g C xa da (dictOf (rectEs w.params ka1 ka2 ka3 ka4 ka5 (.int wa ta1) (.int ha ta2) (.int x1 ta3) (.int y1 ta4) ra) na) s.heap) : wpAny (model PySem.Challenge.rw_kx0087_01.row.prog w) A (eval (.Attribute (.Name (Str.ofString "self") p1) nm p2) (itEnv C)) (PtStep w.params g C xa px py s) E s := by
  have n1 := H.N (xa, instObj 196 da) List.mem_cons_self
  have n2 := H.N (da, dictOf (rectEs w.params ka1 ka2 ka3 ka4 ka5 (.int wa ta1) (.int ha ta2) (.int x1 ta3) (.int y1 ta4) ra) na) (List.mem_cons_of_mem _ List.mem_cons_self)
  refine walk H.F (allNew_news g C s.heap) (allNew_mem n1.1 n1.2.2 n1.2.1) (allNew_mem n2.1 n2.2.2 n2.2.1) ?_
  intro x d k1 k2 t1 t2 n h' tk F' N' l1 l2
  exact ⟨x, d, k1, k2, t1, t2, n, h', tk, rfl, rfl, keep_all H.F F' N' (fun p hp => List.mem_cons_of_mem _ (List.mem_cons_of_mem _ hp)), F', (N' _ List.mem_cons_self).1, (N' _ (List.mem_cons_of_mem _ List.mem_cons_self)).1, fun b o hb hg e => l1 _ (allNew_mem e hg hb), l2⟩

noncomputable def itBody : List Stmt := bodyOf itDef

theorem iter_goes {s : Shared} (X : (hd.heap_39 w.params).In g) (B : Below A₀ base outer g) (T : Top hd.view_39 (looseW hd.view_39 [Str.ofString "Rectangle"]) mean mg mb g)
    (hA : A.frames = some outer) (hroom : A.depth + 25 < recursionLimit) (hh : A.handled = none) (H : GI g C xa da (dictOf (rectEs w.params ka1 ka2 ka3 ka4 ka5 (.int wa ta1) (.int ha ta2) (.int x1 ta3) (.int y1 ta4) ra) na) s.heap) :
    (GenState.fresh (.func itBody (itEnv C))).Goes (model PySem.Challenge.rw_kx0087_01.row.prog w) A (fun n s₀ r s₁ => r = .ok (.ret .none) ∧ n = 0 ∧ s₁ = s₀) (itY w.params g C xa da (dictOf (rectEs w.params ka1 ka2 ka3 ka4 ka5 (.int wa ta1) (.int ha ta2) (.int x1 ta3) (.int y1 ta4) ra) na) x1 y1 wa ha) 4 (.send .none) s := by
  refine ⟨rfl, seg_func ?_⟩
  have hA' : (A.over (.func itBody (itEnv C)) []).frames = some (itEnv C :: outer) := by
    show pushEnvs [itEnv C] (pushEnvs [] A.frames) = _
    rw [hA]; rfl
  have hr' : (A.over (.func itBody (itEnv C)) []).depth + 20 < recursionLimit := by
    have e : (A.over (.func itBody (itEnv C)) []).depth = A.depth + 0 + 1 := rfl
    rw [e]; omega
  have hh' : (A.over (.func itBody (itEnv C)) []).handled = none := by
    show (marksOver [] (A.handled, A.handled)).1 = none
    exact hh
  dsimp only [itBody, itDef, bodyOf, nthSt, clsBody, PySem.Challenge.pw_kx0087_01]
  refine seg_execs_cons (seg_Expr_Yield (n := 3) rfl rfl rfl (wpAny_mono (it_step (fun F N a b k => it_corner_top_l X B T hA' hr' hh' F N a b k) H) (fun v s1 h1 kap hk => ⟨h1, fun s₂ H₂ => hk .none s₂ ?_⟩) fun _ _ e => e))
  refine seg_execs_cons (seg_Expr_Yield (n := 2) rfl rfl rfl (wpAny_mono (it_step (fun F N a b k => it_corner_top_r X B T hA' hr' hh' F N a b k) H₂) (fun v s1 h1 kap hk => ⟨h1, fun s₂ H₂ => hk .none s₂ ?_⟩) fun _ _ e => e))
  refine seg_execs_cons (seg_Expr_Yield (n := 1) rfl rfl rfl (wpAny_mono (it_step (fun F N a b k => it_corner_bot_r X B T hA' hr' hh' F N a b k) H₂) (fun v s1 h1 kap hk => ⟨h1, fun s₂ H₂ => hk .none s₂ ?_⟩) fun _ _ e => e))
  refine seg_execs_cons (seg_Expr_Yield (n := 0) rfl rfl rfl (wpAny_mono (it_step (fun F N a b k => it_corner_bot_l X B T hA' hr' hh' F N a b k) H₂) (fun v s1 h1 kap hk => ⟨h1, fun s₂ H₂ => hk .none s₂ ?_⟩) fun _ _ e => e))
  exact seg_execs_nil (seg_end (.ok (.ret .none)) ⟨rfl, rfl, rfl⟩)
end
end
section
local macro_rules | `(tactic| walk_at "idle 0") => `(tactic| skip)
theorem gen_def {prog : Program} {w : World} {A₀ A : Around} {outer : List Env} {base h₀ : Heap} {L : Addr} {m mg mb : Str → Option Value} {mean : ExcName → Option Value} {news : List (Addr × Obj)} {s : Shared} {R : Result → Shared → Prop} {K : Frag} {p : Program} {loose : List Str}
    {name qual : Str} {params : Arguments} {body : List Stmt} {scope : Scope} {dV kV doc pm cdv ct oc : Value} {an od : Option Addr} {osl : Array (Option Value)} {f : Addr} {args : Args} {binds : List (Str × Value)}
    (_B : Below A₀ base outer h₀) (F : Fr h₀ L s.heap m) (X₀ : K.In h₀) (_N : News h₀ L s.heap news) (T : Top p loose mean mg mb h₀)
    (ho : K.lookup f = some ⟨oc, od, .func (fnOf name qual params body scope dV kV doc pm an cdv ct), osl⟩) (hcd : codeIn K cdv qual = true) (hroom : A.depth < recursionLimit)
    (hbind : bindArgs (fnOf name qual params body scope dV kV doc pm an cdv ct) args = pure binds) (hloc : ∀ y ∈ binds, scope.names.lookup y.1 = some .local)
    (hco : scope.isCoroutine = false) (hgen : scope.isGenerator = true) (hk : scope.kind = .function) (hcell : ∀ x ∈ scope.names, x.2 ≠ .cell)
    (h : ∀ h₁ : Heap, h₁.Ns s.heap.objs.size (fun y => binds.reverse.lookup y) → (∀ b o, s.heap.get? b = some o → h₁.get? b = some o) → h₁.objs.size = s.heap.objs.size + 1 → ∀ tk,
      R (.ok (.ret (.ref h₁.objs.size))) { s with heap := h₁.push { cls := .type "generator", data := .fields #[.int s.gens.size 0, .str name (tk), .str qual (tk + 1)] }, toks := tk + 1 + 1, gens := s.gens.push (.fresh (.func body (envOf qual scope s.heap.objs.size f cdv))) }) :
    codeAny (model prog w) A (.call (.ref f) args) R s := by
  refine codeAny_call_generator (fd := fnOf name qual params body scope dV kV doc pm an cdv ct) (body := body) hroom ((X₀.keeps F.keep) _ _ ho) rfl hco hgen rfl (codeRec_of (X₀.keeps F.keep) hcd) ?_
  rw [hbind]
  refine wpAny_pure (wpAny_newFunctionEnv hcell hloc (fun h₁ hns hsb => ?_) hk)
  have keep : ∀ b o, s.heap.get? b = some o → h₁.get? b = some o := fun b o e => hsb.extBut b o (Nat.ne_of_lt (Heap.lt_size e)) (Heap.get?_push_of_some _ e)
  refine ⟨(T.nolimit.keeps F.keep).keeps keep, ?_⟩
  exact h h₁ hns keep (by rw [hsb.1, Heap.size_push]) _

/-- what a fresh corner generator of the rectangle xa brings -/
structure Made (w : World) (A₀ A : Around) (base h₀ : Heap) (env : Env) (outer : List Env) (L : Addr) (m mg mb : Str → Option Value) (mean : ExcName → Option Value) (news : List (Addr × Obj)) (xa da : Addr) (dA : Obj) (s : Shared) (C G : Nat) (g h' : Heap) : Prop where
  gi : GI g C xa da dA h'
  gen : h'.IsGen G s.gens.size
  X : (hd.heap_39 w.params).In g
  B : Below A base (env :: outer) g
  T : Top hd.view_39 (looseW hd.view_39 [Str.ofString "Rectangle"]) mean mg mb g
  FG : Fr h₀ L g m
  low : ∀ b o, g.get? b = some o → s.heap.get? b = some o
  keep : ∀ b o, s.heap.get? b = some o → h'.get? b = some o
  hid : ∀ p ∈ news, g.get? p.1 = none
  hC : s.heap.objs.size ≤ C
  hG : C < G
  lim : h'.NoLimit
  gsz : g.objs.size = s.heap.objs.size

set_option maxRecDepth 100000 in
set_option maxHeartbeats 8000000 in
theorem pyIter_rect {w : World} {A₀ A : Around} {env : Env} {outer : List Env} {base h₀ : Heap} {L : Addr} {m mg mb : Str → Option Value} {mean : ExcName → Option Value} {news : List (Addr × Obj)} {s : Shared} {E : Value → Shared → Prop} {Q : Value → Shared → Prop} {xa da : Addr} {ka1 ka2 ka3 ka4 ka5 : Tok} {wa ha x1 y1 : Int} {ra : Value} {ta1 ta2 ta3 ta4 : Tok} {na : Nat} :
    (hd.heap_39 w.params).In h₀ → Below A₀ base outer h₀ → Top hd.view_39 (looseW hd.view_39 [Str.ofString "Rectangle"]) mean mg mb h₀ → A.frames = some (env :: outer) → env.frame = some L → env.scope.kind = .function → A.depth + 20 < recursionLimit → A.handled = none →
    Fr h₀ L s.heap m → News h₀ L s.heap news →
    (xa, instObj 196 da) ∈ news → (da, dictOf (rectEs w.params ka1 ka2 ka3 ka4 ka5 (.int wa ta1) (.int ha ta2) (.int x1 ta3) (.int y1 ta4) ra) na) ∈ news →
    (∀ (C G : Nat) g h' tk, Made w A₀ A base h₀ env outer L m mg mb mean news xa da (dictOf (rectEs w.params ka1 ka2 ka3 ka4 ka5 (.int wa ta1) (.int ha ta2) (.int x1 ta3) (.int y1 ta4) ra) na) s C G g h' → Q (.ref G) { s with heap := h', toks := tk, gens := s.gens.push (.fresh (.func itBody (itEnv C))) }) →
    wpAny (model PySem.Challenge.rw_kx0087_01.row.prog w) A (pyIter (.ref xa)) Q E s := by
  k_fill
  intro X B T hA hf hk hroom hh F N hxa hda hQ
  obtain ⟨FG, BG, st, _⟩ := groundX (R := fun _ _ => True) B F N hA hf hk
  refine owit_iter (C := 196) (f := 149) F X (by k_inst) (by k_dflt k_is) (by k_dflt k_is) (wpAny_call ?_)
  refine' gen_def (qual := Str.ofString "Rectangle.__iter__") (binds := [(Str.ofString "self", .ref xa)]) B F X N T ?ho ?hcd (by omega) ?hb ?hl ?co ?ge ?ki ?ce ?_
  case ho => k_dflt k_is
  case hcd => k_dflt k_is
  case hb => rfl
  case hl => exact locs rfl
  case co => rfl
  case ge => rfl
  case ki => rfl
  case ce => decide
  intro h₁ ns keep hsz tk
  have hg0 : ∀ p ∈ news, (hideAll s.heap (news.map fun p : Addr × Obj => p.1)).get? p.1 = none := fun p hp => hideAll_none _ (List.mem_map_of_mem hp)
  have low : ∀ b o, (hideAll s.heap (news.map fun p : Addr × Obj => p.1)).get? b = some o → s.heap.get? b = some o := fun b o e => of_hideAll _ e
  have up : ∀ (o : Obj) b x, h₁.get? b = some x → (h₁.push o).get? b = some x := fun o b x e => Heap.get?_push_of_some _ e
  show OwitIt _ _ _ _ (.ref h₁.objs.size) _
  unfold OwitIt
  have hT : ∀ (o : Obj), o.isFreed = false → o.cls = .type "generator" → ({ s with heap := h₁.push o, toks := tk + 1 + 1, gens := s.gens.push (.fresh (.func itBody (itEnv s.heap.objs.size))) } : Shared).TypeIs (.ref h₁.objs.size) "generator" := fun o hfr hc => ⟨o, Heap.get?_push_size _ hfr, hc⟩
  refine wpAny_specialOf (hT _ rfl rfl) slot_gen_next.lookup ?_
  refine hQ s.heap.objs.size h₁.objs.size (hideAll s.heap (news.map fun p : Addr × Obj => p.1)) _ _ ⟨⟨⟨?_, ?_, ?_⟩, ?_⟩, ⟨_, _, _, Heap.get?_push_size _ rfl, rfl, rfl, rfl⟩, X.keeps st, BG, T.keeps st, FG, low, fun b o e => up _ _ _ (keep b o e), hg0, Nat.le_refl _, by rw [hsz]; exact Nat.lt_succ_self _, ((T.nolimit.keeps F.keep).keeps keep).keeps (up _), hideAll_size _ _⟩
  · exact ns.keeps (up _)
  · exact fun b o e => up _ _ _ (keep _ _ (low b o e))
  · exact Nat.le_of_eq (hideAll_size _ _)
  · intro p hp
    have z : ∀ q ∈ news, (h₁.push { cls := .type "generator", data := .fields #[.int s.gens.size 0, .str (Str.ofString "__iter__") tk, .str (Str.ofString "Rectangle.__iter__") (tk + 1)] }).get? q.1 = some q.2 ∧ q.1 ≠ s.heap.objs.size ∧ (hideAll s.heap (news.map fun p : Addr × Obj => p.1)).get? q.1 = none :=
      fun q hq => ⟨up _ _ _ (keep _ _ (N q hq).1), Nat.ne_of_lt (Heap.lt_size (N q hq).1), hg0 q hq⟩
    rcases List.mem_cons.mp hp with rfl | hp
    · exact z _ hxa
    · rw [List.mem_singleton.mp hp]; exact z _ hda
end
section
def itemAt (x1 y1 wa ha r u : Int) (j : Nat) : Int × Int := ((cornerOf x1 y1 wa ha (3 - j)).1 - r, (cornerOf x1 y1 wa ha (3 - j)).2 - u)
/-- the element of a turn over points: a fresh pair, the point seen from (r, u) -/
def EltPt (w : World) (A : Around) (env : Env) (elt : Expr) (xn : Str) (scope : Scope) (cl : List (Str × Addr)) (news : List (Addr × Obj)) (r u : Int) : Prop :=
  ∀ (s : Shared) (Cc : Nat) (m₂ : Str → Option Value) (x d : Addr) (k1 k2 : Tok) (px py : Int) (t1 t2 : Tok) (n : Nat) (E' : Value → Shared → Prop), (hd.heap_39 w.params).In s.heap → (∀ p ∈ news, s.heap.get? p.1 = some p.2) → s.heap.Ns Cc m₂ → m₂ xn = some (.ref x) →
    s.heap.get? x = some (instObj 45 d) → s.heap.get? d = some (dictOf (ptEs w.params k1 k2 (.int px t1) (.int py t2)) n) →
    wpAny (model PySem.Challenge.rw_kx0087_01.row.prog w) A (eval elt (compEnvC scope cl Cc env)) (fun y s' => ∃ (a : Nat) (h' : Heap) (tk' : Nat) (t t' : Tok), y = .ref a ∧ s' = { s with heap := h', toks := tk' } ∧ (∀ b o, s.heap.get? b = some o → h'.get? b = some o) ∧ h'.get? a = some (tupO (px - r) t (py - u) t') ∧ s.heap.objs.size ≤ a) E' s

theorem isGen_at {h h' : Heap} {a : Addr} {g : Nat} (x : h.IsGen a g) (k : ∀ o, h.get? a = some o → h'.get? a = some o) : h'.IsGen a g := let ⟨o, nm, qn, e, r⟩ := x; ⟨o, nm, qn, k _ e, r⟩
theorem setIf_push {α : Type} (xs : Array α) (a b : α) : (xs.push a).setIfInBounds xs.size b = xs.push b := by
  apply Array.ext'
  simp [Array.toList_setIfInBounds, List.set_append]

theorem corners_assign {w : World} {A₀ A : Around} {env : Env} {outer : List Env} {base h₀ : Heap} {m mg mb : Str → Option Value} {mean : ExcName → Option Value} {news : List (Addr × Obj)} {s : Shared} {E : Value → Shared → Prop} {Q : Flow → Shared → Prop} {xa da : Addr} {ka1 ka2 ka3 ka4 ka5 : Tok} {wa ha x1 y1 : Int} {ra : Value} {ta1 ta2 ta3 ta4 : Tok} {na : Nat}
    {xn y : Str} {px py : Pos} {iter elt : Expr} {scope : Scope} {cl : List (Str × Addr)} {pos spos : Pos} {r u : Int}
    (X₀ : (hd.heap_39 w.params).In h₀) (B₀ : Below A₀ base outer h₀) (T₀ : Top hd.view_39 (looseW hd.view_39 [Str.ofString "Rectangle"]) mean mg mb h₀) (hA : A.frames = some (env :: outer)) (hf : env.frame = some env.locals) (hke : env.scope.kind = .function)
    (hroom : A.depth + 60 < recursionLimit) (hh : A.handled = none)
    (F₀ : Fr h₀ env.locals s.heap m) (N₀ : News h₀ env.locals s.heap news) (hxa : (xa, instObj 196 da) ∈ news) (hda : (da, dictOf (rectEs w.params ka1 ka2 ka3 ka4 ka5 (.int wa ta1) (.int ha ta2) (.int x1 ta3) (.int y1 ta4) ra) na) ∈ news)
    (hsw : swapsWith (.ListComp elt [⟨.Name xn px, iter, [], 0⟩] scope pos) (some (.Name y py)) spos.line env = pure true)
    (hclos : closureFor scope env = pure cl) (hcell : ∀ z ∈ scope.names, z.2 ≠ .cell) (hkind : scope.kind = .function)
    (hnames : ∀ z ∈ scope.names, z.2 = .local → scope.names.lookup z.1 = some .local) (hx : scope.names.lookup xn = some .local)
    (hy : env.kindOf y = some .local) (hpp : (env.scope.kind == .class || (env.scope.kind == .module && env.locals != env.globals)) = false) (hs : ∀ x, foldedSetIterable iter env x = pure x)
    (helt : EltPt w A env elt xn scope cl news r u)
    (h : wpAny (model PySem.Challenge.rw_kx0087_01.row.prog w) A (eval iter env) (fun xv s' => ∃ (h' : Heap) (tk' : Nat), xv = .ref xa ∧ s' = { s with heap := h', toks := tk' } ∧ Fr h₀ env.locals h' m ∧ News h₀ env.locals h' news) E s)
    (hQ : ∀ (D : Nat) tl ys h' tk, Fr h₀ env.locals h' (fun z => if z = y then some (.ref D) else m z) → News h₀ env.locals h' ((D, LCg.lst ys) :: (tl ++ news)) → Paired (TupIn tl) ys ((List.range 4).map (itemAt x1 y1 wa ha r u)) → (∀ p ∈ news, p.1 < D) → (∀ p ∈ tl, D < p.1) →
      Q .next { s with heap := h', toks := tk, gens := s.gens.push .finished }) :
    wpAny (model PySem.Challenge.rw_kx0087_01.row.prog w) A (exec (.Assign [.Name y py] (.ListComp elt [⟨.Name xn px, iter, [], 0⟩] scope pos) spos) env) Q E s := by
  rw [exec_Assign_Name_used _ _ _ _ hsw]
  refine wpAny_bind (wpAny_standAt (wpAny_bind ?_))
  show wpAny _ A (do let _ ← comprehension (.ListComp elt [⟨.Name xn px, iter, [], 0⟩] scope pos) scope env _ (newList []) false (eval iter env) (some (assign (.Name y py) env))) _ _ s
  refine wpAny_bind (wpAny_mono (wpAny_comprehension_free (use := some (assign (.Name y py) env)) (Q := fun _ s' => Q .next s') rfl hs hclos hkind hnames
    (wpAny_mono h (fun xv s₁ h₁ => ?_) fun _ _ e => e)) (fun _ s' hq => wpAny_pure (wpAny_pure hq)) fun _ _ e => e)
  obtain ⟨h0, tk0, rfl, rfl, F, N⟩ := h₁
  refine pyIter_rect X₀ B₀ T₀ hA hf hke (by omega) hh F N hxa hda ?_
  intro C G g h1 tk1 Md
  refine wpAny_newObj_type (wpAny_newFunctionEnv hcell (by intro y hy; simp at hy) (fun h₂ hns₂ hsb₂ => ?_) hkind)
  dsimp only at hns₂ hsb₂ ⊢
  have hsC : s.gens.size = ({ s with heap := h0, toks := tk0 } : Shared).gens.size := rfl
  have up : ∀ (g : Heap) (o : Obj) b x, g.get? b = some x → (g.push o).get? b = some x := fun g o b x e => Heap.get?_push_of_some _ e
  have hLs : @LE.le Nat _ h₀.objs.size env.locals := F.above
  have none₀ : ∀ a : Nat, env.locals ≤ a → h₀.get? a = none := fun a ha => Heap.get?_none_of_le (Nat.le_trans hLs ha)
  have hgs : g.objs.size ≤ C := Md.gi.F.above
  have noneG : ∀ a : Nat, C ≤ a → g.get? a = none := fun a ha => Heap.get?_none_of_le (Nat.le_trans hgs ha)
  have hL0 : @LT.lt Nat _ env.locals h0.objs.size := F.ns.lt
  have hC0 : h0.objs.size ≤ C := Md.hC
  have hCG : C < G := Md.hG
  have hG1 : G < h1.objs.size := by obtain ⟨o, _, _, e, _⟩ := Md.gen; exact Heap.lt_size e
  generalize hH2 : h1.push { cls := .type "list", dict := none, data := .seq ([] : List Value).toArray } = H2 at hns₂ hsb₂ ⊢
  have eC : H2.objs.size = h1.objs.size + 1 := by rw [← hH2, Heap.size_push]
  have keep2 : ∀ b o, b ≠ H2.objs.size → H2.get? b = some o → h₂.get? b = some o := fun b o hb e => hsb₂.extBut b o hb (up _ _ _ _ e)
  have lt1 : ∀ (b : Nat) (o : Obj), h1.get? b = some o → b < h1.objs.size := fun b o e => Heap.lt_size e
  have keep : ∀ b o, h1.get? b = some o → h₂.get? b = some o := fun b o e => keep2 b o (Nat.ne_of_lt (Nat.lt_of_lt_of_le (lt1 b o e) (by omega))) (by rw [← hH2]; exact up _ _ _ _ e)
  have hD : h₂.get? h1.objs.size = some (LCg.lst []) := keep2 _ _ (by show (h1.objs.size : Nat) ≠ _; omega) (by rw [← hH2]; exact Heap.get?_push_size _ rfl)
  have lowN : ∀ p ∈ news, p.1 < h0.objs.size := fun p hp => Heap.lt_size (N p hp).1
  have giK : ∀ {u1 u2 : Heap}, GI g C xa da (dictOf (rectEs w.params ka1 ka2 ka3 ka4 ka5 (.int wa ta1) (.int ha ta2) (.int x1 ta3) (.int y1 ta4) ra) na) u1 → (∀ b o, u1.get? b = some o → u2.get? b = some o) → GI g C xa da (dictOf (rectEs w.params ka1 ka2 ka3 ka4 ka5 (.int wa ta1) (.int ha ta2) (.int x1 ta3) (.int y1 ta4) ra) na) u2 := fun H k => ⟨H.F.keeps k, H.N.grown k⟩
  have giS : ∀ {u1 u2 : Heap} (d : Nat), h0.objs.size ≤ d → d ≠ C → GI g C xa da (dictOf (rectEs w.params ka1 ka2 ka3 ka4 ka5 (.int wa ta1) (.int ha ta2) (.int x1 ta3) (.int y1 ta4) ra) na) u1 → Heap.SameBut d u1 u2 → GI g C xa da (dictOf (rectEs w.params ka1 ka2 ka3 ka4 ka5 (.int wa ta1) (.int ha ta2) (.int x1 ta3) (.int y1 ta4) ra) na) u2 := fun d hd hdC H hs => by
    refine ⟨H.F.change hs hdC (Heap.get?_none_of_le (Nat.le_trans (Nat.le_of_eq Md.gsz) hd)), fun p hp => ⟨hs.extBut _ _ ?_ (H.N p hp).1, (H.N p hp).2⟩⟩
    rcases List.mem_cons.mp hp with rfl | hp
    · exact Nat.ne_of_lt (Nat.lt_of_lt_of_le (lowN _ hxa) hd)
    · rw [List.mem_singleton.mp hp]; exact Nat.ne_of_lt (Nat.lt_of_lt_of_le (lowN _ hda) hd)
  have loop : ∀ s₃ : Shared, s₃ = { s with heap := h₂, toks := tk1 + ([] : List (Str × Value)).length, gens := s.gens.push (.fresh (.func itBody (itEnv C))) } →
      codeAny (model PySem.Challenge.rw_kx0087_01.row.prog w) A (.compLoop (.ListComp elt [⟨.Name xn px, iter, [], 0⟩] scope pos) 0 (.ref G) (.ref h1.objs.size) (compEnvC scope cl H2.objs.size env))
        (compPost (model PySem.Challenge.rw_kx0087_01.row.prog w) A E (some (assign (.Name y py) env)) (fun _ s' => Q .next s') (.ref h1.objs.size) H2.objs.size) s₃ := by
    rintro s₃ rfl
    refine codeAny_compLoop_list
      (fun k s' => ∃ h' tk gs j tl ys m', s' = { s with heap := h', toks := tk, gens := s.gens.push gs } ∧ j ≤ 4 ∧ k = 5 - j ∧
        (∀ s₂ : Shared, GI g C xa da (dictOf (rectEs w.params ka1 ka2 ka3 ka4 ka5 (.int wa ta1) (.int ha ta2) (.int x1 ta3) (.int y1 ta4) ra) na) s₂.heap → gs.Goes (model PySem.Challenge.rw_kx0087_01.row.prog w) A.in1 (fun n s₀ r s₁ => r = .ok (.ret .none) ∧ n = 0 ∧ s₁ = s₀) (itY w.params g C xa da (dictOf (rectEs w.params ka1 ka2 ka3 ka4 ka5 (.int wa ta1) (.int ha ta2) (.int x1 ta3) (.int y1 ta4) ra) na) x1 y1 wa ha) (4 - j) (.send .none) s₂) ∧
        GI g C xa da (dictOf (rectEs w.params ka1 ka2 ka3 ka4 ka5 (.int wa ta1) (.int ha ta2) (.int x1 ta3) (.int y1 ta4) ra) na) h' ∧ h'.IsGen G s.gens.size ∧ h'.Ns H2.objs.size m' ∧ h'.get? h1.objs.size = some (LCg.lst ys) ∧ (∀ p ∈ tl, h'.get? p.1 = some p.2 ∧ H2.objs.size < p.1) ∧
        (∀ b o, b ≠ C → h1.get? b = some o → h'.get? b = some o) ∧ Paired (TupIn tl) ys ((List.range j).map (itemAt x1 y1 wa ha r u))) ?_ 5
      ⟨h₂, _, _, 0, [], [], _, rfl, Nat.zero_le _, rfl, fun s₂ H => iter_goes Md.X Md.B Md.T (by show A.in1.frames = _; exact hA) (by show A.depth + 25 < recursionLimit; omega) (by show A.handled = none; exact hh) H, giK Md.gi keep, Md.gen.keeps keep, hns₂, hD, fun _ hp => (nomatch hp), fun b o _ e => keep b o e, .nil⟩
    rintro k s' ⟨h', tk, gs, j, tl, ys, m', rfl, hj, rfl, hgo, hgi, hgen, hn, hDy, htl, hk1, hp⟩
    have hyl : ys.length = j := by have := hp.length; simpa using this
    refine wpAny_pyNext_gen (g := s.gens.size) (gs := gs) (n := 4 - j) (P := fun n s₀ s₁ => n = 0 ∧ s₁ = s₀) (Y := itY w.params g C xa da (dictOf (rectEs w.params ka1 ka2 ka3 ka4 ka5 (.int wa ta1) (.int ha ta2) (.int x1 ta3) (.int y1 ta4) ra) na) x1 y1 wa ha) hh (Md.T.nolimit.keeps hgi.F.keep) (by omega) hgen (Array.getElem?_push_size ..) (hgo _ hgi) (fun v s₁ gs' hv => ?_) (fun s₁ hs₁ h'' hk'' => ?_)
    · obtain ⟨hst, hnext⟩ := hv
      by_cases h4 : j = 4
      · subst h4
        exact (hnext { s with heap := h' } hgi).elim
      obtain ⟨q, hq⟩ : ∃ q, 4 - j = q + 1 := ⟨3 - j, by omega⟩
      have hnext' : ∀ s₂ : Shared, GI g C xa da (dictOf (rectEs w.params ka1 ka2 ka3 ka4 ka5 (.int wa ta1) (.int ha ta2) (.int x1 ta3) (.int y1 ta4) ra) na) s₂.heap → gs'.Goes (model PySem.Challenge.rw_kx0087_01.row.prog w) A.in1 (fun n s₀ r s₁ => r = .ok (.ret .none) ∧ n = 0 ∧ s₁ = s₀) (itY w.params g C xa da (dictOf (rectEs w.params ka1 ka2 ka3 ka4 ka5 (.int wa ta1) (.int ha ta2) (.int x1 ta3) (.int y1 ta4) ra) na) x1 y1 wa ha) q (.send .none) s₂ := fun s₂ H => by
        have := hnext s₂ H
        rw [hq] at this
        exact this
      have e3 : 4 - j - 1 = 3 - j := by omega
      rw [e3] at hst
      obtain ⟨x, d, k1, k2, t1, t2, n, h3, tk3, rfl, rfl, hk3, F3, hx3, hd3, l1, l2⟩ := hst
      show wpAny _ _ (assign (.Name xn px) (compEnvC scope cl H2.objs.size env) (.ref x)) _ _ { s with heap := h3, toks := tk3, gens := ((s.gens.push gs).setIfInBounds s.gens.size .running).setIfInBounds s.gens.size gs' }
      rw [setIf_push, setIf_push]
      have hCc : H2.objs.size < d := by
        obtain ⟨o, e, _⟩ := LCg.ns_obj hn
        exact l1 _ _ (by show (H2.objs.size : Nat) ≠ C; omega) (noneG _ (by omega)) e
      have hCx : H2.objs.size < x := Nat.lt_trans hCc l2
      have gi3 : GI g C xa da (dictOf (rectEs w.params ka1 ka2 ka3 ka4 ka5 (.int wa ta1) (.int ha ta2) (.int x1 ta3) (.int y1 ta4) ra) na) h3 := ⟨F3, fun p hp => ⟨hk3 _ _ (hgi.N p hp).2.1 (hgi.N p hp).1, (hgi.N p hp).2⟩⟩
      have ns3 : h3.Ns H2.objs.size m' := hn.at' fun o e => hk3 _ o (by show (H2.objs.size : Nat) ≠ C; omega) e
      refine wpAny_assign_Name (wpAny_storeName_local (env := compEnvC scope cl H2.objs.size env) (lookup_relabel_local hx) ns3 (fun h4 hn4 hs4 => ?_) (by simp [compEnvC, relabel, hkind]))
      have gi4 : GI g C xa da (dictOf (rectEs w.params ka1 ka2 ka3 ka4 ka5 (.int wa ta1) (.int ha ta2) (.int x1 ta3) (.int y1 ta4) ra) na) h4 := giS H2.objs.size (by omega) (by omega) gi3 hs4
      have hk4 : ∀ b o, b ≠ H2.objs.size → h3.get? b = some o → h4.get? b = some o := fun b o hb e => hs4.extBut b o hb e
      have hN4 : ∀ p ∈ news, h4.get? p.1 = some p.2 := fun p hp => by
        have lp := lowN p hp
        exact hk4 _ _ (Nat.ne_of_lt (Nat.lt_of_lt_of_le lp (by omega))) (hk3 _ _ (Nat.ne_of_lt (Nat.lt_of_lt_of_le lp hC0)) (hk1 _ _ (Nat.ne_of_lt (Nat.lt_of_lt_of_le lp hC0)) (Md.keep _ _ (N p hp).1)))
      refine wpAny_mono (helt _ H2.objs.size _ x d k1 k2 _ _ t1 t2 n _ (Md.X.keeps gi4.F.keep) hN4 hn4 (by simp) (hk4 _ _ (Nat.ne_of_gt hCx) hx3) (hk4 _ _ (Nat.ne_of_gt hCc) hd3)) (fun y5 s5 h5 => ?_) fun _ _ e => e
      obtain ⟨a, h5, tk5, t5, t5', rfl, rfl, hk5, ha5, hsz5⟩ := h5
      have lt4 : ∀ (b : Nat) (o : Obj), h4.get? b = some o → b < a := fun b o e => Nat.lt_of_lt_of_le (Heap.lt_size e) hsz5
      have hCa : H2.objs.size < a := by obtain ⟨o, e, _⟩ := LCg.ns_obj hn4; exact lt4 _ _ e
      have keepO : ∀ (b : Nat) (o : Obj), b ≠ C → b ≠ H2.objs.size → h'.get? b = some o → h5.get? b = some o := fun b o hb1 hb2 e => hk5 _ _ (hk4 _ _ hb2 (hk3 _ _ hb1 e))
      have zD : h5.get? h1.objs.size = some (LCg.lst ys) := keepO _ _ (by omega) (by omega) hDy
      refine append_at (hsz := by show ys.toArray.size ≤ sizeLine; rw [List.size_toArray, hyl]; exact Nat.le_trans hj (by decide)) zD fun h6 hs6 hD6 => ?_
      refine ⟨5 - (j + 1), by omega, h6, tk5, gs', j + 1, (a, tupO ((cornerOf x1 y1 wa ha (3 - j)).1 - r) t5 ((cornerOf x1 y1 wa ha (3 - j)).2 - u) t5') :: tl, ys ++ [.ref a], _, rfl, by omega, rfl, ?_, giS h1.objs.size (by omega) (by omega) (giK gi4 hk5) hs6,
        isGen_at hgen fun o e => hs6.extBut _ _ (by show (G : Nat) ≠ h1.objs.size; omega) (keepO G o (by omega) (by omega) e), (hn4.keeps hk5).sameBut hs6 (by show (H2.objs.size : Nat) ≠ h1.objs.size; omega), hD6.trans (congrArg some (LCg.lst_snoc ys _)), fun p hp => ?_, fun b o hb e => ?_, ?_⟩
      · have e : 4 - (j + 1) = q := by omega
        rw [e]; exact hnext'
      · rcases List.mem_cons.mp hp with rfl | hp
        · exact ⟨hs6.extBut _ _ (by show (a : Nat) ≠ h1.objs.size; omega) ha5, hCa⟩
        · obtain ⟨z1, z2⟩ := htl p hp
          have z2' : (H2.objs.size : Nat) < p.1 := z2
          refine ⟨hs6.extBut _ _ (Nat.ne_of_gt (Nat.lt_trans (by omega : h1.objs.size < H2.objs.size) z2)) (keepO _ _ (Nat.ne_of_gt (Nat.lt_trans (by omega : C < H2.objs.size) z2)) (Nat.ne_of_gt z2) z1), z2⟩
      · have lb := lt1 b o e
        exact hs6.extBut _ _ (Nat.ne_of_lt lb) (keepO _ _ hb (Nat.ne_of_lt (Nat.lt_trans lb (by omega))) (hk1 _ _ hb e))
      · rw [List.range_succ, List.map_append]
        exact Paired.snoc (paired_imp (fun _ _ => TupIn.mono fun q hq => List.mem_cons_of_mem _ hq) hp) ⟨a, t5, t5', rfl, List.mem_cons_self⟩
    · obtain ⟨hn0, rfl⟩ := hs₁
      obtain rfl : j = 4 := by omega
      show wpAny _ A (assign (.Name y py) env (.ref h1.objs.size)) _ _ { s with heap := h'', toks := tk, gens := ((s.gens.push gs).setIfInBounds s.gens.size .running).setIfInBounds s.gens.size .finished }
      rw [setIf_push, setIf_push]
      have hLC : @Ne Nat env.locals C := by omega
      have keepN : ∀ (b : Nat) (o : Obj), b < h0.objs.size → h0.get? b = some o → h''.get? b = some o := fun b o hb e => hk'' _ _ (hk1 _ _ (by omega) (Md.keep _ _ e))
      have F'' : Fr h₀ env.locals h'' m := ⟨F.ns.at' fun o e => keepN _ o hL0 e, fun b o e => keepN b o (Heap.lt_size (F.keep _ _ e)) (F.keep _ _ e), F.above⟩
      refine wpAny_assign_Name (wpAny_storeName_local hy F''.ns (fun h₃ hn₃ hs₃ => ?_) hpp)
      refine ⟨m', (hn.keeps hk'').sameBut hs₃ (by show @Ne Nat H2.objs.size env.locals; omega), fun h₄ hs₄ => ?_⟩
      have kk : ∀ (b : Nat) (o : Obj), b ≠ env.locals → b ≠ H2.objs.size → h''.get? b = some o → h₄.get? b = some o := fun b o hb1 hb2 e => hs₄.extBut _ _ hb2 (hs₃.extBut _ _ hb1 e)
      refine hQ h1.objs.size tl ys h₄ _ ⟨hn₃.sameBut hs₄ (by show @Ne Nat env.locals H2.objs.size; omega), fun b o e => kk b o ?_ ?_ (F''.keep b o e), F.above⟩ (fun p hp' => ?_) hp (fun p hp' => Nat.lt_of_lt_of_le (lowN p hp') (by omega)) (fun p hp' => Nat.lt_trans (by omega : h1.objs.size < H2.objs.size) (htl p hp').2)
      · have := Heap.lt_size e; have hb : @LT.lt Nat _ b env.locals := Nat.lt_of_lt_of_le this hLs; exact Nat.ne_of_lt hb
      · have := Heap.lt_size e; have hb : @LT.lt Nat _ b env.locals := Nat.lt_of_lt_of_le this hLs; show @Ne Nat b H2.objs.size; omega
      · rcases List.mem_cons.mp hp' with rfl | hp'
        · exact ⟨kk _ _ (by show @Ne Nat h1.objs.size env.locals; omega) (by show @Ne Nat h1.objs.size H2.objs.size; omega) (hk'' _ _ hDy), by show @Ne Nat h1.objs.size env.locals; omega, none₀ h1.objs.size (by show @LE.le Nat _ env.locals h1.objs.size; omega)⟩
        · rcases List.mem_append.mp hp' with hp' | hp'
          · obtain ⟨z1, z2⟩ := htl p hp'
            have z3 : @LT.lt Nat _ env.locals p.1 := Nat.lt_trans (by omega : @LT.lt Nat _ env.locals H2.objs.size) z2
            exact ⟨kk _ _ (Nat.ne_of_gt z3) (Nat.ne_of_gt z2) (hk'' _ _ z1), Nat.ne_of_gt z3, none₀ _ (Nat.le_of_lt z3)⟩
          · have lp := lowN p hp'
            have zN := N p hp'
            exact ⟨kk _ _ zN.2.1 (Nat.ne_of_lt (Nat.lt_of_lt_of_le lp (by omega))) (keepN _ _ lp zN.1), zN.2⟩
  exact codeAny_compStart_list (loop _ rfl) (wpAny_pyIter_gen (Md.gen.keeps keep) (loop _ rfl))
end
section
set_option maxRecDepth 100000 in
set_option maxHeartbeats 8000000 in
theorem elt_pt {w : World} {A : Around} {env : Env} {xn rn un : Str} {p1 p2 p3 p4 q1 q2 q3 q4 pp : Pos} {k : Nat} {scope : Scope} {cl : List (Str × Addr)} {news : List (Addr × Obj)} {r u : Int} {tr tu : Tok} {cr cu : Addr} {or ou : Obj}
    (hk : scope.kind = .function) (hx : scope.names.lookup xn = some .local) (dx : (xn == ("__debug__" : Str)) = false)
    (hkr : ∀ C, (compEnvC scope cl C env).kindOf rn = some .cell) (hku : ∀ C, (compEnvC scope cl C env).kindOf un = some .cell) (dr : (rn == ("__debug__" : Str)) = false) (du : (un == ("__debug__" : Str)) = false)
    (hr : cl.lookup rn = some cr) (hu : cl.lookup un = some cu) (hor : (cr, or) ∈ news) (hou : (cu, ou) ∈ news) (dor : or.data = .cell (some (.int r tr))) (dou : ou.data = .cell (some (.int u tu))) :
    EltPt w A env (.Tuple [.BinOp (.Attribute (.Name xn p1) (Str.ofString "x") p2) .Sub (.Name rn p3) p4, .BinOp (.Attribute (.Name xn q1) (Str.ofString "y") q2) .Sub (.Name un q3) q4] k pp) xn scope cl news r u := by
  unfold EltPt
  k_fill
  intro s Cc m₂ x d k1 k2 px py t1 t2 n E' X N ns e ex ed
  have I : InstAt s.heap x (instObj 45 d) 45 (some (dictOf (ptEs w.params k1 k2 (.int px t1) (.int py t2)) n)) := ⟨ex, rfl, rfl, ed⟩
  have cR : s.heap.IsCell cr (some (.int r tr)) := ⟨or, N _ hor, dor⟩
  have cU : s.heap.IsCell cu (some (.int u tu)) := ⟨ou, N _ hou, dou⟩
  refine Tuple_ (spliced_more (wpAny_BinOp (Attribute_name (ldVarK (C := Cc) ns e ?_ hk (lookup_relabel_local hx) dx))))
  refine' get_value X I (plainGet_of (name := Str.ofString "x") ?hg).1 (findObj_own (attr := none) ?hh ?ha ?hn ?hl) ?hv ?_
  case hg => k_dflt k_is
  case hh => k_dflt k_is
  case ha => k_dflt k_is
  case hn => k_dflt k_is
  case hl =>
    show getL (Str.ofString "x") (ptEs w.params k1 k2 (.int px t1) (.int py t2)) = some (some (.int px t1))
    k_dflt k_get
  case hv => rfl
  refine ldCellK (C := Cc) hr cR ?_ hk (hkr Cc) dr
  refine sub_int ?_
  refine spliced_more (wpAny_BinOp (Attribute_name (ldVarK (C := Cc) ns e ?_ hk (lookup_relabel_local hx) dx)))
  refine' get_value X I (plainGet_of (name := Str.ofString "y") ?hg).1 (findObj_own (attr := none) ?hh ?ha ?hn ?hl) ?hv ?_
  case hg => k_dflt k_is
  case hh => k_dflt k_is
  case ha => k_dflt k_is
  case hn => k_dflt k_is
  case hl =>
    show getL (Str.ofString "y") (ptEs w.params k1 k2 (.int px t1) (.int py t2)) = some (some (.int py t2))
    k_dflt k_get
  case hv => rfl
  refine ldCellK (C := Cc) hu cU ?_ hk (hku Cc) du
  refine sub_int ?_
  refine spliced_none ?_
  exact wpAny_newObj_type ⟨_, _, _, _, _, rfl, rfl, fun b o e => Heap.get?_push_of_some _ e, Heap.get?_push_size _ rfl, Nat.le_refl _⟩ (by show 2 ≤ sizeLine; decide)
end
section
section
variable {prog : Program} {w : World} {A : Around} {env : Env} {xn zn : Str} {p1 p2 pp : Pos} {scope : Scope} {cl : List (Str × Addr)} {news tl : List (Addr × Obj)} {c la : Addr} {oc : Obj} {vs : List Value} {n : Nat} {ps : List (Int × Int)}
theorem test_in (hk : scope.kind = .function) (hx : scope.names.lookup xn = some .local) (dx : (xn == ("__debug__" : Str)) = false) (hkz : ∀ C, (compEnvC scope cl C env).kindOf zn = some .cell) (dz : (zn == ("__debug__" : Str)) = false)
    (hc : cl.lookup zn = some c) (hoc : (c, oc) ∈ news) (doc : oc.data = .cell (some (.ref la))) (hl : (la, ({ cls := .type "list", data := .seq vs.toArray n } : Obj)) ∈ news) (htl : ∀ p ∈ tl, p ∈ news) (hp : Paired (TupIn tl) vs ps) (hu : A.units + 10 < cLine) :
    TestOk prog w A env (.Compare (.Name xn p1) [.In] [.Name zn p2] pp) scope cl news tl xn (fun p => decide (p ∈ ps)) := by
  intro s C m₂ v p Q' E' N ns e hT hQ
  refine wpAny_isTrue_Compare1 (ldVarK (C := C) ns e ?_ hk (lookup_relabel_local hx) dx)
  refine ldCellK (C := C) hc ⟨oc, N _ hoc, doc⟩ ?_ hk (hkz C) dz
  exact in_pairs (fun r hr => N r (htl r hr)) (N _ hl) hp hT hu (wpAny_truthy_bool (hQ s.toks))
theorem test_notIn (hk : scope.kind = .function) (hx : scope.names.lookup xn = some .local) (dx : (xn == ("__debug__" : Str)) = false) (hkz : ∀ C, (compEnvC scope cl C env).kindOf zn = some .cell) (dz : (zn == ("__debug__" : Str)) = false)
    (hc : cl.lookup zn = some c) (hoc : (c, oc) ∈ news) (doc : oc.data = .cell (some (.ref la))) (hl : (la, ({ cls := .type "list", data := .seq vs.toArray n } : Obj)) ∈ news) (htl : ∀ p ∈ tl, p ∈ news) (hp : Paired (TupIn tl) vs ps) (hu : A.units + 10 < cLine) :
    TestOk prog w A env (.Compare (.Name xn p1) [.NotIn] [.Name zn p2] pp) scope cl news tl xn (fun p => !decide (p ∈ ps)) := by
  intro s C m₂ v p Q' E' N ns e hT hQ
  refine wpAny_isTrue_Compare1 (ldVarK (C := C) ns e ?_ hk (lookup_relabel_local hx) dx)
  refine ldCellK (C := C) hc ⟨oc, N _ hoc, doc⟩ ?_ hk (hkz C) dz
  exact notIn_pairs (fun r hr => N r (htl r hr)) (N _ hl) hp hT hu (wpAny_truthy_bool (hQ s.toks))
end
end
section
noncomputable def pairDef : Stmt := nthSt 8 PySem.Challenge.pw_kx0087_01.main.body
noncomputable def pairBody : List Stmt := bodyOf pairDef
noncomputable def pairScope : Scope := scopeOf pairDef
noncomputable abbrev pairEnv (L : Addr) : Env := envOfC (Str.ofString "_law_pair") pairScope L 229 (.ref 228)
theorem ne_of_all_gt {tl : List (Addr × Obj)} {D d : Nat} (h : ∀ p ∈ tl, D < p.1) (hd : d ≤ D) : ∀ p ∈ tl, p.1 ≠ d := fun p hp e => by
  have := h p hp
  rw [e] at this
  exact absurd this (Nat.not_lt.mpr hd)
theorem all_app {tl tl' : List (Addr × Obj)} {d : Addr} (h : ∀ p ∈ tl, p.1 ≠ d) (h' : ∀ p ∈ tl', p.1 ≠ d) : ∀ p ∈ tl ++ tl', p.1 ≠ d := fun p hp => (List.mem_append.mp hp).elim (h p) (h' p)
theorem rot1 {h₀ h : Heap} {L : Addr} {tl rest : List (Addr × Obj)} {a : Addr × Obj} (pre : List (Addr × Obj)) (N : News h₀ L h (pre ++ (tl ++ (a :: rest)))) : News h₀ L h (pre ++ (a :: (tl ++ rest))) := news_sub N fun p hp => by
  rcases List.mem_append.mp hp with hp | hp
  · exact List.mem_append.mpr (.inl hp)
  · refine List.mem_append.mpr (.inr ?_)
    rcases List.mem_cons.mp hp with rfl | hp
    · exact List.mem_append.mpr (.inr List.mem_cons_self)
    · rcases List.mem_append.mp hp with hp | hp
      · exact List.mem_append.mpr (.inl hp)
      · exact List.mem_append.mpr (.inr (List.mem_cons_of_mem _ hp))
theorem rot11 {h₀ h : Heap} {L : Addr} {tl rest : List (Addr × Obj)} {d a1 a2 a3 a4 a5 a6 a7 a8 a9 a10 a11 : Addr × Obj} (N : News h₀ L h (d :: (tl ++ (a1 :: a2 :: a3 :: a4 :: a5 :: a6 :: a7 :: a8 :: a9 :: a10 :: a11 :: rest)))) : News h₀ L h (d :: a1 :: a2 :: a3 :: a4 :: a5 :: a6 :: a7 :: a8 :: a9 :: a10 :: a11 :: (tl ++ rest)) := rot1 (tl := tl) [d, a1, a2, a3, a4, a5, a6, a7, a8, a9, a10] (rot1 (tl := tl) [d, a1, a2, a3, a4, a5, a6, a7, a8, a9] (rot1 (tl := tl) [d, a1, a2, a3, a4, a5, a6, a7, a8] (rot1 (tl := tl) [d, a1, a2, a3, a4, a5, a6, a7] (rot1 (tl := tl) [d, a1, a2, a3, a4, a5, a6] (rot1 (tl := tl) [d, a1, a2, a3, a4, a5] (rot1 (tl := tl) [d, a1, a2, a3, a4] (rot1 (tl := tl) [d, a1, a2, a3] (rot1 (tl := tl) [d, a1, a2] (rot1 (tl := tl) [d, a1] (rot1 (tl := tl) [d] (N)))))))))))
theorem rot12 {h₀ h : Heap} {L : Addr} {tl rest : List (Addr × Obj)} {d a1 a2 a3 a4 a5 a6 a7 a8 a9 a10 a11 a12 : Addr × Obj} (N : News h₀ L h (d :: (tl ++ (a1 :: a2 :: a3 :: a4 :: a5 :: a6 :: a7 :: a8 :: a9 :: a10 :: a11 :: a12 :: rest)))) : News h₀ L h (d :: a1 :: a2 :: a3 :: a4 :: a5 :: a6 :: a7 :: a8 :: a9 :: a10 :: a11 :: a12 :: (tl ++ rest)) := rot1 (tl := tl) [d, a1, a2, a3, a4, a5, a6, a7, a8, a9, a10, a11] (rot1 (tl := tl) [d, a1, a2, a3, a4, a5, a6, a7, a8, a9, a10] (rot1 (tl := tl) [d, a1, a2, a3, a4, a5, a6, a7, a8, a9] (rot1 (tl := tl) [d, a1, a2, a3, a4, a5, a6, a7, a8] (rot1 (tl := tl) [d, a1, a2, a3, a4, a5, a6, a7] (rot1 (tl := tl) [d, a1, a2, a3, a4, a5, a6] (rot1 (tl := tl) [d, a1, a2, a3, a4, a5] (rot1 (tl := tl) [d, a1, a2, a3, a4] (rot1 (tl := tl) [d, a1, a2, a3] (rot1 (tl := tl) [d, a1, a2] (rot1 (tl := tl) [d, a1] (rot1 (tl := tl) [d] (N))))))))))))
theorem rot13 {h₀ h : Heap} {L : Addr} {tl rest : List (Addr × Obj)} {d a1 a2 a3 a4 a5 a6 a7 a8 a9 a10 a11 a12 a13 : Addr × Obj} (N : News h₀ L h (d :: (tl ++ (a1 :: a2 :: a3 :: a4 :: a5 :: a6 :: a7 :: a8 :: a9 :: a10 :: a11 :: a12 :: a13 :: rest)))) : News h₀ L h (d :: a1 :: a2 :: a3 :: a4 :: a5 :: a6 :: a7 :: a8 :: a9 :: a10 :: a11 :: a12 :: a13 :: (tl ++ rest)) := rot1 (tl := tl) [d, a1, a2, a3, a4, a5, a6, a7, a8, a9, a10, a11, a12] (rot1 (tl := tl) [d, a1, a2, a3, a4, a5, a6, a7, a8, a9, a10, a11] (rot1 (tl := tl) [d, a1, a2, a3, a4, a5, a6, a7, a8, a9, a10] (rot1 (tl := tl) [d, a1, a2, a3, a4, a5, a6, a7, a8, a9] (rot1 (tl := tl) [d, a1, a2, a3, a4, a5, a6, a7, a8] (rot1 (tl := tl) [d, a1, a2, a3, a4, a5, a6, a7] (rot1 (tl := tl) [d, a1, a2, a3, a4, a5, a6] (rot1 (tl := tl) [d, a1, a2, a3, a4, a5] (rot1 (tl := tl) [d, a1, a2, a3, a4] (rot1 (tl := tl) [d, a1, a2, a3] (rot1 (tl := tl) [d, a1, a2] (rot1 (tl := tl) [d, a1] (rot1 (tl := tl) [d] (N)))))))))))))
theorem rot14 {h₀ h : Heap} {L : Addr} {tl rest : List (Addr × Obj)} {d a1 a2 a3 a4 a5 a6 a7 a8 a9 a10 a11 a12 a13 a14 : Addr × Obj} (N : News h₀ L h (d :: (tl ++ (a1 :: a2 :: a3 :: a4 :: a5 :: a6 :: a7 :: a8 :: a9 :: a10 :: a11 :: a12 :: a13 :: a14 :: rest)))) : News h₀ L h (d :: a1 :: a2 :: a3 :: a4 :: a5 :: a6 :: a7 :: a8 :: a9 :: a10 :: a11 :: a12 :: a13 :: a14 :: (tl ++ rest)) := rot1 (tl := tl) [d, a1, a2, a3, a4, a5, a6, a7, a8, a9, a10, a11, a12, a13] (rot1 (tl := tl) [d, a1, a2, a3, a4, a5, a6, a7, a8, a9, a10, a11, a12] (rot1 (tl := tl) [d, a1, a2, a3, a4, a5, a6, a7, a8, a9, a10, a11] (rot1 (tl := tl) [d, a1, a2, a3, a4, a5, a6, a7, a8, a9, a10] (rot1 (tl := tl) [d, a1, a2, a3, a4, a5, a6, a7, a8, a9] (rot1 (tl := tl) [d, a1, a2, a3, a4, a5, a6, a7, a8] (rot1 (tl := tl) [d, a1, a2, a3, a4, a5, a6, a7] (rot1 (tl := tl) [d, a1, a2, a3, a4, a5, a6] (rot1 (tl := tl) [d, a1, a2, a3, a4, a5] (rot1 (tl := tl) [d, a1, a2, a3, a4] (rot1 (tl := tl) [d, a1, a2, a3] (rot1 (tl := tl) [d, a1, a2] (rot1 (tl := tl) [d, a1] (rot1 (tl := tl) [d] (N))))))))))))))
theorem rot15 {h₀ h : Heap} {L : Addr} {tl rest : List (Addr × Obj)} {d a1 a2 a3 a4 a5 a6 a7 a8 a9 a10 a11 a12 a13 a14 a15 : Addr × Obj} (N : News h₀ L h (d :: (tl ++ (a1 :: a2 :: a3 :: a4 :: a5 :: a6 :: a7 :: a8 :: a9 :: a10 :: a11 :: a12 :: a13 :: a14 :: a15 :: rest)))) : News h₀ L h (d :: a1 :: a2 :: a3 :: a4 :: a5 :: a6 :: a7 :: a8 :: a9 :: a10 :: a11 :: a12 :: a13 :: a14 :: a15 :: (tl ++ rest)) := rot1 (tl := tl) [d, a1, a2, a3, a4, a5, a6, a7, a8, a9, a10, a11, a12, a13, a14] (rot1 (tl := tl) [d, a1, a2, a3, a4, a5, a6, a7, a8, a9, a10, a11, a12, a13] (rot1 (tl := tl) [d, a1, a2, a3, a4, a5, a6, a7, a8, a9, a10, a11, a12] (rot1 (tl := tl) [d, a1, a2, a3, a4, a5, a6, a7, a8, a9, a10, a11] (rot1 (tl := tl) [d, a1, a2, a3, a4, a5, a6, a7, a8, a9, a10] (rot1 (tl := tl) [d, a1, a2, a3, a4, a5, a6, a7, a8, a9] (rot1 (tl := tl) [d, a1, a2, a3, a4, a5, a6, a7, a8] (rot1 (tl := tl) [d, a1, a2, a3, a4, a5, a6, a7] (rot1 (tl := tl) [d, a1, a2, a3, a4, a5, a6] (rot1 (tl := tl) [d, a1, a2, a3, a4, a5] (rot1 (tl := tl) [d, a1, a2, a3, a4] (rot1 (tl := tl) [d, a1, a2, a3] (rot1 (tl := tl) [d, a1, a2] (rot1 (tl := tl) [d, a1] (rot1 (tl := tl) [d] (N)))))))))))))))
theorem squares_int {w : World} {A₀ A : Around} {env : Env} {outer : List Env} {base h₀ : Heap} {L : Addr} {m mg mb : Str → Option Value} {mean : ExcName → Option Value} {news : List (Addr × Obj)} {s : Shared} {E : Value → Shared → Prop} {Q : Value → Shared → Prop} {x y wi hi : Int} {tx ty tw th : Tok} (X : (hd.heap_39 w.params).In h₀) (B : Below A₀ base outer h₀) (T : Top hd.view_39 (looseW hd.view_39 [Str.ofString "Rectangle"]) mean mg mb h₀) (hA : A.frames = some (env :: outer)) (hf : env.frame = some L) (hk : env.scope.kind = .function) (hroom : A.depth + 20 < recursionLimit) (hh : A.handled = none) (F : Fr h₀ L s.heap m) (N : News h₀ L s.heap news)
    (a1 : 0 ≤ x) (a2 : x ≤ 20) (a3 : 0 ≤ y) (a4 : y ≤ 20) (a5 : 0 ≤ wi) (a6 : wi ≤ 20) (a7 : 0 ≤ hi) (a8 : hi ≤ 20)
    (h : ∀ (D : Nat) tl ys h' tk, Fr h₀ L h' m → News h₀ L h' ((D, LCg.lst ys) :: (tl ++ news)) → Paired (TupIn tl) ys (sq x y wi.toNat hi.toNat) → (∀ p ∈ news, p.1 < D) → (∀ p ∈ tl, D < p.1) → Q (.ref D) { s with heap := h', toks := tk }) :
    wpAny (model PySem.Challenge.rw_kx0087_01.row.prog w) A (PySem.call (.ref 212) [.int x tx, .int y ty, .int wi tw, .int hi th]) Q E s := by
  have e1 : ((wi.toNat : Nat) : Int) = wi := Int.toNat_of_nonneg a5
  have e2 : ((hi.toNat : Nat) : Int) = hi := Int.toNat_of_nonneg a7
  have := squares_call (E := E) (Q := Q) (x := x) (y := y) (n1 := wi.toNat) (n2 := hi.toNat) (tx := tx) (ty := ty) (tw := tw) (th := th) X B T hA hf hk hroom hh F N a1 a2 a3 a4 (by omega) (by omega) h
  rw [e1, e2] at this
  exact this
theorem all_app_gt {tl tl' : List (Addr × Obj)} {d : Nat} (h : ∀ p ∈ tl, d < p.1) (h' : ∀ p ∈ tl', d < p.1) : ∀ p ∈ tl ++ tl', d < p.1 := fun p hp => (List.mem_append.mp hp).elim (h p) (h' p)
theorem gt_of {tl : List (Addr × Obj)} {d D : Nat} (h : ∀ p ∈ tl, D < p.1) (hd : d ≤ D) : ∀ p ∈ tl, d < p.1 := fun p hp => Nat.lt_of_le_of_lt hd (h p hp)
theorem gt_nil {d : Nat} : ∀ p ∈ ([] : List (Addr × Obj)), d < p.1 := fun _ hp => (nomatch hp)
end
local macro_rules | `(tactic| walk_at "eval Name") => `(tactic| (k_here; k_dflt (refine' nameX_L ?k1 ?k2 ?_; (case k1 => k_asm); (case k2 => assumption); k_whole)))
local macro_rules | `(tactic| walk_at "eval Subscript") => `(tactic| (k_here; (with_reducible show wpAny _ _ (eval (Expr.Subscript (Expr.Name _ _) (Expr.Constant (Const.int _) _ _) _) _) _ _ _); k_dflt (refine' item_name ?F ?N ?hv ?m ?a ?b ?c ?d rfl rfl ?e ?_; (case F => assumption); (case N => assumption); (case hv => assumption); (case m => k_mem); (case a => decide); (case b => decide); (case c => exact rfl); (case d => exact rfl); (case e => decide))))
section
local macro_rules | `(tactic| k_all) => `(tactic| first | (refine all_app ?_ ?_ <;> k_all) | exact ne_of_all_gt (by assumption) (by omega))
local macro_rules | `(tactic| walk_at "call ref") => `(tactic| (k_here; (with_reducible show wpAny _ _ (PySem.call (Value.ref 212) _ _) _ _ _); k_dflt ((refine' squares_int ?X ?B ?T ?hA ?hf ?hk ?hr ?hh ?F ?N ?a1 ?a2 ?a3 ?a4 ?a5 ?a6 ?a7 ?a8 ?_); (case X => assumption); (case B => assumption); (case T => assumption); (case hA => assumption); (case hf => exact rfl); (case hk => exact rfl); (case hr => k_room); (case hh => assumption); (case F => assumption); (case N => assumption); (case a1 => omega); (case a2 => omega); (case a3 => omega); (case a4 => omega); (case a5 => omega); (case a6 => omega); (case a7 => omega); (case a8 => omega); intro D' tl' ys' h' tk' F' N' hp' hlow' hoff'; (first | replace N' := rot14 N' | replace N' := rot13 N' | replace N' := rot12 N' | replace N' := rot11 N'); (try k_lt hlow'))))
set_option maxRecDepth 100000 in
set_option maxHeartbeats 8000000 in
theorem chunk1 {w : World} {A₀ A : Around} {outer : List Env} {base g : Heap} {L : Nat} {m mg mb : Str → Option Value} {mean : ExcName → Option Value} {s : Shared} {E : Value → Shared → Prop} {Q : Flow → Shared → Prop} {r u x1 y1 x2 y2 w1 h1 w2 h2 : Int} {tr tu t1 t2 t3 t4 t5 t6 t7 t8 ta3 ta4 ta5 tb3 tb4 tb5 : Tok} {o1 o2 xa da xb db : Nat} {n1 n2 : Nat} {oR oU oM oY oK : Obj} {ka1 ka2 ka3 ka4 ka5 kb1 kb2 kb3 kb4 kb5 : Tok} :
    (hd.heap_39 w.params).In g → Below A₀ base outer g → Top hd.view_39 (looseW hd.view_39 [Str.ofString "Rectangle"]) mean mg mb g → A.frames = some (pairEnv L :: outer) → A.depth + 120 < recursionLimit → A.handled = none → A.units + 190 < cLine → oR.data = .cell (some (.int r tr)) → oU.data = .cell (some (.int u tu)) →
    0 ≤ x1 → x1 ≤ 3 → 0 ≤ y1 → y1 ≤ 3 → 0 ≤ x2 → x2 ≤ 3 → 0 ≤ y2 → y2 ≤ 3 → 1 ≤ w1 → w1 ≤ 3 → 1 ≤ h1 → h1 ≤ 3 → 1 ≤ w2 → w2 ≤ 3 → 1 ≤ h2 → h2 ≤ 3 → o1 < L → o2 < L → L + 1 + 1 + 1 + 1 + 1 < da → da < xa → xa < db → db < xb → m (Str.ofString "one") = some (.ref o1) → m (Str.ofString "two") = some (.ref o2) → m (Str.ofString "a") = some (.ref xa) → m (Str.ofString "b") = some (.ref xb) → Fr g L s.heap m → News g L s.heap ((xb, instObj 196 db) :: (db, dictOf (rectEs w.params kb1 kb2 kb3 kb4 kb5 (.int w2 t7) (.int h2 t8) (.int (r + x2) tb3) (.int (u + y2) tb4) (.int 8 tb5)) 5) :: (xa, instObj 196 da) :: (da, dictOf (rectEs w.params ka1 ka2 ka3 ka4 ka5 (.int w1 t3) (.int h1 t4) (.int (r + x1) ta3) (.int (u + y1) ta4) (.int 7 ta5)) 5) :: (L + 1 + 1 + 1 + 1 + 1, oK) :: (L + 1 + 1 + 1 + 1, oY) :: (L + 1 + 1 + 1, oM) :: (L + 1 + 1, oU) :: (L + 1, oR) :: (o2, ({ cls := .type "tuple", data := .seq #[.int x2 t5, .int y2 t6, .int w2 t7, .int h2 t8] n2 } : Obj)) :: (o1, ({ cls := .type "tuple", data := .seq #[.int x1 t1, .int y1 t2, .int w1 t3, .int h1 t4] n1 } : Obj)) :: []) → oM.data = .cell none → oY.data = .cell none → oK.data = .cell none →
    (∀ (D1 D2 D3 D4 : Nat) (ys1 ys2 ys3 ys4 : List Value) (tl : List (Addr × Obj)) (oM oY oK : Obj) h' tk, News g L h' ((D4, LCg.lst ys4) :: (D3, LCg.lst ys3) :: (D2, LCg.lst ys2) :: (D1, LCg.lst ys1) :: (xb, instObj 196 db) :: (db, dictOf (rectEs w.params kb1 kb2 kb3 kb4 kb5 (.int w2 t7) (.int h2 t8) (.int (r + x2) tb3) (.int (u + y2) tb4) (.int 8 tb5)) 5) :: (xa, instObj 196 da) :: (da, dictOf (rectEs w.params ka1 ka2 ka3 ka4 ka5 (.int w1 t3) (.int h1 t4) (.int (r + x1) ta3) (.int (u + y1) ta4) (.int 7 ta5)) 5) :: (L + 1 + 1 + 1 + 1 + 1, oK) :: (L + 1 + 1 + 1 + 1, oY) :: (L + 1 + 1 + 1, oM) :: (L + 1 + 1, oU) :: (L + 1, oR) :: (o2, ({ cls := .type "tuple", data := .seq #[.int x2 t5, .int y2 t6, .int w2 t7, .int h2 t8] n2 } : Obj)) :: (o1, ({ cls := .type "tuple", data := .seq #[.int x1 t1, .int y1 t2, .int w1 t3, .int h1 t4] n1 } : Obj)) :: tl) → Fr g L h' (fun y => if y = Str.ofString "points" then some (.ref D3) else m y) →
      oM.data = .cell (some (.ref D1)) → oY.data = .cell (some (.ref D2)) → oK.data = .cell (some (.ref D4)) →
      Paired (TupIn tl) ys1 (sq x1 y1 w1.toNat h1.toNat) → Paired (TupIn tl) ys2 (sq x2 y2 w2.toNat h2.toNat) → Paired (TupIn tl) ys3 (sq x1 y1 (w1 + 1).toNat (h1 + 1).toNat) → Paired (TupIn tl) ys4 (sq x2 y2 (w2 + 1).toNat (h2 + 1).toNat) →
      (∀ p ∈ tl, xb < p.1) → xb < D1 → D1 < D2 → D2 < D3 → D3 < D4 → wpAny (model PySem.Challenge.rw_kx0087_01.row.prog w) A (execs (pairBody.drop 6) (pairEnv L)) Q E { s with heap := h', toks := tk }) →
    wpAny (model PySem.Challenge.rw_kx0087_01.row.prog w) A (execs (pairBody.drop 2) (pairEnv L)) Q E s := by
  k_fill
  intro X B T hA hroom hh hu doR doU b1 b2 b3 b4 b5 b6 b7 b8 b9 b10 b11 b12 b13 b14 b15 b16 lo1 lo2 q1 q2 q3 q4 hm1 hm2 hma hmb F N dM dY dK hQ
  dsimp only [pairEnv, pairScope, pairBody, pairDef, nthSt, scopeOf, bodyOf, List.drop, PySem.Challenge.pw_kx0087_01] at *
  repeat' (first | (k_unfold; (try dsimp only)) | ((fail_if_success (with_reducible show wpAny _ _ (execs (Stmt.Assign [Expr.Name (PySem.Str.ofString "both") _] _ _ :: _) _) _ _ _)); first | walk1 | (dsimp only; walk1)))
  refine hQ _ _ _ _ _ _ _ _ (_ ++ (_ ++ (_ ++ (_ ++ [])))) _ _ _ _ _ (by assumption) (by assumption) (by assumption) (by assumption) (by assumption) ?_ ?_ ?_ ?_ ?_ (by omega) (by omega) (by omega) (by omega)
  · exact paired_up (by assumption) (fun p hp => by simp only [List.mem_append]; first | exact .inl hp | exact .inr (.inl hp) | exact .inr (.inr (.inl hp)) | exact .inr (.inr (.inr (.inl hp))))
  · exact paired_up (by assumption) (fun p hp => by simp only [List.mem_append]; first | exact .inl hp | exact .inr (.inl hp) | exact .inr (.inr (.inl hp)) | exact .inr (.inr (.inr (.inl hp))))
  · exact paired_up (by assumption) (fun p hp => by simp only [List.mem_append]; first | exact .inl hp | exact .inr (.inl hp) | exact .inr (.inr (.inl hp)) | exact .inr (.inr (.inr (.inl hp))))
  · exact paired_up (by assumption) (fun p hp => by simp only [List.mem_append]; first | exact .inl hp | exact .inr (.inl hp) | exact .inr (.inr (.inl hp)) | exact .inr (.inr (.inr (.inl hp))))
  · exact all_app_gt (gt_of (by assumption) (by omega)) (all_app_gt (gt_of (by assumption) (by omega)) (all_app_gt (gt_of (by assumption) (by omega)) (all_app_gt (gt_of (by assumption) (by omega)) gt_nil)))
end
section
theorem ne_of_low {news : List (Addr × Obj)} {D : Nat} (h : ∀ p ∈ news, p.1 ≠ D) {p : Addr × Obj} (hp : p ∈ news) {a : Nat} (e : p.1 = a) : D ≠ a := fun e' => h p hp (e.trans e'.symm)
set_option maxRecDepth 100000 in
set_option maxHeartbeats 8000000 in
theorem chunk2 {w : World} {A₀ A : Around} {outer : List Env} {base g : Heap} {L : Nat} {m mg mb : Str → Option Value} {mean : ExcName → Option Value} {s : Shared} {E : Value → Shared → Prop} {Q : Flow → Shared → Prop} {r u x1 y1 x2 y2 w1 h1 w2 h2 : Int} {tr tu t1 t2 t3 t4 t5 t6 t7 t8 ta3 ta4 ta5 tb3 tb4 tb5 : Tok} {o1 o2 xa da xb db : Nat} {n1 n2 : Nat} {oR oU oM oY oK : Obj} {ka1 ka2 ka3 ka4 ka5 kb1 kb2 kb3 kb4 kb5 : Tok} {D1 D2 D3 D4 : Nat} {ys1 ys2 ys3 ys4 : List Value} {ps1 ps2 ps3 ps4 : List (Int × Int)} {tl : List (Addr × Obj)} :
    (hd.heap_39 w.params).In g → Below A₀ base outer g → Top hd.view_39 (looseW hd.view_39 [Str.ofString "Rectangle"]) mean mg mb g → A.frames = some (pairEnv L :: outer) → A.depth + 120 < recursionLimit → A.handled = none → A.units + 190 < cLine → oR.data = .cell (some (.int r tr)) → oU.data = .cell (some (.int u tu)) →
    0 ≤ x1 → x1 ≤ 3 → 0 ≤ y1 → y1 ≤ 3 → 0 ≤ x2 → x2 ≤ 3 → 0 ≤ y2 → y2 ≤ 3 → 1 ≤ w1 → w1 ≤ 3 → 1 ≤ h1 → h1 ≤ 3 → 1 ≤ w2 → w2 ≤ 3 → 1 ≤ h2 → h2 ≤ 3 → o1 < L → o2 < L → L + 1 + 1 + 1 + 1 + 1 < da → da < xa → xa < db → db < xb → m (Str.ofString "one") = some (.ref o1) → m (Str.ofString "two") = some (.ref o2) → m (Str.ofString "a") = some (.ref xa) → m (Str.ofString "b") = some (.ref xb) → Fr g L s.heap m → News g L s.heap ((D4, LCg.lst ys4) :: (D3, LCg.lst ys3) :: (D2, LCg.lst ys2) :: (D1, LCg.lst ys1) :: (xb, instObj 196 db) :: (db, dictOf (rectEs w.params kb1 kb2 kb3 kb4 kb5 (.int w2 t7) (.int h2 t8) (.int (r + x2) tb3) (.int (u + y2) tb4) (.int 8 tb5)) 5) :: (xa, instObj 196 da) :: (da, dictOf (rectEs w.params ka1 ka2 ka3 ka4 ka5 (.int w1 t3) (.int h1 t4) (.int (r + x1) ta3) (.int (u + y1) ta4) (.int 7 ta5)) 5) :: (L + 1 + 1 + 1 + 1 + 1, oK) :: (L + 1 + 1 + 1 + 1, oY) :: (L + 1 + 1 + 1, oM) :: (L + 1 + 1, oU) :: (L + 1, oR) :: (o2, ({ cls := .type "tuple", data := .seq #[.int x2 t5, .int y2 t6, .int w2 t7, .int h2 t8] n2 } : Obj)) :: (o1, ({ cls := .type "tuple", data := .seq #[.int x1 t1, .int y1 t2, .int w1 t3, .int h1 t4] n1 } : Obj)) :: tl) → 
    m (Str.ofString "points") = some (.ref D3) → oM.data = .cell (some (.ref D1)) → oY.data = .cell (some (.ref D2)) → oK.data = .cell (some (.ref D4)) →
    Paired (TupIn tl) ys1 ps1 → Paired (TupIn tl) ys2 ps2 → Paired (TupIn tl) ys3 ps3 → Paired (TupIn tl) ys4 ps4 → ys1.length ≤ sizeLine → ys3.length ≤ sizeLine →
    (∀ (D5 D6 : Nat) ys5 ys6 k5 k6 m' h' tk, News g L h' ((D6, listOf ys6.toArray k6) :: (D5, listOf ys5.toArray k5) :: (D4, LCg.lst ys4) :: (D3, LCg.lst ys3) :: (D2, LCg.lst ys2) :: (D1, LCg.lst ys1) :: (xb, instObj 196 db) :: (db, dictOf (rectEs w.params kb1 kb2 kb3 kb4 kb5 (.int w2 t7) (.int h2 t8) (.int (r + x2) tb3) (.int (u + y2) tb4) (.int 8 tb5)) 5) :: (xa, instObj 196 da) :: (da, dictOf (rectEs w.params ka1 ka2 ka3 ka4 ka5 (.int w1 t3) (.int h1 t4) (.int (r + x1) ta3) (.int (u + y1) ta4) (.int 7 ta5)) 5) :: (L + 1 + 1 + 1 + 1 + 1, oK) :: (L + 1 + 1 + 1 + 1, oY) :: (L + 1 + 1 + 1, oM) :: (L + 1 + 1, oU) :: (L + 1, oR) :: (o2, ({ cls := .type "tuple", data := .seq #[.int x2 t5, .int y2 t6, .int w2 t7, .int h2 t8] n2 } : Obj)) :: (o1, ({ cls := .type "tuple", data := .seq #[.int x1 t1, .int y1 t2, .int w1 t3, .int h1 t4] n1 } : Obj)) :: tl) → Fr g L h' m' →
      m' (Str.ofString "one") = some (.ref o1) → m' (Str.ofString "two") = some (.ref o2) → m' (Str.ofString "a") = some (.ref xa) → m' (Str.ofString "b") = some (.ref xb) → m' (Str.ofString "points") = some (.ref D3) → m' (Str.ofString "both") = some (.ref D5) → m' (Str.ofString "touch") = some (.ref D6) →
      Paired (TupIn tl) ys5 (ps1.filter fun p => decide (p ∈ ps2)) → Paired (TupIn tl) ys6 (ps3.filter fun p => decide (p ∈ ps4)) → D5 ≠ da → D5 ≠ db → D6 ≠ da → D6 ≠ db →
      wpAny (model PySem.Challenge.rw_kx0087_01.row.prog w) A (execs (pairBody.drop 8) (pairEnv L)) Q E { s with heap := h', toks := tk }) →
    wpAny (model PySem.Challenge.rw_kx0087_01.row.prog w) A (execs (pairBody.drop 6) (pairEnv L)) Q E s := by
  k_fill
  intro X B T hA hroom hh hu doR doU b1 b2 b3 b4 b5 b6 b7 b8 b9 b10 b11 b12 b13 b14 b15 b16 lo1 lo2 q1 q2 q3 q4 hm1 hm2 hma hmb F N mP dM dY dK P1 P2 P3 P4 sz1 sz3 hQ
  dsimp only [pairEnv, pairScope, pairBody, pairDef, nthSt, scopeOf, bodyOf, List.drop, PySem.Challenge.pw_kx0087_01] at *
  refine wpAny_execs_cons ?_
  refine Assign_filter (tl := tl) F N (by k_mem) (fun p hp => by repeat (first | exact hp | refine List.mem_cons_of_mem _ ?_)) P1 sz1 hh (by rfl) (by with_unfolding_all rfl) (by decide) (by rfl) (by decide) (by rfl) (by rfl) (by rfl) (by rfl) (fun _ => by with_unfolding_all rfl) (test_in (tl := tl) (ps := ps2) (by rfl) (by rfl) (by rfl) (fun _ => by with_unfolding_all rfl) (by rfl) (by with_unfolding_all rfl) (by k_mem) dY (by k_mem) (fun p hp => by repeat (first | exact hp | refine List.mem_cons_of_mem _ ?_)) P2 (by omega)) ?_ ?_
  · walk1
    exact ⟨_, _, rfl, rfl, by assumption, by assumption⟩
  intro D5 ys5 k5 h5 tk5 F5 N5 P5 ne5
  refine wpAny_execs_cons ?_
  refine Assign_filter (tl := tl) F5 N5 (by k_mem) (fun p hp => by repeat (first | exact hp | refine List.mem_cons_of_mem _ ?_)) P3 sz3 hh (by rfl) (by with_unfolding_all rfl) (by decide) (by rfl) (by decide) (by rfl) (by rfl) (by rfl) (by rfl) (fun _ => by with_unfolding_all rfl) (test_in (tl := tl) (ps := ps4) (by rfl) (by rfl) (by rfl) (fun _ => by with_unfolding_all rfl) (by rfl) (by with_unfolding_all rfl) (by k_mem) dK (by k_mem) (fun p hp => by repeat (first | exact hp | refine List.mem_cons_of_mem _ ?_)) P4 (by omega)) ?_ ?_
  · k_dflt (refine' nameX_L ?k1 ?k2 ?_)
    case k1 => k_asm
    case k2 => exact mP
    k_whole
    exact ⟨_, _, rfl, rfl, by assumption, by assumption⟩
  intro D6 ys6 k6 h6 tk6 F6 N6 P6 ne6
  refine hQ D5 D6 ys5 ys6 k5 k6 _ h6 tk6 N6 F6 hm1 hm2 hma hmb mP rfl rfl P5 P6 ?_ ?_ ?_ ?_
  · exact ne_of_low ne5 (p := (da, _)) (by k_mem) rfl
  · exact ne_of_low ne5 (p := (db, _)) (by k_mem) rfl
  · exact ne_of_low ne6 (p := (da, _)) (by k_mem) rfl
  · exact ne_of_low ne6 (p := (db, _)) (by k_mem) rfl
end
section
local macro_rules | `(tactic| walk_at "idle 0") => `(tactic| skip)
theorem ne_bools {prog : Program} {w : World} {A : Around} {E : Value → Shared → Prop} {s : Shared} {Q : Value → Shared → Prop} {b c : Bool} (e : b = c) (hu : A.units + 64 < cLine) (h : Q (.bool false) s) : wpAny (model prog w) A (compareOp .NotEq (.bool b) (.bool c)) Q E s := by
  subst e
  refine ne_dataH (.bool _) (.bool _) (by cases b <;> rfl) (by cases b <;> rfl) hu ?_
  cases b <;> exact h
theorem decide_len_eq {α : Type} (a b : List α) : ((a.length : Int) == (b.length : Int)) = decide (a.length = b.length) := by
  by_cases h : a.length = b.length
  · simp [h]
  · simp only [h, decide_false]; simp; omega
theorem call_len {prog : Program} {w : World} {A : Around} {E : Value → Shared → Prop} {s : Shared} {Q : Value → Shared → Prop} {h₀ : Heap} {L : Addr} {news : List (Addr × Obj)} {l : Addr} {vs : List Value} {n : Nat} (N : News h₀ L s.heap news) (hl : (l, ({ cls := .type "list", data := .seq vs.toArray n } : Obj)) ∈ news) (hsz : vs.length ≤ sizeLine)
    (h : ∀ t tk, Q (.int vs.length t) { s with toks := tk }) : wpAny (model prog w) A (PySem.call (.builtin "len") [.ref l]) Q E s := by
  refine Calls.call_len_list (items := vs.toArray) ⟨_, (N _ hl).1, rfl, n, rfl⟩ ?_ (h _ _)
  have : sizeLine < 2 ^ 63 := by decide
  simp only [List.size_toArray]
  omega
section
variable {prog : Program} {w : World} {A : Around} {E : Value → Shared → Prop} {s : Shared} {Q : Value → Shared → Prop} {h₀ : Heap} {L : Addr} {news tl : List (Addr × Obj)} {l l' : Addr} {vs : List Value} {n n' : Nat} {ps : List (Int × Int)}
theorem ne_empty (N : News h₀ L s.heap news) (hl : (l, ({ cls := .type "list", data := .seq vs.toArray n } : Obj)) ∈ news) (hp : Paired (TupIn tl) vs ps) (htl : ∀ p ∈ tl, p ∈ news) (he : (l', ({ cls := .type "list", data := .seq #[] n' } : Obj)) ∈ news) (hu : A.units + 64 < cLine)
    (h : Q (.bool (!decide (ps = []))) s) : wpAny (model prog w) A (compareOp .NotEq (.ref l) (.ref l')) Q E s :=
  ne_pairs (tl := tl) (fun q hq => (N q (htl q hq)).1) (N _ hl).1 hp (vs' := []) (N _ he).1 .nil hu h
theorem eq_empty (N : News h₀ L s.heap news) (hl : (l, ({ cls := .type "list", data := .seq vs.toArray n } : Obj)) ∈ news) (hp : Paired (TupIn tl) vs ps) (htl : ∀ p ∈ tl, p ∈ news) (he : (l', ({ cls := .type "list", data := .seq #[] n' } : Obj)) ∈ news) (hu : A.units + 64 < cLine)
    (h : Q (.bool (decide (ps = []))) s) : wpAny (model prog w) A (compareOp .Eq (.ref l) (.ref l')) Q E s :=
  eq_pairs (tl := tl) (fun q hq => (N q (htl q hq)).1) (N _ hl).1 hp (vs' := []) (N _ he).1 .nil hu h
end
local macro_rules | `(tactic| walk_at "call builtin:len") => `(tactic| (k_here; (with_reducible show wpAny _ _ (PySem.call (Value.builtin _) [Value.ref _]) _ _ _); k_dflt ((refine' call_len ?N ?hl ?hs ?_); (case N => assumption); (case hl => k_mem); (case hs => assumption)); intro t' tk'))
local macro_rules | `(tactic| walk_at "compareOp NotEq bool bool") => `(tactic| (k_here; (with_reducible show wpAny _ _ (compareOp CmpOp.NotEq (Value.bool _) (Value.bool _)) _ _ _); k_dflt ((refine' ne_bools ?e ?hu ?_); (case e => first | exact rfl | exact (decide_len_eq _ _).symm); (case hu => omega))))
local macro_rules | `(tactic| walk_at "call ref") => `(tactic| (k_here; (with_reducible show wpAny _ _ (PySem.call (Value.ref 170) _ _) _ _ _); k_dflt ((first | refine' contains_call ?X ?B ?T ?hA ?hf ?hk ?hr ?hh ?F ?N ?a ?b ?c ?d ?v ?_); (case X => assumption); (case B => assumption); (case T => assumption); (case hA => assumption); (case hf => exact rfl); (case hk => exact rfl); (case hr => k_room); (case hh => assumption); (case F => assumption); (case N => assumption); (case a => k_mem); (case b => k_mem); (case c => k_mem); (case d => k_mem); (case v => first | assumption | exact rfl)); intro h' tk' F' N'))
local macro_rules | `(tactic| walk_at "call ref") => `(tactic| (k_here; (with_reducible show wpAny _ _ (PySem.call (Value.ref 178) _ _) _ _ _); k_dflt ((first | refine' intersects_call ?X ?B ?T ?hA ?hf ?hk ?hr ?hh ?F ?N ?a ?b ?c ?d ?v ?_ | refine' intersects_pos ?X ?B ?T ?hA ?hf ?hk ?hr ?hh ?F ?N ?a ?b ?c ?d ?v ?_); (case X => assumption); (case B => assumption); (case T => assumption); (case hA => assumption); (case hf => exact rfl); (case hk => exact rfl); (case hr => k_room); (case hh => assumption); (case F => assumption); (case N => assumption); (case a => k_mem); (case b => k_mem); (case c => k_mem); (case d => k_mem); (case v => first | assumption | exact rfl)); intro h' tk' F' N'))
local macro_rules | `(tactic| walk_at "compareOp NotEq ref ref") => `(tactic| (k_here; (with_reducible show wpAny _ _ (compareOp CmpOp.NotEq (Value.ref _) (Value.ref _)) _ _ _); k_dflt ((refine' ne_empty ?N ?l1 ?p1 ?t1 ?l2 ?hu ?_); (case N => with_reducible assumption); (case l1 => k_mem); (case p1 => with_reducible assumption); (case t1 => exact (fun q hq => (by repeat (first | exact hq | refine List.mem_cons_of_mem _ ?_)))); (case l2 => exact List.mem_cons_self); (case hu => omega))))
set_option maxRecDepth 100000 in
set_option maxHeartbeats 8000000 in
theorem chunk3 {w : World} {A₀ A : Around} {outer : List Env} {base g : Heap} {L : Nat} {m mg mb : Str → Option Value} {mean : ExcName → Option Value} {s : Shared} {E : Value → Shared → Prop} {Q : Flow → Shared → Prop} {r u x1 y1 x2 y2 w1 h1 w2 h2 : Int} {tr tu t1 t2 t3 t4 t5 t6 t7 t8 ta3 ta4 ta5 tb3 tb4 tb5 : Tok} {o1 o2 xa da xb db : Nat} {n1 n2 : Nat} {oR oU oM oY oK : Obj} {ka1 ka2 ka3 ka4 ka5 kb1 kb2 kb3 kb4 kb5 : Tok} {D1 D2 D3 D4 D5 D6 : Nat} {ys1 ys2 ys3 ys4 ys5 ys6 : List Value} {k5 k6 : Nat} {ps2 ps5 ps6 : List (Int × Int)} {tl : List (Addr × Obj)} :
    (hd.heap_39 w.params).In g → Below A₀ base outer g → Top hd.view_39 (looseW hd.view_39 [Str.ofString "Rectangle"]) mean mg mb g → A.frames = some (pairEnv L :: outer) → A.depth + 120 < recursionLimit → A.handled = none → A.units + 190 < cLine → oR.data = .cell (some (.int r tr)) → oU.data = .cell (some (.int u tu)) →
    0 ≤ x1 → x1 ≤ 3 → 0 ≤ y1 → y1 ≤ 3 → 0 ≤ x2 → x2 ≤ 3 → 0 ≤ y2 → y2 ≤ 3 → 1 ≤ w1 → w1 ≤ 3 → 1 ≤ h1 → h1 ≤ 3 → 1 ≤ w2 → w2 ≤ 3 → 1 ≤ h2 → h2 ≤ 3 → o1 < L → o2 < L → L + 1 + 1 + 1 + 1 + 1 < da → da < xa → xa < db → db < xb → m (Str.ofString "one") = some (.ref o1) → m (Str.ofString "two") = some (.ref o2) → m (Str.ofString "a") = some (.ref xa) → m (Str.ofString "b") = some (.ref xb) → Fr g L s.heap m → News g L s.heap ((D6, listOf ys6.toArray k6) :: (D5, listOf ys5.toArray k5) :: (D4, LCg.lst ys4) :: (D3, LCg.lst ys3) :: (D2, LCg.lst ys2) :: (D1, LCg.lst ys1) :: (xb, instObj 196 db) :: (db, dictOf (rectEs w.params kb1 kb2 kb3 kb4 kb5 (.int w2 t7) (.int h2 t8) (.int (r + x2) tb3) (.int (u + y2) tb4) (.int 8 tb5)) 5) :: (xa, instObj 196 da) :: (da, dictOf (rectEs w.params ka1 ka2 ka3 ka4 ka5 (.int w1 t3) (.int h1 t4) (.int (r + x1) ta3) (.int (u + y1) ta4) (.int 7 ta5)) 5) :: (L + 1 + 1 + 1 + 1 + 1, oK) :: (L + 1 + 1 + 1 + 1, oY) :: (L + 1 + 1 + 1, oM) :: (L + 1 + 1, oU) :: (L + 1, oR) :: (o2, ({ cls := .type "tuple", data := .seq #[.int x2 t5, .int y2 t6, .int w2 t7, .int h2 t8] n2 } : Obj)) :: (o1, ({ cls := .type "tuple", data := .seq #[.int x1 t1, .int y1 t2, .int w1 t3, .int h1 t4] n1 } : Obj)) :: tl) → 
    m (Str.ofString "points") = some (.ref D3) → m (Str.ofString "both") = some (.ref D5) → m (Str.ofString "touch") = some (.ref D6) → oM.data = .cell (some (.ref D1)) → oY.data = .cell (some (.ref D2)) → oK.data = .cell (some (.ref D4)) →
    Paired (TupIn tl) ys2 ps2 → Paired (TupIn tl) ys5 ps5 → Paired (TupIn tl) ys6 ps6 → ys2.length ≤ sizeLine → ys5.length ≤ sizeLine →
    containsB (r + x1) (u + y1) w1 h1 (r + x2) (u + y2) w2 h2 = decide (ys5.length = ys2.length) → meetsB (r + x1) (u + y1) w1 h1 (r + x2) (u + y2) w2 h2 = !decide (ps5 = []) → touchB (r + x1) (u + y1) w1 h1 (r + x2) (u + y2) w2 h2 = !decide (ps6 = []) →
    (∀ h' tk, News g L h' ((D6, listOf ys6.toArray k6) :: (D5, listOf ys5.toArray k5) :: (D4, LCg.lst ys4) :: (D3, LCg.lst ys3) :: (D2, LCg.lst ys2) :: (D1, LCg.lst ys1) :: (xb, instObj 196 db) :: (db, dictOf (rectEs w.params kb1 kb2 kb3 kb4 kb5 (.int w2 t7) (.int h2 t8) (.int (r + x2) tb3) (.int (u + y2) tb4) (.int 8 tb5)) 5) :: (xa, instObj 196 da) :: (da, dictOf (rectEs w.params ka1 ka2 ka3 ka4 ka5 (.int w1 t3) (.int h1 t4) (.int (r + x1) ta3) (.int (u + y1) ta4) (.int 7 ta5)) 5) :: (L + 1 + 1 + 1 + 1 + 1, oK) :: (L + 1 + 1 + 1 + 1, oY) :: (L + 1 + 1 + 1, oM) :: (L + 1 + 1, oU) :: (L + 1, oR) :: (o2, ({ cls := .type "tuple", data := .seq #[.int x2 t5, .int y2 t6, .int w2 t7, .int h2 t8] n2 } : Obj)) :: (o1, ({ cls := .type "tuple", data := .seq #[.int x1 t1, .int y1 t2, .int w1 t3, .int h1 t4] n1 } : Obj)) :: tl) → Fr g L h' m →
      wpAny (model PySem.Challenge.rw_kx0087_01.row.prog w) A (execs (pairBody.drop 9) (pairEnv L)) Q E { s with heap := h', toks := tk }) →
    wpAny (model PySem.Challenge.rw_kx0087_01.row.prog w) A (execs (pairBody.drop 8) (pairEnv L)) Q E s := by
  k_fill
  intro X B T hA hroom hh hu doR doU b1 b2 b3 b4 b5 b6 b7 b8 b9 b10 b11 b12 b13 b14 b15 b16 lo1 lo2 q1 q2 q3 q4 hm1 hm2 hma hmb F N mP mB mT dM dY dK P2 P5 P6 sz2 sz5 eC eM eT hQ
  dsimp only [pairEnv, pairScope, pairBody, pairDef, nthSt, scopeOf, bodyOf, List.drop, PySem.Challenge.pw_kx0087_01] at *
  repeat' (first | (k_unfold; (try dsimp only)) | ((fail_if_success (with_reducible show wpAny _ _ (execs (Stmt.Assign [Expr.Name (PySem.Str.ofString "meet") _] _ _ :: _) _) _ _ _)); first | walk1 | (dsimp only; walk1)))
  with_reducible rename News _ _ _ _ => NN
  exact hQ _ _ (fun p hp => NN p (.tail _ (.tail _ hp))) (by with_reducible assumption)
end
section
set_option maxRecDepth 100000 in
set_option maxHeartbeats 8000000 in
theorem four_call {w : World} {A₀ A : Around} {env : Env} {outer : List Env} {base h₀ : Heap} {L : Addr} {m mg mb : Str → Option Value} {mean : ExcName → Option Value} {news : List (Addr × Obj)} {s : Shared} {E : Value → Shared → Prop} {Q : Value → Shared → Prop} {xa da : Addr} {ka1 ka2 ka3 ka4 ka5 : Tok} {wa ha x1 y1 : Int} {ra : Value} {ta1 ta2 ta3 ta4 : Tok} {na : Nat} {r u : Int} {tr tu : Tok} :
    (hd.heap_39 w.params).In h₀ → Below A₀ base outer h₀ → Top hd.view_39 (looseW hd.view_39 [Str.ofString "Rectangle"]) mean mg mb h₀ → A.frames = some (env :: outer) → env.frame = some L → env.scope.kind = .function → A.depth + 20 < recursionLimit → A.handled = none →
    Fr h₀ L s.heap m → News h₀ L s.heap news →
    (xa, instObj 196 da) ∈ news → (da, dictOf (rectEs w.params ka1 ka2 ka3 ka4 ka5 (.int wa ta1) (.int ha ta2) (.int x1 ta3) (.int y1 ta4) ra) na) ∈ news →
    (∀ b t1 t2 h' tk, Fr h₀ L h' m → News h₀ L h' ((b, tup4 (x1 - r) (y1 - u) wa ha t1 t2 ta1 ta2) :: news) → Q (.ref b) { s with heap := h', toks := tk }) →
    wpAny (model PySem.Challenge.rw_kx0087_01.row.prog w) A (PySem.call (.ref 224) [.ref xa, .int r tr, .int u tu]) Q E s := by
  k_fill
  intro X B T hA hf hk hroom hh F N hxa hda hQ
  k_steps
  exact hQ _ _ _ _ _ (by assumption) (by assumption)
end
section
local macro_rules | `(tactic| walk_at "idle 0") => `(tactic| skip)
def BoxIs (ps : List (Int × Int)) (a b c d : Int) : Prop := ∀ l lo r u, BoxOf ps l lo r u → l = a ∧ lo = b ∧ r - l + 1 = c ∧ u - lo + 1 = d
theorem BoxIs.at {ps : List (Int × Int)} {a b c d l lo r u : Int} (h : BoxIs ps a b c d) (hb : BoxOf ps l lo r u) : l = a ∧ lo = b ∧ r - l + 1 = c ∧ u - lo + 1 = d := h _ _ _ _ hb
theorem ne_tup4 {prog : Program} {w : World} {A : Around} {E : Value → Shared → Prop} {s : Shared} {Q : Value → Shared → Prop} {h₀ : Heap} {L : Addr} {news : List (Addr × Obj)} {a b : Addr} {n n' : Nat} {v1 v2 v3 v4 v1' v2' v3' v4' : Int} {t1 t2 t3 t4 t5 t6 t7 t8 : Tok} (N : News h₀ L s.heap news)
    (ha : (a, ({ cls := .type "tuple", data := .seq #[.int v1 t1, .int v2 t2, .int v3 t3, .int v4 t4] n } : Obj)) ∈ news) (hb : (b, ({ cls := .type "tuple", data := .seq #[.int v1' t5, .int v2' t6, .int v3' t7, .int v4' t8] n' } : Obj)) ∈ news) (hu : A.units + 64 < cLine)
    (e : v1 = v1' ∧ v2 = v2' ∧ v3 = v3' ∧ v4 = v4') (h : Q (.bool false) s) : wpAny (model prog w) A (compareOp .NotEq (.ref a) (.ref b)) Q E s := by
  obtain ⟨rfl, rfl, rfl, rfl⟩ := e
  refine ne_dataH (reads_tuple_at (N _ ha).1 rfl rfl (.cons (.int _ _) (.cons (.int _ _) (.cons (.int _ _) (.cons (.int _ _) .nil))))) (reads_tuple_at (N _ hb).1 rfl rfl (.cons (.int _ _) (.cons (.int _ _) (.cons (.int _ _) (.cons (.int _ _) .nil))))) (by rfl) (by rfl) hu ?_
  simp only [PyData.eqv, PyData.eqvAll, beq_self_eq_true, Bool.and_self, Bool.and_true, Bool.not_true]
  exact h
local macro_rules | `(tactic| walk_at "call ref") => `(tactic| (k_here; (with_reducible show wpAny _ _ (PySem.call (Value.ref 224) _ _) _ _ _); k_dflt ((first | refine' four_call ?X ?B ?T ?hA ?hf ?hk ?hr ?hh ?F ?N ?hl ?hp ?_); (case X => assumption); (case B => assumption); (case T => assumption); (case hA => assumption); (case hf => exact rfl); (case hk => exact rfl); (case hr => k_room); (case hh => assumption); (case F => assumption); (case N => with_reducible assumption); (case hl => k_mem); (case hp => k_mem)); intro b' t1' t2' h' tk' F' N'))
local macro_rules | `(tactic| walk_at "call ref") => `(tactic| (k_here; (with_reducible show wpAny _ _ (PySem.call (Value.ref 217) _ _) _ _ _); k_dflt ((first | refine' box_call ?X ?B ?T ?hA ?hf ?hk ?hr ?hh ?F ?N ?hl ?hp ?hn ?hz ?_); (case X => assumption); (case B => assumption); (case T => assumption); (case hA => assumption); (case hf => exact rfl); (case hk => exact rfl); (case hr => k_room); (case hh => assumption); (case F => assumption); (case N => with_reducible assumption); (case hl => k_mem); (case hp => first | (refine paired_up (by with_reducible assumption) ?_; exact (fun q hq => (by repeat (first | exact hq | refine List.mem_cons_of_mem _ ?_))))); (case hn => with_reducible assumption); (case hz => with_reducible assumption)); intro l' lo' r' u' b' t1' t2' t3' t4' h' tk' bx' F' N' lt'; clear lt'))
local macro_rules | `(tactic| walk_at "call ref") => `(tactic| (k_here; (with_reducible show wpAny _ _ (PySem.call (Value.ref 186) _ _) _ _ _); k_dflt ((first | refine' intersection_F ?X ?B ?T ?hA ?hf ?hk ?hr ?hh ?F ?N ?a ?b ?c ?d ?v ?p1 ?p2 ?p3 ?p4 ?nn ?yy | refine' intersection_T ?X ?B ?T ?hA ?hf ?hk ?hr ?hh ?F ?N ?a ?b ?c ?d ?v ?p1 ?p2 ?p3 ?p4 ?nn ?yy); (case X => assumption); (case B => assumption); (case T => assumption); (case hA => assumption); (case hf => exact rfl); (case hk => exact rfl); (case hr => k_room); (case hh => assumption); (case F => assumption); (case N => with_reducible assumption); (case a => k_mem); (case b => k_mem); (case c => k_mem); (case d => k_mem); (case v => with_reducible assumption); (case p1 => omega); (case p2 => omega); (case p3 => omega); (case p4 => omega); (first | (case nn => exact (fun e => Bool.noConfusion e)) | (case yy => exact (fun e => Bool.noConfusion e)))); first | (intro _ xm' dm' k1' k2' k3' k4' k5' t1' t2' t3' t4' n' h' tk' F' N' hl' hx') | (intro _ h' tk' F' N')))
local macro_rules | `(tactic| walk_at "compareOp NotEq bool bool") => `(tactic| (k_here; (with_reducible show wpAny _ _ (compareOp CmpOp.NotEq (Value.bool _) (Value.bool _)) _ _ _); k_dflt ((refine' ne_bools ?e ?hu ?_); (case e => first | (with_reducible assumption) | exact rfl); (case hu => omega))))
local macro_rules | `(tactic| walk_at "compareOp Eq ref ref") => `(tactic| (k_here; (with_reducible show wpAny _ _ (compareOp CmpOp.Eq (Value.ref _) (Value.ref _)) _ _ _); k_dflt ((refine' eq_empty ?N ?l1 ?p1 ?t1 ?l2 ?hu ?_); (case N => with_reducible assumption); (case l1 => k_mem); (case p1 => with_reducible assumption); (case t1 => exact (fun q hq => (by repeat (first | exact hq | refine List.mem_cons_of_mem _ ?_)))); (case l2 => exact List.mem_cons_self); (case hu => omega))))
local macro_rules | `(tactic| walk_at "compareOp NotEq ref ref") => `(tactic| (k_here; (with_reducible show wpAny _ _ (compareOp CmpOp.NotEq (Value.ref _) (Value.ref _)) _ _ _); k_dflt ((refine' ne_tup4 ?N ?l1 ?l2 ?hu ?e ?_); (case N => with_reducible assumption); (case l1 => k_mem); (case l2 => k_mem); (case hu => omega); (case e => (have := BoxIs.at (by with_reducible assumption) (by with_reducible assumption); omega)))))
set_option maxRecDepth 100000 in
set_option maxHeartbeats 8000000 in
theorem chunk4F {w : World} {A₀ A : Around} {outer : List Env} {base g : Heap} {L : Nat} {m mg mb : Str → Option Value} {mean : ExcName → Option Value} {s : Shared} {E : Value → Shared → Prop} {Q : Flow → Shared → Prop} {r u x1 y1 x2 y2 w1 h1 w2 h2 : Int} {tr tu t1 t2 t3 t4 t5 t6 t7 t8 ta3 ta4 ta5 tb3 tb4 tb5 : Tok} {o1 o2 xa da xb db : Nat} {n1 n2 : Nat} {oR oU oM oY oK : Obj} {ka1 ka2 ka3 ka4 ka5 kb1 kb2 kb3 kb4 kb5 : Tok} {D1 D2 D3 D4 D5 D6 : Nat} {ys1 ys2 ys3 ys4 ys5 ys6 : List Value} {k5 k6 : Nat} {ps5 : List (Int × Int)} {tl : List (Addr × Obj)} :
    (hd.heap_39 w.params).In g → Below A₀ base outer g → Top hd.view_39 (looseW hd.view_39 [Str.ofString "Rectangle"]) mean mg mb g → A.frames = some (pairEnv L :: outer) → A.depth + 120 < recursionLimit → A.handled = none → A.units + 190 < cLine → oR.data = .cell (some (.int r tr)) → oU.data = .cell (some (.int u tu)) →
    0 ≤ x1 → x1 ≤ 3 → 0 ≤ y1 → y1 ≤ 3 → 0 ≤ x2 → x2 ≤ 3 → 0 ≤ y2 → y2 ≤ 3 → 1 ≤ w1 → w1 ≤ 3 → 1 ≤ h1 → h1 ≤ 3 → 1 ≤ w2 → w2 ≤ 3 → 1 ≤ h2 → h2 ≤ 3 → o1 < L → o2 < L → L + 1 + 1 + 1 + 1 + 1 < da → da < xa → xa < db → db < xb → m (Str.ofString "one") = some (.ref o1) → m (Str.ofString "two") = some (.ref o2) → m (Str.ofString "a") = some (.ref xa) → m (Str.ofString "b") = some (.ref xb) → Fr g L s.heap m → News g L s.heap ((D6, listOf ys6.toArray k6) :: (D5, listOf ys5.toArray k5) :: (D4, LCg.lst ys4) :: (D3, LCg.lst ys3) :: (D2, LCg.lst ys2) :: (D1, LCg.lst ys1) :: (xb, instObj 196 db) :: (db, dictOf (rectEs w.params kb1 kb2 kb3 kb4 kb5 (.int w2 t7) (.int h2 t8) (.int (r + x2) tb3) (.int (u + y2) tb4) (.int 8 tb5)) 5) :: (xa, instObj 196 da) :: (da, dictOf (rectEs w.params ka1 ka2 ka3 ka4 ka5 (.int w1 t3) (.int h1 t4) (.int (r + x1) ta3) (.int (u + y1) ta4) (.int 7 ta5)) 5) :: (L + 1 + 1 + 1 + 1 + 1, oK) :: (L + 1 + 1 + 1 + 1, oY) :: (L + 1 + 1 + 1, oM) :: (L + 1 + 1, oU) :: (L + 1, oR) :: (o2, ({ cls := .type "tuple", data := .seq #[.int x2 t5, .int y2 t6, .int w2 t7, .int h2 t8] n2 } : Obj)) :: (o1, ({ cls := .type "tuple", data := .seq #[.int x1 t1, .int y1 t2, .int w1 t3, .int h1 t4] n1 } : Obj)) :: tl) → 
    m (Str.ofString "points") = some (.ref D3) → m (Str.ofString "both") = some (.ref D5) → m (Str.ofString "touch") = some (.ref D6) → oM.data = .cell (some (.ref D1)) → oY.data = .cell (some (.ref D2)) → oK.data = .cell (some (.ref D4)) →
    Paired (TupIn tl) ys5 ps5 → ys5.length ≤ sizeLine →
    meetsB (r + x1) (u + y1) w1 h1 (r + x2) (u + y2) w2 h2 = false → true = decide (ps5 = []) → True → True →
    (∀ m' h' tk, News g L h' ((D6, listOf ys6.toArray k6) :: (D5, listOf ys5.toArray k5) :: (D4, LCg.lst ys4) :: (D3, LCg.lst ys3) :: (D2, LCg.lst ys2) :: (D1, LCg.lst ys1) :: (xb, instObj 196 db) :: (db, dictOf (rectEs w.params kb1 kb2 kb3 kb4 kb5 (.int w2 t7) (.int h2 t8) (.int (r + x2) tb3) (.int (u + y2) tb4) (.int 8 tb5)) 5) :: (xa, instObj 196 da) :: (da, dictOf (rectEs w.params ka1 ka2 ka3 ka4 ka5 (.int w1 t3) (.int h1 t4) (.int (r + x1) ta3) (.int (u + y1) ta4) (.int 7 ta5)) 5) :: (L + 1 + 1 + 1 + 1 + 1, oK) :: (L + 1 + 1 + 1 + 1, oY) :: (L + 1 + 1 + 1, oM) :: (L + 1 + 1, oU) :: (L + 1, oR) :: (o2, ({ cls := .type "tuple", data := .seq #[.int x2 t5, .int y2 t6, .int w2 t7, .int h2 t8] n2 } : Obj)) :: (o1, ({ cls := .type "tuple", data := .seq #[.int x1 t1, .int y1 t2, .int w1 t3, .int h1 t4] n1 } : Obj)) :: tl) → Fr g L h' m' →
      m' (Str.ofString "one") = some (.ref o1) → m' (Str.ofString "two") = some (.ref o2) → m' (Str.ofString "a") = some (.ref xa) → m' (Str.ofString "b") = some (.ref xb) → m' (Str.ofString "points") = some (.ref D3) → m' (Str.ofString "both") = some (.ref D5) → m' (Str.ofString "touch") = some (.ref D6) →
      wpAny (model PySem.Challenge.rw_kx0087_01.row.prog w) A (execs (pairBody.drop 11) (pairEnv L)) Q E { s with heap := h', toks := tk }) →
    wpAny (model PySem.Challenge.rw_kx0087_01.row.prog w) A (execs (pairBody.drop 9) (pairEnv L)) Q E s := by
  k_fill
  intro X B T hA hroom hh hu doR doU b1 b2 b3 b4 b5 b6 b7 b8 b9 b10 b11 b12 b13 b14 b15 b16 lo1 lo2 q1 q2 q3 q4 hm1 hm2 hma hmb F N mP mB mT dM dY dK P5 sz5 eM e0 hlen hBox hQ
  dsimp only [pairEnv, pairScope, pairBody, pairDef, nthSt, scopeOf, bodyOf, List.drop, PySem.Challenge.pw_kx0087_01] at *
  refine wpAny_execs_cons ?_
  repeat' (first | (k_unfold; (try dsimp only)) | ((fail_if_success (with_reducible show wpAny _ _ (execs (Stmt.Assign [Expr.Name (PySem.Str.ofString "meet") _] _ _ :: _) _) _ _ _)); first | walk1 | (dsimp only; walk1)))
  all_goals ((with_reducible rename News _ _ _ _ => NN); refine' hQ ?_ ?_ ?_ ?nn ?ff ?e1 ?e2 ?e3 ?e4 ?e5 ?e6 ?e7; (case ff => with_reducible assumption); (case nn => exact (fun p hp => NN p (by repeat (first | with_reducible exact hp | refine List.mem_cons_of_mem _ ?_)))); (case e1 => exact hm1); (case e2 => exact hm2); (case e3 => exact hma); (case e4 => exact hmb); (case e5 => exact mP); (case e6 => exact mB); (case e7 => exact mT))
set_option maxRecDepth 100000 in
set_option maxHeartbeats 8000000 in
theorem chunk4T {w : World} {A₀ A : Around} {outer : List Env} {base g : Heap} {L : Nat} {m mg mb : Str → Option Value} {mean : ExcName → Option Value} {s : Shared} {E : Value → Shared → Prop} {Q : Flow → Shared → Prop} {r u x1 y1 x2 y2 w1 h1 w2 h2 : Int} {tr tu t1 t2 t3 t4 t5 t6 t7 t8 ta3 ta4 ta5 tb3 tb4 tb5 : Tok} {o1 o2 xa da xb db : Nat} {n1 n2 : Nat} {oR oU oM oY oK : Obj} {ka1 ka2 ka3 ka4 ka5 kb1 kb2 kb3 kb4 kb5 : Tok} {D1 D2 D3 D4 D5 D6 : Nat} {ys1 ys2 ys3 ys4 ys5 ys6 : List Value} {k5 k6 : Nat} {ps5 : List (Int × Int)} {tl : List (Addr × Obj)} :
    (hd.heap_39 w.params).In g → Below A₀ base outer g → Top hd.view_39 (looseW hd.view_39 [Str.ofString "Rectangle"]) mean mg mb g → A.frames = some (pairEnv L :: outer) → A.depth + 120 < recursionLimit → A.handled = none → A.units + 190 < cLine → oR.data = .cell (some (.int r tr)) → oU.data = .cell (some (.int u tu)) →
    0 ≤ x1 → x1 ≤ 3 → 0 ≤ y1 → y1 ≤ 3 → 0 ≤ x2 → x2 ≤ 3 → 0 ≤ y2 → y2 ≤ 3 → 1 ≤ w1 → w1 ≤ 3 → 1 ≤ h1 → h1 ≤ 3 → 1 ≤ w2 → w2 ≤ 3 → 1 ≤ h2 → h2 ≤ 3 → o1 < L → o2 < L → L + 1 + 1 + 1 + 1 + 1 < da → da < xa → xa < db → db < xb → m (Str.ofString "one") = some (.ref o1) → m (Str.ofString "two") = some (.ref o2) → m (Str.ofString "a") = some (.ref xa) → m (Str.ofString "b") = some (.ref xb) → Fr g L s.heap m → News g L s.heap ((D6, listOf ys6.toArray k6) :: (D5, listOf ys5.toArray k5) :: (D4, LCg.lst ys4) :: (D3, LCg.lst ys3) :: (D2, LCg.lst ys2) :: (D1, LCg.lst ys1) :: (xb, instObj 196 db) :: (db, dictOf (rectEs w.params kb1 kb2 kb3 kb4 kb5 (.int w2 t7) (.int h2 t8) (.int (r + x2) tb3) (.int (u + y2) tb4) (.int 8 tb5)) 5) :: (xa, instObj 196 da) :: (da, dictOf (rectEs w.params ka1 ka2 ka3 ka4 ka5 (.int w1 t3) (.int h1 t4) (.int (r + x1) ta3) (.int (u + y1) ta4) (.int 7 ta5)) 5) :: (L + 1 + 1 + 1 + 1 + 1, oK) :: (L + 1 + 1 + 1 + 1, oY) :: (L + 1 + 1 + 1, oM) :: (L + 1 + 1, oU) :: (L + 1, oR) :: (o2, ({ cls := .type "tuple", data := .seq #[.int x2 t5, .int y2 t6, .int w2 t7, .int h2 t8] n2 } : Obj)) :: (o1, ({ cls := .type "tuple", data := .seq #[.int x1 t1, .int y1 t2, .int w1 t3, .int h1 t4] n1 } : Obj)) :: tl) → 
    m (Str.ofString "points") = some (.ref D3) → m (Str.ofString "both") = some (.ref D5) → m (Str.ofString "touch") = some (.ref D6) → oM.data = .cell (some (.ref D1)) → oY.data = .cell (some (.ref D2)) → oK.data = .cell (some (.ref D4)) →
    Paired (TupIn tl) ys5 ps5 → ys5.length ≤ sizeLine →
    meetsB (r + x1) (u + y1) w1 h1 (r + x2) (u + y2) w2 h2 = true → false = decide (ps5 = []) → 0 < ps5.length → BoxIs ps5 (max (r + x1) (r + x2) - r) (max (u + y1) (u + y2) - u) (min (r + x1 + w1) (r + x2 + w2) - max (r + x1) (r + x2)) (min (u + y1 + h1) (u + y2 + h2) - max (u + y1) (u + y2)) →
    (∀ m' h' tk, News g L h' ((D6, listOf ys6.toArray k6) :: (D5, listOf ys5.toArray k5) :: (D4, LCg.lst ys4) :: (D3, LCg.lst ys3) :: (D2, LCg.lst ys2) :: (D1, LCg.lst ys1) :: (xb, instObj 196 db) :: (db, dictOf (rectEs w.params kb1 kb2 kb3 kb4 kb5 (.int w2 t7) (.int h2 t8) (.int (r + x2) tb3) (.int (u + y2) tb4) (.int 8 tb5)) 5) :: (xa, instObj 196 da) :: (da, dictOf (rectEs w.params ka1 ka2 ka3 ka4 ka5 (.int w1 t3) (.int h1 t4) (.int (r + x1) ta3) (.int (u + y1) ta4) (.int 7 ta5)) 5) :: (L + 1 + 1 + 1 + 1 + 1, oK) :: (L + 1 + 1 + 1 + 1, oY) :: (L + 1 + 1 + 1, oM) :: (L + 1 + 1, oU) :: (L + 1, oR) :: (o2, ({ cls := .type "tuple", data := .seq #[.int x2 t5, .int y2 t6, .int w2 t7, .int h2 t8] n2 } : Obj)) :: (o1, ({ cls := .type "tuple", data := .seq #[.int x1 t1, .int y1 t2, .int w1 t3, .int h1 t4] n1 } : Obj)) :: tl) → Fr g L h' m' →
      m' (Str.ofString "one") = some (.ref o1) → m' (Str.ofString "two") = some (.ref o2) → m' (Str.ofString "a") = some (.ref xa) → m' (Str.ofString "b") = some (.ref xb) → m' (Str.ofString "points") = some (.ref D3) → m' (Str.ofString "both") = some (.ref D5) → m' (Str.ofString "touch") = some (.ref D6) →
      wpAny (model PySem.Challenge.rw_kx0087_01.row.prog w) A (execs (pairBody.drop 11) (pairEnv L)) Q E { s with heap := h', toks := tk }) →
    wpAny (model PySem.Challenge.rw_kx0087_01.row.prog w) A (execs (pairBody.drop 9) (pairEnv L)) Q E s := by
  k_fill
  intro X B T hA hroom hh hu doR doU b1 b2 b3 b4 b5 b6 b7 b8 b9 b10 b11 b12 b13 b14 b15 b16 lo1 lo2 q1 q2 q3 q4 hm1 hm2 hma hmb F N mP mB mT dM dY dK P5 sz5 eM e0 hlen hBox hQ
  dsimp only [pairEnv, pairScope, pairBody, pairDef, nthSt, scopeOf, bodyOf, List.drop, PySem.Challenge.pw_kx0087_01] at *
  refine wpAny_execs_cons ?_
  repeat' (first | (k_unfold; (try dsimp only)) | ((fail_if_success (with_reducible show wpAny _ _ (execs (Stmt.Assign [Expr.Name (PySem.Str.ofString "meet") _] _ _ :: _) _) _ _ _)); first | walk1 | (dsimp only; walk1)))
  all_goals ((with_reducible rename News _ _ _ _ => NN); refine' hQ ?_ ?_ ?_ ?nn ?ff ?e1 ?e2 ?e3 ?e4 ?e5 ?e6 ?e7; (case ff => with_reducible assumption); (case nn => exact (fun p hp => NN p (by repeat (first | with_reducible exact hp | refine List.mem_cons_of_mem _ ?_)))); (case e1 => exact hm1); (case e2 => exact hm2); (case e3 => exact hma); (case e4 => exact hmb); (case e5 => exact mP); (case e6 => exact mB); (case e7 => exact mT))
theorem chunk4 {w : World} {A₀ A : Around} {outer : List Env} {base g : Heap} {L : Nat} {m mg mb : Str → Option Value} {mean : ExcName → Option Value} {s : Shared} {E : Value → Shared → Prop} {Q : Flow → Shared → Prop} {r u x1 y1 x2 y2 w1 h1 w2 h2 : Int} {tr tu t1 t2 t3 t4 t5 t6 t7 t8 ta3 ta4 ta5 tb3 tb4 tb5 : Tok} {o1 o2 xa da xb db : Nat} {n1 n2 : Nat} {oR oU oM oY oK : Obj} {ka1 ka2 ka3 ka4 ka5 kb1 kb2 kb3 kb4 kb5 : Tok} {D1 D2 D3 D4 D5 D6 : Nat} {ys1 ys2 ys3 ys4 ys5 ys6 : List Value} {k5 k6 : Nat} {ps5 : List (Int × Int)} {tl : List (Addr × Obj)} :
    (hd.heap_39 w.params).In g → Below A₀ base outer g → Top hd.view_39 (looseW hd.view_39 [Str.ofString "Rectangle"]) mean mg mb g → A.frames = some (pairEnv L :: outer) → A.depth + 120 < recursionLimit → A.handled = none → A.units + 190 < cLine → oR.data = .cell (some (.int r tr)) → oU.data = .cell (some (.int u tu)) →
    0 ≤ x1 → x1 ≤ 3 → 0 ≤ y1 → y1 ≤ 3 → 0 ≤ x2 → x2 ≤ 3 → 0 ≤ y2 → y2 ≤ 3 → 1 ≤ w1 → w1 ≤ 3 → 1 ≤ h1 → h1 ≤ 3 → 1 ≤ w2 → w2 ≤ 3 → 1 ≤ h2 → h2 ≤ 3 → o1 < L → o2 < L → L + 1 + 1 + 1 + 1 + 1 < da → da < xa → xa < db → db < xb → m (Str.ofString "one") = some (.ref o1) → m (Str.ofString "two") = some (.ref o2) → m (Str.ofString "a") = some (.ref xa) → m (Str.ofString "b") = some (.ref xb) → Fr g L s.heap m → News g L s.heap ((D6, listOf ys6.toArray k6) :: (D5, listOf ys5.toArray k5) :: (D4, LCg.lst ys4) :: (D3, LCg.lst ys3) :: (D2, LCg.lst ys2) :: (D1, LCg.lst ys1) :: (xb, instObj 196 db) :: (db, dictOf (rectEs w.params kb1 kb2 kb3 kb4 kb5 (.int w2 t7) (.int h2 t8) (.int (r + x2) tb3) (.int (u + y2) tb4) (.int 8 tb5)) 5) :: (xa, instObj 196 da) :: (da, dictOf (rectEs w.params ka1 ka2 ka3 ka4 ka5 (.int w1 t3) (.int h1 t4) (.int (r + x1) ta3) (.int (u + y1) ta4) (.int 7 ta5)) 5) :: (L + 1 + 1 + 1 + 1 + 1, oK) :: (L + 1 + 1 + 1 + 1, oY) :: (L + 1 + 1 + 1, oM) :: (L + 1 + 1, oU) :: (L + 1, oR) :: (o2, ({ cls := .type "tuple", data := .seq #[.int x2 t5, .int y2 t6, .int w2 t7, .int h2 t8] n2 } : Obj)) :: (o1, ({ cls := .type "tuple", data := .seq #[.int x1 t1, .int y1 t2, .int w1 t3, .int h1 t4] n1 } : Obj)) :: tl) → 
    m (Str.ofString "points") = some (.ref D3) → m (Str.ofString "both") = some (.ref D5) → m (Str.ofString "touch") = some (.ref D6) → oM.data = .cell (some (.ref D1)) → oY.data = .cell (some (.ref D2)) → oK.data = .cell (some (.ref D4)) →
    Paired (TupIn tl) ys5 ps5 → ys5.length ≤ sizeLine →
    meetsB (r + x1) (u + y1) w1 h1 (r + x2) (u + y2) w2 h2 = !decide (ps5 = []) → BoxIs ps5 (max (r + x1) (r + x2) - r) (max (u + y1) (u + y2) - u) (min (r + x1 + w1) (r + x2 + w2) - max (r + x1) (r + x2)) (min (u + y1 + h1) (u + y2 + h2) - max (u + y1) (u + y2)) →
    (∀ m' h' tk, News g L h' ((D6, listOf ys6.toArray k6) :: (D5, listOf ys5.toArray k5) :: (D4, LCg.lst ys4) :: (D3, LCg.lst ys3) :: (D2, LCg.lst ys2) :: (D1, LCg.lst ys1) :: (xb, instObj 196 db) :: (db, dictOf (rectEs w.params kb1 kb2 kb3 kb4 kb5 (.int w2 t7) (.int h2 t8) (.int (r + x2) tb3) (.int (u + y2) tb4) (.int 8 tb5)) 5) :: (xa, instObj 196 da) :: (da, dictOf (rectEs w.params ka1 ka2 ka3 ka4 ka5 (.int w1 t3) (.int h1 t4) (.int (r + x1) ta3) (.int (u + y1) ta4) (.int 7 ta5)) 5) :: (L + 1 + 1 + 1 + 1 + 1, oK) :: (L + 1 + 1 + 1 + 1, oY) :: (L + 1 + 1 + 1, oM) :: (L + 1 + 1, oU) :: (L + 1, oR) :: (o2, ({ cls := .type "tuple", data := .seq #[.int x2 t5, .int y2 t6, .int w2 t7, .int h2 t8] n2 } : Obj)) :: (o1, ({ cls := .type "tuple", data := .seq #[.int x1 t1, .int y1 t2, .int w1 t3, .int h1 t4] n1 } : Obj)) :: tl) → Fr g L h' m' →
      m' (Str.ofString "one") = some (.ref o1) → m' (Str.ofString "two") = some (.ref o2) → m' (Str.ofString "a") = some (.ref xa) → m' (Str.ofString "b") = some (.ref xb) → m' (Str.ofString "points") = some (.ref D3) → m' (Str.ofString "both") = some (.ref D5) → m' (Str.ofString "touch") = some (.ref D6) →
      wpAny (model PySem.Challenge.rw_kx0087_01.row.prog w) A (execs (pairBody.drop 11) (pairEnv L)) Q E { s with heap := h', toks := tk }) →
    wpAny (model PySem.Challenge.rw_kx0087_01.row.prog w) A (execs (pairBody.drop 9) (pairEnv L)) Q E s := by
  intro X B T hA hroom hh hu doR doU b1 b2 b3 b4 b5 b6 b7 b8 b9 b10 b11 b12 b13 b14 b15 b16 lo1 lo2 q1 q2 q3 q4 hm1 hm2 hma hmb F N mP mB mT dM dY dK P5 sz5 eM hBox hQ
  by_cases hps : ps5 = []
  · exact chunk4F X B T hA hroom hh hu doR doU b1 b2 b3 b4 b5 b6 b7 b8 b9 b10 b11 b12 b13 b14 b15 b16 lo1 lo2 q1 q2 q3 q4 hm1 hm2 hma hmb F N mP mB mT dM dY dK P5 sz5 (by rw [eM]; simp [hps]) (by simp [hps]) trivial trivial hQ
  · exact chunk4T X B T hA hroom hh hu doR doU b1 b2 b3 b4 b5 b6 b7 b8 b9 b10 b11 b12 b13 b14 b15 b16 lo1 lo2 q1 q2 q3 q4 hm1 hm2 hma hmb F N mP mB mT dM dY dK P5 sz5 (by rw [eM]; simp [hps]) (by simp [hps]) (List.length_pos_iff.mpr hps) hBox hQ
end
section
theorem add_max' (c a b : Int) : max (c + a) (c + b) = c + max a b := by
  rcases Int.le_total a b with h | h
  · rw [Int.max_eq_right h, Int.max_eq_right (Int.add_le_add_left h c)]
  · rw [Int.max_eq_left h, Int.max_eq_left (Int.add_le_add_left h c)]
theorem add_min' (c a b : Int) : min (c + a) (c + b) = c + min a b := by
  rcases Int.le_total a b with h | h
  · rw [Int.min_eq_left h, Int.min_eq_left (Int.add_le_add_left h c)]
  · rw [Int.min_eq_right h, Int.min_eq_right (Int.add_le_add_left h c)]
theorem sh_lt {r a b c : Int} : r + a < r + b + c ↔ a < b + c := by rw [Int.add_assoc]; exact Int.add_lt_add_iff_left r
theorem sh_le {r a b c : Int} : r + a ≤ r + b + c ↔ a ≤ b + c := by rw [Int.add_assoc]; exact Int.add_le_add_iff_left r
theorem sh_le2 {r a b : Int} : r + a ≤ r + b ↔ a ≤ b := Int.add_le_add_iff_left r
theorem sh_le3 {r a b c d : Int} : r + a + c ≤ r + b + d ↔ a + c ≤ b + d := by rw [Int.add_assoc, Int.add_assoc]; exact Int.add_le_add_iff_left r
theorem sh_eq {r a b : Int} : r + a = r + b ↔ a = b := Int.add_right_inj r
theorem lt1 {a b v : Int} : a < b + (v + 1) ↔ a ≤ b + v := by rw [← Int.add_assoc]; exact Int.lt_add_one_iff
theorem mm_iff {a b w v : Int} (hw : 1 ≤ w) (hv : 1 ≤ v) : max a b < min (a + w) (b + v) ↔ a < b + v ∧ b < a + w :=
  ⟨fun h => ⟨(Int.max_lt.mp (Int.lt_min.mp h).2).1, (Int.max_lt.mp (Int.lt_min.mp h).1).2⟩,
   fun h => Int.lt_min.mpr ⟨Int.max_lt.mpr ⟨Int.lt_add_of_pos_right a (Int.lt_of_lt_of_le (show (0 : Int) < 1 by decide) hw), h.2⟩, Int.max_lt.mpr ⟨h.1, Int.lt_add_of_pos_right b (Int.lt_of_lt_of_le (show (0 : Int) < 1 by decide) hv)⟩⟩⟩
theorem nn1 {w : Int} (h : 1 ≤ w) : ((w.toNat : Nat) : Int) = w := Int.toNat_of_nonneg (Int.le_trans (show (0 : Int) ≤ 1 by decide) h)
theorem nn2 {w : Int} (h : 1 ≤ w) : (((w + 1).toNat : Nat) : Int) = w + 1 := Int.toNat_of_nonneg (Int.le_trans (Int.le_trans (show (0 : Int) ≤ 1 by decide) h) (Int.le_add_one (Int.le_refl w)))
theorem one_succ {w : Int} (h : 1 ≤ w) : 1 ≤ w + 1 := Int.le_trans h (Int.le_add_one (Int.le_refl w))
theorem pos1 {w : Int} (h : 1 ≤ w) : 0 < w.toNat := Int.lt_toNat.mpr (Int.lt_of_lt_of_le (show (0 : Int) < 1 by decide) h)
theorem acl (a b : Int) : a + b - a = b := by omega
theorem as_sum (a b : Int) : ∃ d, b = a + d := ⟨b - a, by omega⟩
end
section
theorem mem_row {i a2 : Int} {n : Nat} {p : Int × Int} : p ∈ row i a2 n ↔ p.1 = i ∧ a2 ≤ p.2 ∧ p.2 < a2 + (n : Int) := by
  unfold row
  rw [List.mem_map]
  constructor
  · rintro ⟨j, hj, rfl⟩
    have := List.mem_range.mp hj
    exact ⟨rfl, by show a2 ≤ a2 + (j : Int); omega, by show a2 + (j : Int) < a2 + (n : Int); omega⟩
  · rintro ⟨e, h1, h2⟩
    exact ⟨(p.2 - a2).toNat, List.mem_range.mpr (by omega), Prod.ext e.symm (by show a2 + ((p.2 - a2).toNat : Int) = p.2; omega)⟩
theorem mem_sq {a1 a2 : Int} {n1 n2 : Nat} {p : Int × Int} : p ∈ sq a1 a2 n1 n2 ↔ (a1 ≤ p.1 ∧ p.1 < a1 + (n1 : Int)) ∧ a2 ≤ p.2 ∧ p.2 < a2 + (n2 : Int) := by
  unfold sq
  rw [List.mem_flatMap]
  constructor
  · rintro ⟨k, hk, h⟩
    have := List.mem_range.mp hk
    obtain ⟨e, h1, h2⟩ := mem_row.mp h
    exact ⟨⟨by omega, by omega⟩, h1, h2⟩
  · rintro ⟨⟨h0, h0'⟩, h1, h2⟩
    exact ⟨(p.1 - a1).toNat, List.mem_range.mpr (by omega), mem_row.mpr ⟨by omega, h1, h2⟩⟩
theorem box_of_bounds {ps : List (Int × Int)} {l lo r u : Int} (hb : BoxOf ps l lo r u) {L1 L2 R1 R2 : Int} (h : ∀ p ∈ ps, (L1 ≤ p.1 ∧ p.1 ≤ R1) ∧ L2 ≤ p.2 ∧ p.2 ≤ R2) (h1 : ∃ p ∈ ps, p.1 = L1) (h2 : ∃ p ∈ ps, p.2 = L2) (h3 : ∃ p ∈ ps, p.1 = R1) (h4 : ∃ p ∈ ps, p.2 = R2) : l = L1 ∧ lo = L2 ∧ r = R1 ∧ u = R2 := by
  obtain ⟨⟨m1, b1⟩, ⟨m2, b2⟩, ⟨m3, b3⟩, ⟨m4, b4⟩⟩ := hb
  obtain ⟨q1, hq1, rfl⟩ := List.mem_map.mp m1
  obtain ⟨q2, hq2, rfl⟩ := List.mem_map.mp m2
  obtain ⟨q3, hq3, rfl⟩ := List.mem_map.mp m3
  obtain ⟨q4, hq4, rfl⟩ := List.mem_map.mp m4
  obtain ⟨p1, g1, e1⟩ := h1
  obtain ⟨p2, g2, e2⟩ := h2
  obtain ⟨p3, g3, e3⟩ := h3
  obtain ⟨p4, g4, e4⟩ := h4
  have c1 := b1 _ (List.mem_map.mpr ⟨p1, g1, rfl⟩)
  have c2 := b2 _ (List.mem_map.mpr ⟨p2, g2, rfl⟩)
  have c3 := b3 _ (List.mem_map.mpr ⟨p3, g3, rfl⟩)
  have c4 := b4 _ (List.mem_map.mpr ⟨p4, g4, rfl⟩)
  have d1 := h _ hq1
  have d2 := h _ hq2
  have d3 := h _ hq3
  have d4 := h _ hq4
  omega
end
section
section
variable {x1 y1 x2 y2 : Int} {n1 k1 n2 k2 : Nat}
theorem mem_inter {p : Int × Int} : p ∈ (sq x1 y1 n1 k1).filter (fun p => decide (p ∈ sq x2 y2 n2 k2)) ↔ ((x1 ≤ p.1 ∧ p.1 < x1 + (n1 : Int)) ∧ y1 ≤ p.2 ∧ p.2 < y1 + (k1 : Int)) ∧ (x2 ≤ p.1 ∧ p.1 < x2 + (n2 : Int)) ∧ y2 ≤ p.2 ∧ p.2 < y2 + (k2 : Int) := by
  rw [List.mem_filter, mem_sq, decide_eq_true_iff, mem_sq]
theorem mem_inter' {p : Int × Int} : p ∈ (sq x1 y1 n1 k1).filter (fun p => decide (p ∈ sq x2 y2 n2 k2)) ↔ (max x1 x2 ≤ p.1 ∧ p.1 < min (x1 + (n1 : Int)) (x2 + (n2 : Int))) ∧ max y1 y2 ≤ p.2 ∧ p.2 < min (y1 + (k1 : Int)) (y2 + (k2 : Int)) := by
  rw [mem_inter, Int.max_le, Int.max_le, Int.lt_min, Int.lt_min]
  exact ⟨fun ⟨⟨⟨a, b⟩, c, d⟩, ⟨e, f⟩, g, h⟩ => ⟨⟨⟨a, e⟩, b, f⟩, ⟨c, g⟩, d, h⟩, fun ⟨⟨⟨a, e⟩, b, f⟩, ⟨c, g⟩, d, h⟩ => ⟨⟨⟨a, b⟩, c, d⟩, ⟨e, f⟩, g, h⟩⟩
theorem inter_nil : (sq x1 y1 n1 k1).filter (fun p => decide (p ∈ sq x2 y2 n2 k2)) = [] ↔ ¬ (max x1 x2 < min (x1 + (n1 : Int)) (x2 + (n2 : Int)) ∧ max y1 y2 < min (y1 + (k1 : Int)) (y2 + (k2 : Int))) := by
  constructor
  · intro h ⟨h1, h2⟩
    have : (max x1 x2, max y1 y2) ∈ (sq x1 y1 n1 k1).filter (fun p => decide (p ∈ sq x2 y2 n2 k2)) := mem_inter'.mpr ⟨⟨Int.le_refl _, h1⟩, Int.le_refl _, h2⟩
    rw [h] at this
    cases this
  · intro h
    refine List.eq_nil_iff_forall_not_mem.mpr fun p hp => h ?_
    have := mem_inter'.mp hp
    exact ⟨Int.lt_of_le_of_lt this.1.1 this.1.2, Int.lt_of_le_of_lt this.2.1 this.2.2⟩
theorem box_inter (hne : (sq x1 y1 n1 k1).filter (fun p => decide (p ∈ sq x2 y2 n2 k2)) ≠ []) :
    BoxIs ((sq x1 y1 n1 k1).filter (fun p => decide (p ∈ sq x2 y2 n2 k2))) (max x1 x2) (max y1 y2) (min (x1 + (n1 : Int)) (x2 + (n2 : Int)) - max x1 x2) (min (y1 + (k1 : Int)) (y2 + (k2 : Int)) - max y1 y2) := by
  have hc := Classical.byContradiction fun h => hne (inter_nil.mpr h)
  have hm : ∀ p : Int × Int, p ∈ (sq x1 y1 n1 k1).filter (fun p => decide (p ∈ sq x2 y2 n2 k2)) ↔ _ := fun p => mem_inter'
  revert hc hm
  generalize max x1 x2 = M, max y1 y2 = N, min (x1 + (n1 : Int)) (x2 + (n2 : Int)) = R, min (y1 + (k1 : Int)) (y2 + (k2 : Int)) = U, (sq x1 y1 n1 k1).filter (fun p => decide (p ∈ sq x2 y2 n2 k2)) = ps
  intro hc hm l lo r u hb
  have lowm : (M, N) ∈ ps := (hm _).mpr ⟨⟨Int.le_refl _, hc.1⟩, Int.le_refl _, hc.2⟩
  have upm : (R - 1, U - 1) ∈ ps := (hm _).mpr ⟨⟨Int.le_sub_one_of_lt hc.1, Int.sub_one_lt_of_le (Int.le_refl _)⟩, Int.le_sub_one_of_lt hc.2, Int.sub_one_lt_of_le (Int.le_refl _)⟩
  obtain ⟨rfl, rfl, rfl, rfl⟩ := box_of_bounds hb (L1 := M) (L2 := N) (R1 := R - 1) (R2 := U - 1) (fun p hp => ⟨⟨((hm p).mp hp).1.1, Int.le_sub_one_of_lt ((hm p).mp hp).1.2⟩, ((hm p).mp hp).2.1, Int.le_sub_one_of_lt ((hm p).mp hp).2.2⟩) ⟨_, lowm, rfl⟩ ⟨_, lowm, rfl⟩ ⟨_, upm, rfl⟩ ⟨_, upm, rfl⟩
  exact ⟨rfl, rfl, by omega, by omega⟩
end
end
section
theorem bool_of_iff {p q : Prop} [Decidable p] [Decidable q] (h : p ↔ ¬ q) : decide p = !decide q := by
  by_cases z : q
  · have : ¬ p := fun e => h.mp e z
    simp [z, this]
  · have : p := h.mpr z
    simp [z, this]
section
variable {r u x1 y1 x2 y2 w1 h1 w2 h2 : Int} (a1 : 1 ≤ w1) (a2 : 1 ≤ h1) (a3 : 1 ≤ w2) (a4 : 1 ≤ h2)
include a1 a2 a3 a4
theorem meets_eq :
    meetsB (r + x1) (u + y1) w1 h1 (r + x2) (u + y2) w2 h2 = !decide ((sq x1 y1 w1.toNat h1.toNat).filter (fun p => decide (p ∈ sq x2 y2 w2.toNat h2.toNat)) = []) := by
  unfold meetsB
  refine bool_of_iff ?_
  rw [inter_nil, Classical.not_not, nn1 a1, nn1 a2, nn1 a3, nn1 a4, mm_iff a1 a3, mm_iff a2 a4, sh_lt, sh_lt, sh_lt, sh_lt]
  exact ⟨fun ⟨a, b, c, d⟩ => ⟨⟨c, d⟩, a, b⟩, fun ⟨⟨c, d⟩, a, b⟩ => ⟨a, b, c, d⟩⟩
theorem touch_eq :
    touchB (r + x1) (u + y1) w1 h1 (r + x2) (u + y2) w2 h2 = !decide ((sq x1 y1 (w1 + 1).toNat (h1 + 1).toNat).filter (fun p => decide (p ∈ sq x2 y2 (w2 + 1).toNat (h2 + 1).toNat)) = []) := by
  unfold touchB
  refine bool_of_iff ?_
  rw [inter_nil, Classical.not_not, nn2 a1, nn2 a2, nn2 a3, nn2 a4, mm_iff (one_succ a1) (one_succ a3), mm_iff (one_succ a2) (one_succ a4), lt1, lt1, lt1, lt1, sh_le, sh_le, sh_le, sh_le]
  exact ⟨fun ⟨a, b, c, d⟩ => ⟨⟨c, d⟩, a, b⟩, fun ⟨⟨c, d⟩, a, b⟩ => ⟨a, b, c, d⟩⟩
end
theorem sq_first {x y : Int} {n k : Nat} (hn : 0 < n) (hk : 0 < k) : (sq x y n k)[0]? = some (x, y) := by
  obtain ⟨n, rfl⟩ := Nat.exists_eq_succ_of_ne_zero (Nat.ne_of_gt hn)
  obtain ⟨k, rfl⟩ := Nat.exists_eq_succ_of_ne_zero (Nat.ne_of_gt hk)
  simp [sq, row, List.range_succ_eq_map]
theorem sq_last {x y : Int} {n k : Nat} : (sq x y (n + 1) (k + 1))[(sq x y (n + 1) (k + 1)).length - 1]? = some (x + (n : Int), y + (k : Int)) := by
  rw [← List.getLast?_eq_getElem?, sq_succ, row_succ, ← List.append_assoc]
  simp
end
section
def cnt (a lo hi : Int) (n : Nat) : Nat := (min (a + (n : Int)) hi - max a lo).toNat
theorem cnt_succ (a lo hi : Int) (n : Nat) : cnt a lo hi (n + 1) = cnt a lo hi n + if lo ≤ a + (n : Int) ∧ a + (n : Int) < hi then 1 else 0 := by
  unfold cnt
  have e : a + ((n + 1 : Nat) : Int) = a + (n : Int) + 1 := by omega
  have ha : a ≤ a + (n : Int) := Int.le_add_of_nonneg_right (Int.natCast_nonneg n)
  have h1 : lo ≤ max a lo := Int.le_max_right _ _
  have h2 : lo ≤ a + (n : Int) → max a lo ≤ a + (n : Int) := fun h => Int.max_le.mpr ⟨ha, h⟩
  rw [e]
  revert h1 h2
  generalize max a lo = M, a + (n : Int) = v
  intro h1 h2
  by_cases hv : v < hi
  · rw [Int.min_eq_left hv, Int.min_eq_left (Int.le_of_lt hv)]
    by_cases hl : lo ≤ v
    · have := h2 hl
      rw [if_pos ⟨hl, hv⟩]
      omega
    · rw [if_neg (fun h => hl h.1)]
      omega
  · rw [Int.min_eq_right (Int.le_trans (Int.not_lt.mp hv) (Int.le_add_one (Int.le_refl v))), Int.min_eq_right (Int.not_lt.mp hv), if_neg (fun h => hv h.2), Nat.add_zero]
theorem cnt_full {x1 x2 w : Int} {n : Nat} (hw : 1 ≤ w) : cnt x1 x2 (x2 + w) n = w.toNat ↔ x2 + w ≤ x1 + (n : Int) ∧ x1 ≤ x2 := by
  unfold cnt
  constructor
  · have m1 := Int.min_le_left (x1 + (n : Int)) (x2 + w)
    have m2 := Int.min_le_right (x1 + (n : Int)) (x2 + w)
    have m3 := Int.le_max_left x1 x2
    have m4 := Int.le_max_right x1 x2
    revert m1 m2 m3 m4
    generalize min (x1 + (n : Int)) (x2 + w) = a, max x1 x2 = b, x1 + (n : Int) = v
    omega
  · rintro ⟨h1, h2⟩
    rw [Int.min_eq_right h1, Int.max_eq_right h2, acl]
theorem cnt_le {x1 x2 hi : Int} {n : Nat} : cnt x1 x2 hi n ≤ (hi - x2).toNat := by
  unfold cnt
  exact Int.toNat_le_toNat (Int.sub_le_sub (Int.min_le_right _ _) (Int.le_max_right _ _))
theorem cnt_at {x1 x2 w1 w2 : Int} (h1 : 1 ≤ w1) (h2 : 1 ≤ w2) : cnt x2 x1 (x1 + (w1.toNat : Int)) w2.toNat = (min (x2 - x1 + w2) w1 - max (x2 - x1) 0).toNat := by
  obtain ⟨d, rfl⟩ := as_sum x1 x2
  unfold cnt
  have e : max (x1 + d) x1 = x1 + max d 0 := by rw [← add_max', Int.add_zero]
  rw [nn1 h1, nn1 h2, Int.add_assoc, add_min', e, Int.add_sub_add_left, acl]
def inB (lo hi lo2 hi2 : Int) (p : Int × Int) : Bool := decide ((lo ≤ p.1 ∧ p.1 < hi) ∧ lo2 ≤ p.2 ∧ p.2 < hi2)
theorem row_count {i a2 lo hi lo2 hi2 : Int} : ∀ n : Nat, ((row i a2 n).filter (inB lo hi lo2 hi2)).length = if lo ≤ i ∧ i < hi then cnt a2 lo2 hi2 n else 0
  | 0 => by simp [row, cnt]; omega
  | n + 1 => by
    rw [row_succ, List.filter_append, List.length_append, row_count n, cnt_succ]
    by_cases h : lo ≤ i ∧ i < hi <;> by_cases h2 : lo2 ≤ a2 + (n : Int) ∧ a2 + (n : Int) < hi2 <;> simp [inB, h, h2]
theorem sq_count {a1 a2 lo hi lo2 hi2 : Int} {n2 : Nat} : ∀ n : Nat, ((sq a1 a2 n n2).filter (inB lo hi lo2 hi2)).length = cnt a1 lo hi n * cnt a2 lo2 hi2 n2
  | 0 => by
    have : cnt a1 lo hi 0 = 0 := by unfold cnt; omega
    rw [this]; simp [sq]
  | n + 1 => by
    rw [sq_succ, List.filter_append, List.length_append, sq_count n, row_count, cnt_succ]
    by_cases h : lo ≤ a1 + (n : Int) ∧ a1 + (n : Int) < hi <;> simp [h, Nat.add_mul]
theorem inter_inB {x2 y2 : Int} {n2 k2 : Nat} (ps : List (Int × Int)) : ps.filter (fun p => decide (p ∈ sq x2 y2 n2 k2)) = ps.filter (inB x2 (x2 + (n2 : Int)) y2 (y2 + (k2 : Int))) := by
  refine List.filter_congr fun p _ => ?_
  unfold inB
  exact decide_eq_decide.mpr mem_sq
end
section
theorem mul_eq_of_le {a b n k : Nat} (h1 : a ≤ n) (h2 : b ≤ k) (hn : 0 < n) (hk : 0 < k) (e : a * b = n * k) : a = n ∧ b = k := by
  rcases Nat.lt_or_eq_of_le h1 with h | rfl
  · have z1 : a * b ≤ a * k := Nat.mul_le_mul_left _ h2
    have z2 : a * k < n * k := Nat.mul_lt_mul_of_pos_right h hk
    omega
  · exact ⟨rfl, Nat.eq_of_mul_eq_mul_left hn e⟩
theorem contains_eq {r u x1 y1 x2 y2 w1 h1 w2 h2 : Int} (a1 : 1 ≤ w1) (a2 : 1 ≤ h1) (a3 : 1 ≤ w2) (a4 : 1 ≤ h2) :
    containsB (r + x1) (u + y1) w1 h1 (r + x2) (u + y2) w2 h2 = decide (((sq x1 y1 w1.toNat h1.toNat).filter (fun p => decide (p ∈ sq x2 y2 w2.toNat h2.toNat))).length = (sq x2 y2 w2.toNat h2.toNat).length) := by
  unfold containsB
  rw [inter_inB, sq_count, sq_length, nn1 a3, nn1 a4]
  have f1 := cnt_full (x1 := x1) (x2 := x2) (n := w1.toNat) a3
  have f2 := cnt_full (x1 := y1) (x2 := y2) (n := h1.toNat) a4
  rw [nn1 a1] at f1
  rw [nn1 a2] at f2
  have l1 := cnt_le (x1 := x1) (x2 := x2) (hi := x2 + w2) (n := w1.toNat)
  have l2 := cnt_le (x1 := y1) (x2 := y2) (hi := y2 + h2) (n := h1.toNat)
  rw [acl] at l1 l2
  rw [decide_eq_decide, sh_le2, sh_le2, sh_le3, sh_le3]
  refine ⟨fun ⟨p1, p2, p3, p4⟩ => ?_, fun h => ?_⟩
  · rw [f1.mpr ⟨p4, p2⟩, f2.mpr ⟨p3, p1⟩]
  · obtain ⟨e1, e2⟩ := mul_eq_of_le l1 l2 (pos1 a3) (pos1 a4) h
    exact ⟨(f2.mp e2).2, (f1.mp e1).2, (f2.mp e2).1, (f1.mp e1).1⟩
theorem mem_sq1 {x y w h : Int} (a1 : 1 ≤ w) (a2 : 1 ≤ h) {p : Int × Int} : p ∈ sq x y w.toNat h.toNat ↔ (x ≤ p.1 ∧ p.1 < x + w) ∧ y ≤ p.2 ∧ p.2 < y + h := by rw [mem_sq, nn1 a1, nn1 a2]
theorem ends1 {x w v : Int} (a : 1 ≤ w) (b : 1 ≤ v) {y : Int} (h1 : y ≤ x) (h2 : x ≤ y) (h3 : x + w - 1 < y + v) (h4 : y + v - 1 < x + w) : x = y ∧ w = v := by omega
theorem eq_eq {r u x1 y1 x2 y2 w1 h1 w2 h2 : Int} (a1 : 1 ≤ w1) (a2 : 1 ≤ h1) (a3 : 1 ≤ w2) (a4 : 1 ≤ h2) :
    decide (w1 = w2 ∧ h1 = h2 ∧ r + x1 = r + x2 ∧ u + y1 = u + y2) = decide (sq x1 y1 w1.toNat h1.toNat = sq x2 y2 w2.toNat h2.toNat) := by
  rw [decide_eq_decide, sh_eq, sh_eq]
  refine ⟨fun ⟨e1, e2, e3, e4⟩ => by rw [e1, e2, e3, e4], fun h => ?_⟩
  have k : ∀ p : Int × Int, p ∈ sq x1 y1 w1.toNat h1.toNat ↔ p ∈ sq x2 y2 w2.toNat h2.toNat := fun p => by rw [h]
  have lo : ∀ {x w : Int}, 1 ≤ w → x ≤ x + w - 1 ∧ x + w - 1 < x + w ∧ x < x + w := fun h => by omega
  have z1 := (mem_sq1 a3 a4).mp ((k (x1, y1)).mp ((mem_sq1 a1 a2).mpr ⟨⟨Int.le_refl _, (lo a1).2.2⟩, Int.le_refl _, (lo a2).2.2⟩))
  have z2 := (mem_sq1 a1 a2).mp ((k (x2, y2)).mpr ((mem_sq1 a3 a4).mpr ⟨⟨Int.le_refl _, (lo a3).2.2⟩, Int.le_refl _, (lo a4).2.2⟩))
  have z3 := (mem_sq1 a3 a4).mp ((k (x1 + w1 - 1, y1 + h1 - 1)).mp ((mem_sq1 a1 a2).mpr ⟨⟨(lo a1).1, (lo a1).2.1⟩, (lo a2).1, (lo a2).2.1⟩))
  have z4 := (mem_sq1 a1 a2).mp ((k (x2 + w2 - 1, y2 + h2 - 1)).mpr ((mem_sq1 a3 a4).mpr ⟨⟨(lo a3).1, (lo a3).2.1⟩, (lo a4).1, (lo a4).2.1⟩))
  obtain ⟨e1, e2⟩ := ends1 a1 a3 z1.1.1 z2.1.1 z3.1.2 z4.1.2
  obtain ⟨e3, e4⟩ := ends1 a2 a4 z1.2.1 z2.2.1 z3.2.2 z4.2.2
  exact ⟨e2, e4, e1, e3⟩
theorem area_eq {x y w h : Int} (a1 : 1 ≤ w) (a2 : 1 ≤ h) : w * h = ((sq x y w.toNat h.toNat).length : Int) := by
  rw [sq_length, Int.natCast_mul, Int.toNat_of_nonneg (by omega), Int.toNat_of_nonneg (by omega)]
theorem length_split {α : Type} (q : α → Bool) : ∀ l : List α, (l.filter fun a => !q a).length + (l.filter q).length = l.length
  | [] => rfl
  | a :: l => by
    have := length_split q l
    cases h : q a <;> simp [h] <;> omega
theorem union_count {x1 y1 x2 y2 : Int} {n1 k1 n2 k2 : Nat} : ((sq x2 y2 n2 k2).filter (fun p => !decide (p ∈ sq x1 y1 n1 k1))).length + cnt x2 x1 (x1 + (n1 : Int)) n2 * cnt y2 y1 (y1 + (k1 : Int)) k2 = n2 * k2 := by
  have e := length_split (fun p => decide (p ∈ sq x1 y1 n1 k1)) (sq x2 y2 n2 k2)
  rw [inter_inB, sq_count, sq_length] at e
  omega
end
section
theorem lt_eq {x1 y1 x2 y2 w1 h1 w2 h2 : Int} (a1 : 1 ≤ w1) (a2 : 1 ≤ h1) (a3 : 1 ≤ w2) (a4 : 1 ≤ h2) :
    decide (w1 * h1 < w2 * h2) = decide (((sq x1 y1 w1.toNat h1.toNat).length : Int) < ((sq x2 y2 w2.toNat h2.toNat).length : Int)) := by
  rw [← area_eq a1 a2, ← area_eq a3 a4]
theorem mem_union {x1 y1 x2 y2 : Int} {n1 k1 n2 k2 : Nat} {p : Int × Int} : p ∈ sq x1 y1 n1 k1 ++ (sq x2 y2 n2 k2).filter (fun p => !decide (p ∈ sq x1 y1 n1 k1)) ↔ ((x1 ≤ p.1 ∧ p.1 < x1 + (n1 : Int)) ∧ y1 ≤ p.2 ∧ p.2 < y1 + (k1 : Int)) ∨ (x2 ≤ p.1 ∧ p.1 < x2 + (n2 : Int)) ∧ y2 ≤ p.2 ∧ p.2 < y2 + (k2 : Int) := by
  rw [List.mem_append, List.mem_filter]
  constructor
  · rintro (h | h)
    · exact .inl (mem_sq.mp h)
    · exact .inr (mem_sq.mp h.1)
  · rintro (h | h)
    · exact .inl (mem_sq.mpr h)
    · by_cases z : p ∈ sq x1 y1 n1 k1
      · exact .inl z
      · exact .inr ⟨mem_sq.mpr h, by simp [z]⟩
theorem low_in {a b : Int} {n k : Nat} (hn : 0 < n) (hk : 0 < k) : (a, b) ∈ sq a b n k := mem_sq.mpr ⟨⟨Int.le_refl _, Int.lt_add_of_pos_right _ (Int.natCast_pos.mpr hn)⟩, Int.le_refl _, Int.lt_add_of_pos_right _ (Int.natCast_pos.mpr hk)⟩
theorem up_in {a b : Int} {n k : Nat} (hn : 0 < n) (hk : 0 < k) : (a + (n : Int) - 1, b + (k : Int) - 1) ∈ sq a b n k := mem_sq.mpr ⟨⟨Int.le_sub_one_of_lt (Int.lt_add_of_pos_right _ (Int.natCast_pos.mpr hn)), Int.sub_one_lt_of_le (Int.le_refl _)⟩, Int.le_sub_one_of_lt (Int.lt_add_of_pos_right _ (Int.natCast_pos.mpr hk)), Int.sub_one_lt_of_le (Int.le_refl _)⟩
theorem min_or (a b : Int) : a = min a b ∨ b = min a b := (Int.le_total a b).imp (fun h => (Int.min_eq_left h).symm) (fun h => (Int.min_eq_right h).symm)
theorem max_or (a b : Int) : a - 1 = max a b - 1 ∨ b - 1 = max a b - 1 := (Int.le_total b a).imp (fun h => congrArg (· - 1) (Int.max_eq_left h).symm) (fun h => congrArg (· - 1) (Int.max_eq_right h).symm)
theorem box_union {x1 y1 x2 y2 : Int} {n1 k1 n2 k2 : Nat} (b1 : 0 < n1) (b2 : 0 < k1) (b3 : 0 < n2) (b4 : 0 < k2) :
    BoxIs (sq x1 y1 n1 k1 ++ (sq x2 y2 n2 k2).filter (fun p => !decide (p ∈ sq x1 y1 n1 k1))) (min x1 x2) (min y1 y2) (max (x1 + (n1 : Int)) (x2 + (n2 : Int)) - min x1 x2) (max (y1 + (k1 : Int)) (y2 + (k2 : Int)) - min y1 y2) := by
  intro l lo r u hb
  have m1 := mem_union (n2 := n2) (k2 := k2) (x2 := x2) (y2 := y2) |>.mpr (.inl (mem_sq.mp (low_in (a := x1) (b := y1) b1 b2)))
  have m2 := mem_union (n1 := n1) (k1 := k1) (x1 := x1) (y1 := y1) |>.mpr (.inr (mem_sq.mp (low_in (a := x2) (b := y2) b3 b4)))
  have m3 := mem_union (n2 := n2) (k2 := k2) (x2 := x2) (y2 := y2) |>.mpr (.inl (mem_sq.mp (up_in (a := x1) (b := y1) b1 b2)))
  have m4 := mem_union (n1 := n1) (k1 := k1) (x1 := x1) (y1 := y1) |>.mpr (.inr (mem_sq.mp (up_in (a := x2) (b := y2) b3 b4)))
  have hm : ∀ p : Int × Int, p ∈ sq x1 y1 n1 k1 ++ (sq x2 y2 n2 k2).filter (fun p => !decide (p ∈ sq x1 y1 n1 k1)) → _ := fun p => mem_union.mp
  revert m1 m2 m3 m4 hb hm
  generalize sq x1 y1 n1 k1 ++ (sq x2 y2 n2 k2).filter (fun p => !decide (p ∈ sq x1 y1 n1 k1)) = ps
  intro hb m1 m2 m3 m4 hm
  have pick : ∀ {f : Int × Int → Int} {c : Int} {p q : Int × Int}, (f p = c ∨ f q = c) → p ∈ ps → q ∈ ps → ∃ z ∈ ps, f z = c := fun h hp hq => h.elim (fun e => ⟨_, hp, e⟩) (fun e => ⟨_, hq, e⟩)
  obtain ⟨rfl, rfl, rfl, rfl⟩ := box_of_bounds hb (L1 := min x1 x2) (L2 := min y1 y2) (R1 := max (x1 + (n1 : Int)) (x2 + (n2 : Int)) - 1) (R2 := max (y1 + (k1 : Int)) (y2 + (k2 : Int)) - 1)
    (fun p hp => (hm p hp).elim
      (fun h => ⟨⟨Int.le_trans (Int.min_le_left _ _) h.1.1, Int.le_sub_one_of_lt (Int.lt_of_lt_of_le h.1.2 (Int.le_max_left _ _))⟩, Int.le_trans (Int.min_le_left _ _) h.2.1, Int.le_sub_one_of_lt (Int.lt_of_lt_of_le h.2.2 (Int.le_max_left _ _))⟩)
      (fun h => ⟨⟨Int.le_trans (Int.min_le_right _ _) h.1.1, Int.le_sub_one_of_lt (Int.lt_of_lt_of_le h.1.2 (Int.le_max_right _ _))⟩, Int.le_trans (Int.min_le_right _ _) h.2.1, Int.le_sub_one_of_lt (Int.lt_of_lt_of_le h.2.2 (Int.le_max_right _ _))⟩))
    (pick (f := fun z => z.1) (min_or _ _) m1 m2) (pick (f := fun z => z.2) (min_or _ _) m1 m2) (pick (f := fun z => z.1) (max_or _ _) m3 m4) (pick (f := fun z => z.2) (max_or _ _) m3 m4)
  generalize max (x1 + (n1 : Int)) (x2 + (n2 : Int)) = R, max (y1 + (k1 : Int)) (y2 + (k2 : Int)) = U, min x1 x2 = a, min y1 y2 = b
  exact ⟨rfl, rfl, by omega, by omega⟩
end
section
def caseOk (dx dy : Int) (w1 h1 w2 h2 : Nat) : Bool :=
  let len := (w1 * h1 + w2 * h2 : Int) - (min (dx + w2) w1 - max dx 0).toNat * (min (dy + h2) h1 - max dy 0).toNat
  let bw := max (w1 : Int) (dx + w2) - min 0 dx
  let bh := max (h1 : Int) (dy + h2) - min 0 dy
  let whole := decide (bw * bh = len)
  let j := joinV 0 0 w1 h1 dx dy w2 h2
  j.1 == whole && (if whole then decide (j.2 = (min 0 dx, min 0 dy, bw, bh)) else decide (j.2 = (0, 0, (w1 : Int), (h1 : Int))))
def casesAt (dx : Nat) : Bool := (List.range 7).all fun dy => (List.range 3).all fun w1 => (List.range 3).all fun h1 => (List.range 3).all fun w2 => (List.range 3).all fun h2 => caseOk ((dx : Int) - 3) ((dy : Int) - 3) (w1 + 1) (h1 + 1) (w2 + 1) (h2 + 1)
theorem cases_at0 : casesAt 0 = true := by decide +kernel
theorem cases_at1 : casesAt 1 = true := by decide +kernel
theorem cases_at2 : casesAt 2 = true := by decide +kernel
theorem cases_at3 : casesAt 3 = true := by decide +kernel
theorem cases_at4 : casesAt 4 = true := by decide +kernel
theorem cases_at5 : casesAt 5 = true := by decide +kernel
theorem cases_at6 : casesAt 6 = true := by decide +kernel
theorem cases_at : ∀ i : Nat, i < 7 → casesAt i = true
  | 0, _ => cases_at0
  | 1, _ => cases_at1
  | 2, _ => cases_at2
  | 3, _ => cases_at3
  | 4, _ => cases_at4
  | 5, _ => cases_at5
  | 6, _ => cases_at6
  | n + 7, h => absurd h (by omega)
theorem all_get {n : Nat} {q : Nat → Bool} (h : (List.range n).all q = true) {i : Nat} (hi : i < n) : q i = true := List.all_eq_true.mp h i (List.mem_range.mpr hi)
theorem case_ok {dx dy : Int} {w1 h1 w2 h2 : Nat} (a1 : -3 ≤ dx) (a2 : dx ≤ 3) (a3 : -3 ≤ dy) (a4 : dy ≤ 3) (b1 : 1 ≤ w1) (b2 : w1 ≤ 3) (b3 : 1 ≤ h1) (b4 : h1 ≤ 3) (b5 : 1 ≤ w2) (b6 : w2 ≤ 3) (b7 : 1 ≤ h2) (b8 : h2 ≤ 3) : caseOk dx dy w1 h1 w2 h2 = true := by
  have h := all_get (all_get (all_get (all_get (all_get (cases_at (dx + 3).toNat (by omega)) (i := (dy + 3).toNat) (by omega)) (i := w1 - 1) (by omega)) (i := h1 - 1) (by omega)) (i := w2 - 1) (by omega)) (i := h2 - 1) (by omega)
  have e1 : (((dx + 3).toNat : Nat) : Int) - 3 = dx := by omega
  have e2 : (((dy + 3).toNat : Nat) : Int) - 3 = dy := by omega
  rw [e1, e2, Nat.sub_add_cancel b1, Nat.sub_add_cancel b3, Nat.sub_add_cancel b5, Nat.sub_add_cancel b7] at h
  exact h
end
section
theorem joinV_shift {a b x1 y1 x2 y2 w1 h1 w2 h2 : Int} : joinV (a + x1) (b + y1) w1 h1 (a + x2) (b + y2) w2 h2 = ((joinV x1 y1 w1 h1 x2 y2 w2 h2).1, a + (joinV x1 y1 w1 h1 x2 y2 w2 h2).2.1, b + (joinV x1 y1 w1 h1 x2 y2 w2 h2).2.2.1, (joinV x1 y1 w1 h1 x2 y2 w2 h2).2.2.2.1, (joinV x1 y1 w1 h1 x2 y2 w2 h2).2.2.2.2) := by
  unfold joinV containsB touchB
  have e : ∀ c p q v w' : Int, max (c + p + v) (c + q + w') - (c + min p q) = max (p + v) (q + w') - min p q := fun c p q v w' => by rw [Int.add_assoc, Int.add_assoc, add_max', Int.add_sub_add_left]
  simp only [sh_le, sh_le2, sh_le3, sh_eq, add_min', e]
  repeat' split
  all_goals rfl
end
section
theorem union_len {x1 y1 x2 y2 w1 h1 w2 h2 : Int} (a1 : 1 ≤ w1) (a2 : 1 ≤ h1) (a3 : 1 ≤ w2) (a4 : 1 ≤ h2) :
    ((sq x1 y1 w1.toNat h1.toNat ++ (sq x2 y2 w2.toNat h2.toNat).filter (fun p => !decide (p ∈ sq x1 y1 w1.toNat h1.toNat))).length : Int) =
      w1 * h1 + w2 * h2 - ((min (x2 - x1 + w2) w1 - max (x2 - x1) 0).toNat : Int) * ((min (y2 - y1 + h2) h1 - max (y2 - y1) 0).toNat : Int) := by
  have e := union_count (x1 := x1) (y1 := y1) (x2 := x2) (y2 := y2) (n1 := w1.toNat) (k1 := h1.toNat) (n2 := w2.toNat) (k2 := h2.toNat)
  rw [cnt_at a1 a3, cnt_at a2 a4] at e
  have e' := congrArg (fun n : Nat => (n : Int)) e
  simp only [Int.natCast_add, Int.natCast_mul] at e'
  rw [nn1 a3, nn1 a4] at e'
  rw [List.length_append, sq_length, Int.natCast_add, Int.natCast_mul, nn1 a1, nn1 a2, ← e', ← Int.add_assoc, Int.add_sub_cancel]
end
section
theorem join_small {dx dy w1 h1 w2 h2 : Int} (a1 : -3 ≤ dx) (a2 : dx ≤ 3) (a3 : -3 ≤ dy) (a4 : dy ≤ 3) (b1 : 1 ≤ w1) (b2 : w1 ≤ 3) (b3 : 1 ≤ h1) (b4 : h1 ≤ 3) (b5 : 1 ≤ w2) (b6 : w2 ≤ 3) (b7 : 1 ≤ h2) (b8 : h2 ≤ 3) :
    caseOk dx dy w1.toNat h1.toNat w2.toNat h2.toNat = true := case_ok a1 a2 a3 a4 (by omega) (by omega) (by omega) (by omega) (by omega) (by omega) (by omega) (by omega)
theorem join_both {dx dy w1 h1 w2 h2 : Int} (a1 : -3 ≤ dx) (a2 : dx ≤ 3) (a3 : -3 ≤ dy) (a4 : dy ≤ 3) (b1 : 1 ≤ w1) (b2 : w1 ≤ 3) (b3 : 1 ≤ h1) (b4 : h1 ≤ 3) (b5 : 1 ≤ w2) (b6 : w2 ≤ 3) (b7 : 1 ≤ h2) (b8 : h2 ≤ 3) {wh : Bool}
    (e : decide ((max w1 (dx + w2) - min 0 dx) * (max h1 (dy + h2) - min 0 dy) = w1 * h1 + w2 * h2 - ((min (dx + w2) w1 - max dx 0).toNat : Int) * ((min (dy + h2) h1 - max dy 0).toNat : Int)) = wh) :
    joinV 0 0 w1 h1 dx dy w2 h2 = (wh, if wh then (min 0 dx, min 0 dy, max w1 (dx + w2) - min 0 dx, max h1 (dy + h2) - min 0 dy) else (0, 0, w1, h1)) := by
  have h := join_small a1 a2 a3 a4 b1 b2 b3 b4 b5 b6 b7 b8
  unfold caseOk at h
  rw [Int.toNat_of_nonneg (by omega : 0 ≤ w1), Int.toNat_of_nonneg (by omega : 0 ≤ h1), Int.toNat_of_nonneg (by omega : 0 ≤ w2), Int.toNat_of_nonneg (by omega : 0 ≤ h2)] at h
  simp only [e] at h
  rw [Bool.and_eq_true] at h
  obtain ⟨h1', h2'⟩ := h
  have z : (joinV 0 0 w1 h1 dx dy w2 h2).1 = wh := by simpa using h1'
  cases wh <;> exact Prod.ext z (by simpa using h2')
end
section
theorem join_at {r u x1 y1 x2 y2 w1 h1 w2 h2 : Int} {wh : Bool} {q : Int × Int × Int × Int} (e : joinV 0 0 w1 h1 (x2 - x1) (y2 - y1) w2 h2 = (wh, q)) :
    joinV (r + x1) (u + y1) w1 h1 (r + x2) (u + y2) w2 h2 = (wh, r + x1 + q.1, u + y1 + q.2.1, q.2.2.1, q.2.2.2) := by
  have h := joinV_shift (a := r + x1) (b := u + y1) (x1 := 0) (y1 := 0) (x2 := x2 - x1) (y2 := y2 - y1) (w1 := w1) (h1 := h1) (w2 := w2) (h2 := h2)
  rw [e] at h
  rw [show r + x1 + 0 = r + x1 by omega, show u + y1 + 0 = u + y1 by omega, show r + x1 + (x2 - x1) = r + x2 by omega, show u + y1 + (y2 - y1) = u + y2 by omega] at h
  exact h
end
section
theorem join_fit {r u x1 y1 x2 y2 w1 h1 w2 h2 : Int} (c1 : 0 ≤ x1) (c2 : x1 ≤ 3) (c3 : 0 ≤ y1) (c4 : y1 ≤ 3) (c5 : 0 ≤ x2) (c6 : x2 ≤ 3) (c7 : 0 ≤ y2) (c8 : y2 ≤ 3) (b1 : 1 ≤ w1) (b2 : w1 ≤ 3) (b3 : 1 ≤ h1) (b4 : h1 ≤ 3) (b5 : 1 ≤ w2) (b6 : w2 ≤ 3) (b7 : 1 ≤ h2) (b8 : h2 ≤ 3) {wh : Bool}
    (e : decide ((max (x1 + w1) (x2 + w2) - min x1 x2) * (max (y1 + h1) (y2 + h2) - min y1 y2) = ((sq x1 y1 w1.toNat h1.toNat ++ (sq x2 y2 w2.toNat h2.toNat).filter (fun p => !decide (p ∈ sq x1 y1 w1.toNat h1.toNat))).length : Int)) = wh) :
    ∃ X Y W K, joinV (r + x1) (u + y1) w1 h1 (r + x2) (u + y2) w2 h2 = (wh, X, Y, W, K) ∧ (wh = true → X - r = min x1 x2 ∧ Y - u = min y1 y2 ∧ W = max (x1 + w1) (x2 + w2) - min x1 x2 ∧ K = max (y1 + h1) (y2 + h2) - min y1 y2) ∧ (wh = false → X - r = x1 ∧ Y - u = y1 ∧ W = w1 ∧ K = h1) := by
  rw [union_len b1 b3 b5 b7] at e
  have f : ∀ p q v w' : Int, max (p + v) (q + w') - min p q = max v (q - p + w') - min 0 (q - p) := fun p q v w' => by
    obtain ⟨d, rfl⟩ := as_sum p q
    have e : min p (p + d) = p + min 0 d := by rw [← add_min', Int.add_zero]
    rw [acl, Int.add_assoc, add_max', e, Int.add_sub_add_left]
  have g : ∀ c p q : Int, c + p + min 0 (q - p) - c = min p q := fun c p q => by
    obtain ⟨d, rfl⟩ := as_sum p q
    have e : min p (p + d) = p + min 0 d := by rw [← add_min', Int.add_zero]
    rw [acl, e, Int.add_assoc, acl]
  have bd : ∀ {p q : Int}, 0 ≤ p → p ≤ 3 → 0 ≤ q → q ≤ 3 → -3 ≤ q - p ∧ q - p ≤ 3 := fun h1 h2 h3 h4 => by omega
  rw [f, f] at e
  have j := join_at (r := r) (u := u) (join_both (bd c1 c2 c5 c6).1 (bd c1 c2 c5 c6).2 (bd c3 c4 c7 c8).1 (bd c3 c4 c7 c8).2 b1 b2 b3 b4 b5 b6 b7 b8 e)
  refine ⟨_, _, _, _, j, fun z => ?_, fun z => ?_⟩
  · subst z
    rw [f, f]
    exact ⟨g _ _ _, g _ _ _, rfl, rfl⟩
  · subst z
    exact ⟨by show r + x1 + 0 - r = x1; rw [Int.add_zero, acl], by show u + y1 + 0 - u = y1; rw [Int.add_zero, acl], rfl, rfl⟩
end
section
section
variable {r u x1 y1 x2 y2 w1 h1 w2 h2 : Int}
theorem mm_sh (c p q v w' m : Int) : min (c + p + v) (c + q + w') - (c + m) = min (p + v) (q + w') - m := by rw [Int.add_assoc, Int.add_assoc, add_min', Int.add_sub_add_left]
theorem mm_up (p q v w' m : Int) : min (p + (v + 1)) (q + (w' + 1)) - m = min (p + v) (q + w') - m + 1 := by
  rw [← Int.add_assoc, ← Int.add_assoc, Int.add_comm _ 1, Int.add_comm _ 1, add_min']
  omega
theorem box_both (a1 : 1 ≤ w1) (a2 : 1 ≤ h1) (a3 : 1 ≤ w2) (a4 : 1 ≤ h2) : BoxIs ((sq x1 y1 w1.toNat h1.toNat).filter (fun p => decide (p ∈ sq x2 y2 w2.toNat h2.toNat))) (max (r + x1) (r + x2) - r) (max (u + y1) (u + y2) - u) (min (r + x1 + w1) (r + x2 + w2) - max (r + x1) (r + x2)) (min (u + y1 + h1) (u + y2 + h2) - max (u + y1) (u + y2)) := by
  intro l lo r' u' hb
  have := box_inter (fun e => by rw [e] at hb; exact nomatch hb.1.1) l lo r' u' hb
  rw [nn1 a1, nn1 a2, nn1 a3, nn1 a4] at this
  rw [add_max', add_max', acl, acl, mm_sh, mm_sh]
  exact this
theorem box_touch (a1 : 1 ≤ w1) (a2 : 1 ≤ h1) (a3 : 1 ≤ w2) (a4 : 1 ≤ h2) : BoxIs ((sq x1 y1 (w1 + 1).toNat (h1 + 1).toNat).filter (fun p => decide (p ∈ sq x2 y2 (w2 + 1).toNat (h2 + 1).toNat))) (max (r + x1) (r + x2) - r) (max (u + y1) (u + y2) - u) (min (r + x1 + w1) (r + x2 + w2) - max (r + x1) (r + x2) + 1) (min (u + y1 + h1) (u + y2 + h2) - max (u + y1) (u + y2) + 1) := by
  intro l lo r' u' hb
  have := box_inter (fun e => by rw [e] at hb; exact nomatch hb.1.1) l lo r' u' hb
  rw [nn2 a1, nn2 a2, nn2 a3, nn2 a4, mm_up, mm_up] at this
  rw [add_max', add_max', acl, acl, mm_sh, mm_sh]
  exact this
end
end
section
section
variable {g h : Heap} {L : Addr} {d7 d6 d5 d4 d3 d2 d1 du bx f a1 a2 a3 a4 a5 a6 a7 a8 a9 a10 a11 : Addr × Obj} {tl7 tl : List (Addr × Obj)}
theorem led8 (N : News g L h (d7 :: (tl7 ++ (d6 :: d5 :: d4 :: d3 :: d2 :: d1 :: a1 :: a2 :: a3 :: a4 :: a5 :: a6 :: a7 :: a8 :: a9 :: a10 :: a11 :: tl)))) : News g L h (d7 :: d3 :: d2 :: d1 :: a1 :: a2 :: a3 :: a4 :: a5 :: a6 :: a7 :: a8 :: a9 :: a10 :: a11 :: (tl7 ++ tl)) := by
  obtain ⟨n1, n2⟩ := List.forall_mem_cons.mp N
  obtain ⟨n3, n4⟩ := List.forall_mem_append.mp n2
  simp only [List.forall_mem_cons] at n4
  obtain ⟨-, -, -, m3, m2, m1, e1, e2, e3, e4, e5, e6, e7, e8, e9, e10, e11, nt⟩ := n4
  simp only [News, List.forall_mem_cons, List.forall_mem_append]
  exact ⟨n1, m3, m2, m1, e1, e2, e3, e4, e5, e6, e7, e8, e9, e10, e11, n3, nt⟩
theorem led9 (N : News g L h (d7 :: d3 :: tl)) : News g L h tl := fun p hp => N p (.tail _ (.tail _ hp))
theorem led11 (N : News g L h (du :: d2 :: d1 :: tl)) : News g L h (du :: tl) := List.forall_mem_cons.mpr ⟨(List.forall_mem_cons.mp N).1, fun p hp => N p (.tail _ (.tail _ (.tail _ hp)))⟩
theorem led12 (N : News g L h (bx :: du :: a1 :: a2 :: a3 :: a4 :: a5 :: a6 :: a7 :: a8 :: a9 :: a10 :: a11 :: tl)) (hf : f ∈ tl) : News g L h (a4 :: bx :: f :: a1 :: a2 :: a3 :: a8 :: a9 :: a10 :: a11 :: []) := by
  simp only [News, List.forall_mem_cons] at N
  obtain ⟨m1, -, e1, e2, e3, e4, e5, e6, e7, e8, e9, e10, e11, nt⟩ := N
  simp only [News, List.forall_mem_cons]
  exact ⟨e4, m1, nt _ hf, e1, e2, e3, e8, e9, e10, e11, fun _ hp => (nomatch hp)⟩
theorem led13 (N : News g L h (a4 :: bx :: f :: a1 :: a2 :: a3 :: a8 :: a9 :: a10 :: a11 :: [])) : News g L h (a2 :: a4 :: f :: a1 :: a3 :: a8 :: a9 :: a10 :: a11 :: []) := by
  simp only [News, List.forall_mem_cons] at N
  obtain ⟨e4, -, ef, e1, e2, e3, e8, e9, e10, e11, nt⟩ := N
  simp only [News, List.forall_mem_cons]
  exact ⟨e2, e4, ef, e1, e3, e8, e9, e10, e11, nt⟩
theorem off12 {p : Addr × Obj → Prop} (h1 : p bx) (h2 : p f) (e1 : p a1) (e2 : p a2) (e3 : p a3) (e8 : p a8) (e9 : p a9) (e10 : p a10) (e11 : p a11) : ∀ q ∈ bx :: f :: a1 :: a2 :: a3 :: a8 :: a9 :: a10 :: a11 :: [], p q := by
  simp only [List.forall_mem_cons]
  exact ⟨h1, h2, e1, e2, e3, e8, e9, e10, e11, fun _ hp => (nomatch hp)⟩
end
end
section
local macro_rules | `(tactic| walk_at "call ref") => `(tactic| (k_here; (with_reducible show wpAny _ _ (PySem.call (Value.ref 224) _ _) _ _ _); k_dflt ((first | refine' four_call ?X ?B ?T ?hA ?hf ?hk ?hr ?hh ?F ?N ?hl ?hp ?_); (case X => assumption); (case B => assumption); (case T => assumption); (case hA => assumption); (case hf => exact rfl); (case hk => exact rfl); (case hr => k_room); (case hh => assumption); (case F => assumption); (case N => with_reducible assumption); (case hl => k_mem); (case hp => k_mem)); intro b' t1' t2' h' tk' F' N'))
local macro_rules | `(tactic| walk_at "call ref") => `(tactic| (k_here; (with_reducible show wpAny _ _ (PySem.call (Value.ref 217) _ _) _ _ _); k_dflt ((first | refine' box_call ?X ?B ?T ?hA ?hf ?hk ?hr ?hh ?F ?N ?hl ?hp ?hn ?hz ?_); (case X => assumption); (case B => assumption); (case T => assumption); (case hA => assumption); (case hf => exact rfl); (case hk => exact rfl); (case hr => k_room); (case hh => assumption); (case F => assumption); (case N => with_reducible assumption); (case hl => k_mem); (case hp => first | (refine paired_up (by with_reducible assumption) ?_; exact (fun q hq => (by repeat (first | exact hq | refine List.mem_cons_of_mem _ ?_))))); (case hn => with_reducible assumption); (case hz => with_reducible assumption)); intro l' lo' r' u' b' t1' t2' t3' t4' h' tk' bx' F' N' lt'; clear lt'))
local macro_rules | `(tactic| walk_at "call ref") => `(tactic| (k_here; (with_reducible show wpAny _ _ (PySem.call (Value.ref 186) _ _) _ _ _); k_dflt ((first | refine' intersection_F ?X ?B ?T ?hA ?hf ?hk ?hr ?hh ?F ?N ?a ?b ?c ?d ?v ?p1 ?p2 ?p3 ?p4 ?nn ?yy | refine' intersection_T ?X ?B ?T ?hA ?hf ?hk ?hr ?hh ?F ?N ?a ?b ?c ?d ?v ?p1 ?p2 ?p3 ?p4 ?nn ?yy); (case X => assumption); (case B => assumption); (case T => assumption); (case hA => assumption); (case hf => exact rfl); (case hk => exact rfl); (case hr => k_room); (case hh => assumption); (case F => assumption); (case N => with_reducible assumption); (case a => k_mem); (case b => k_mem); (case c => k_mem); (case d => k_mem); (case v => with_reducible assumption); (case p1 => omega); (case p2 => omega); (case p3 => omega); (case p4 => omega); (first | (case nn => exact (fun e => Bool.noConfusion e)) | (case yy => exact (fun e => Bool.noConfusion e)))); first | (intro _ xm' dm' k1' k2' k3' k4' k5' t1' t2' t3' t4' n' h' tk' F' N' hl' hx') | (intro _ h' tk' F' N')))
local macro_rules | `(tactic| walk_at "compareOp NotEq bool bool") => `(tactic| (k_here; (with_reducible show wpAny _ _ (compareOp CmpOp.NotEq (Value.bool _) (Value.bool _)) _ _ _); k_dflt ((refine' ne_bools ?e ?hu ?_); (case e => first | (with_reducible assumption) | exact rfl); (case hu => omega))))
local macro_rules | `(tactic| walk_at "compareOp Eq ref ref") => `(tactic| (k_here; (with_reducible show wpAny _ _ (compareOp CmpOp.Eq (Value.ref _) (Value.ref _)) _ _ _); k_dflt ((refine' eq_empty ?N ?l1 ?p1 ?t1 ?l2 ?hu ?_); (case N => with_reducible assumption); (case l1 => k_mem); (case p1 => with_reducible assumption); (case t1 => exact (fun q hq => (by repeat (first | exact hq | refine List.mem_cons_of_mem _ ?_)))); (case l2 => exact List.mem_cons_self); (case hu => omega))))
local macro_rules | `(tactic| walk_at "compareOp NotEq ref ref") => `(tactic| (k_here; (with_reducible show wpAny _ _ (compareOp CmpOp.NotEq (Value.ref _) (Value.ref _)) _ _ _); k_dflt ((refine' ne_tup4 ?N ?l1 ?l2 ?hu ?e ?_); (case N => with_reducible assumption); (case l1 => k_mem); (case l2 => k_mem); (case hu => omega); (case e => (have := BoxIs.at (by with_reducible assumption) (by with_reducible assumption); omega)))))
set_option maxRecDepth 100000 in
set_option maxHeartbeats 8000000 in
theorem chunk5F {w : World} {A₀ A : Around} {outer : List Env} {base g : Heap} {L : Nat} {m mg mb : Str → Option Value} {mean : ExcName → Option Value} {s : Shared} {E : Value → Shared → Prop} {Q : Flow → Shared → Prop} {r u x1 y1 x2 y2 w1 h1 w2 h2 : Int} {tr tu t1 t2 t3 t4 t5 t6 t7 t8 ta3 ta4 ta5 tb3 tb4 tb5 : Tok} {o1 o2 xa da xb db : Nat} {n1 n2 : Nat} {oR oU oM oY oK : Obj} {ka1 ka2 ka3 ka4 ka5 kb1 kb2 kb3 kb4 kb5 : Tok} {D1 D2 D3 D4 D5 D6 : Nat} {ys1 ys2 ys3 ys4 ys5 ys6 : List Value} {k5 k6 : Nat} {ps6 : List (Int × Int)} {tl : List (Addr × Obj)} :
    (hd.heap_39 w.params).In g → Below A₀ base outer g → Top hd.view_39 (looseW hd.view_39 [Str.ofString "Rectangle"]) mean mg mb g → A.frames = some (pairEnv L :: outer) → A.depth + 120 < recursionLimit → A.handled = none → A.units + 190 < cLine → oR.data = .cell (some (.int r tr)) → oU.data = .cell (some (.int u tu)) →
    0 ≤ x1 → x1 ≤ 3 → 0 ≤ y1 → y1 ≤ 3 → 0 ≤ x2 → x2 ≤ 3 → 0 ≤ y2 → y2 ≤ 3 → 1 ≤ w1 → w1 ≤ 3 → 1 ≤ h1 → h1 ≤ 3 → 1 ≤ w2 → w2 ≤ 3 → 1 ≤ h2 → h2 ≤ 3 → o1 < L → o2 < L → L + 1 + 1 + 1 + 1 + 1 < da → da < xa → xa < db → db < xb → m (Str.ofString "one") = some (.ref o1) → m (Str.ofString "two") = some (.ref o2) → m (Str.ofString "a") = some (.ref xa) → m (Str.ofString "b") = some (.ref xb) → Fr g L s.heap m → News g L s.heap ((D6, listOf ys6.toArray k6) :: (D5, listOf ys5.toArray k5) :: (D4, LCg.lst ys4) :: (D3, LCg.lst ys3) :: (D2, LCg.lst ys2) :: (D1, LCg.lst ys1) :: (xb, instObj 196 db) :: (db, dictOf (rectEs w.params kb1 kb2 kb3 kb4 kb5 (.int w2 t7) (.int h2 t8) (.int (r + x2) tb3) (.int (u + y2) tb4) (.int 8 tb5)) 5) :: (xa, instObj 196 da) :: (da, dictOf (rectEs w.params ka1 ka2 ka3 ka4 ka5 (.int w1 t3) (.int h1 t4) (.int (r + x1) ta3) (.int (u + y1) ta4) (.int 7 ta5)) 5) :: (L + 1 + 1 + 1 + 1 + 1, oK) :: (L + 1 + 1 + 1 + 1, oY) :: (L + 1 + 1 + 1, oM) :: (L + 1 + 1, oU) :: (L + 1, oR) :: (o2, ({ cls := .type "tuple", data := .seq #[.int x2 t5, .int y2 t6, .int w2 t7, .int h2 t8] n2 } : Obj)) :: (o1, ({ cls := .type "tuple", data := .seq #[.int x1 t1, .int y1 t2, .int w1 t3, .int h1 t4] n1 } : Obj)) :: tl) → 
    m (Str.ofString "points") = some (.ref D3) → m (Str.ofString "both") = some (.ref D5) → m (Str.ofString "touch") = some (.ref D6) → oM.data = .cell (some (.ref D1)) → oY.data = .cell (some (.ref D2)) → oK.data = .cell (some (.ref D4)) →
    Paired (TupIn tl) ys6 ps6 → ys6.length ≤ sizeLine →
    touchB (r + x1) (u + y1) w1 h1 (r + x2) (u + y2) w2 h2 = false → true = decide (ps6 = []) → True → True →
    (∀ m' h' tk, News g L h' ((D6, listOf ys6.toArray k6) :: (D5, listOf ys5.toArray k5) :: (D4, LCg.lst ys4) :: (D3, LCg.lst ys3) :: (D2, LCg.lst ys2) :: (D1, LCg.lst ys1) :: (xb, instObj 196 db) :: (db, dictOf (rectEs w.params kb1 kb2 kb3 kb4 kb5 (.int w2 t7) (.int h2 t8) (.int (r + x2) tb3) (.int (u + y2) tb4) (.int 8 tb5)) 5) :: (xa, instObj 196 da) :: (da, dictOf (rectEs w.params ka1 ka2 ka3 ka4 ka5 (.int w1 t3) (.int h1 t4) (.int (r + x1) ta3) (.int (u + y1) ta4) (.int 7 ta5)) 5) :: (L + 1 + 1 + 1 + 1 + 1, oK) :: (L + 1 + 1 + 1 + 1, oY) :: (L + 1 + 1 + 1, oM) :: (L + 1 + 1, oU) :: (L + 1, oR) :: (o2, ({ cls := .type "tuple", data := .seq #[.int x2 t5, .int y2 t6, .int w2 t7, .int h2 t8] n2 } : Obj)) :: (o1, ({ cls := .type "tuple", data := .seq #[.int x1 t1, .int y1 t2, .int w1 t3, .int h1 t4] n1 } : Obj)) :: tl) → Fr g L h' m' →
      m' (Str.ofString "one") = some (.ref o1) → m' (Str.ofString "two") = some (.ref o2) → m' (Str.ofString "a") = some (.ref xa) → m' (Str.ofString "b") = some (.ref xb) → m' (Str.ofString "points") = some (.ref D3) → m' (Str.ofString "both") = some (.ref D5) → m' (Str.ofString "touch") = some (.ref D6) →
      wpAny (model PySem.Challenge.rw_kx0087_01.row.prog w) A (execs (pairBody.drop 13) (pairEnv L)) Q E { s with heap := h', toks := tk }) →
    wpAny (model PySem.Challenge.rw_kx0087_01.row.prog w) A (execs (pairBody.drop 11) (pairEnv L)) Q E s := by
  k_fill
  intro X B T hA hroom hh hu doR doU b1 b2 b3 b4 b5 b6 b7 b8 b9 b10 b11 b12 b13 b14 b15 b16 lo1 lo2 q1 q2 q3 q4 hm1 hm2 hma hmb F N mP mB mT dM dY dK P5 sz5 eM e0 hlen hBox hQ
  dsimp only [pairEnv, pairScope, pairBody, pairDef, nthSt, scopeOf, bodyOf, List.drop, PySem.Challenge.pw_kx0087_01] at *
  refine wpAny_execs_cons ?_
  repeat' (first | (k_unfold; (try dsimp only)) | ((fail_if_success (with_reducible show wpAny _ _ (execs (Stmt.If (Expr.BoolOp _ (Expr.Compare (Expr.Compare (Expr.Name (PySem.Str.ofString "a") _) _ _ _) _ _ _ :: _) _) _ _ _ :: _) _) _ _ _)); first | walk1 | (dsimp only; walk1)))
  all_goals ((with_reducible rename News _ _ _ _ => NN); refine' hQ ?_ ?_ ?_ ?nn ?ff ?e1 ?e2 ?e3 ?e4 ?e5 ?e6 ?e7; (case ff => with_reducible assumption); (case nn => exact (fun p hp => NN p (by repeat (first | with_reducible exact hp | refine List.mem_cons_of_mem _ ?_)))); (case e1 => exact hm1); (case e2 => exact hm2); (case e3 => exact hma); (case e4 => exact hmb); (case e5 => exact mP); (case e6 => exact mB); (case e7 => exact mT))
set_option maxRecDepth 100000 in
set_option maxHeartbeats 8000000 in
theorem chunk5T {w : World} {A₀ A : Around} {outer : List Env} {base g : Heap} {L : Nat} {m mg mb : Str → Option Value} {mean : ExcName → Option Value} {s : Shared} {E : Value → Shared → Prop} {Q : Flow → Shared → Prop} {r u x1 y1 x2 y2 w1 h1 w2 h2 : Int} {tr tu t1 t2 t3 t4 t5 t6 t7 t8 ta3 ta4 ta5 tb3 tb4 tb5 : Tok} {o1 o2 xa da xb db : Nat} {n1 n2 : Nat} {oR oU oM oY oK : Obj} {ka1 ka2 ka3 ka4 ka5 kb1 kb2 kb3 kb4 kb5 : Tok} {D1 D2 D3 D4 D5 D6 : Nat} {ys1 ys2 ys3 ys4 ys5 ys6 : List Value} {k5 k6 : Nat} {ps6 : List (Int × Int)} {tl : List (Addr × Obj)} :
    (hd.heap_39 w.params).In g → Below A₀ base outer g → Top hd.view_39 (looseW hd.view_39 [Str.ofString "Rectangle"]) mean mg mb g → A.frames = some (pairEnv L :: outer) → A.depth + 120 < recursionLimit → A.handled = none → A.units + 190 < cLine → oR.data = .cell (some (.int r tr)) → oU.data = .cell (some (.int u tu)) →
    0 ≤ x1 → x1 ≤ 3 → 0 ≤ y1 → y1 ≤ 3 → 0 ≤ x2 → x2 ≤ 3 → 0 ≤ y2 → y2 ≤ 3 → 1 ≤ w1 → w1 ≤ 3 → 1 ≤ h1 → h1 ≤ 3 → 1 ≤ w2 → w2 ≤ 3 → 1 ≤ h2 → h2 ≤ 3 → o1 < L → o2 < L → L + 1 + 1 + 1 + 1 + 1 < da → da < xa → xa < db → db < xb → m (Str.ofString "one") = some (.ref o1) → m (Str.ofString "two") = some (.ref o2) → m (Str.ofString "a") = some (.ref xa) → m (Str.ofString "b") = some (.ref xb) → Fr g L s.heap m → News g L s.heap ((D6, listOf ys6.toArray k6) :: (D5, listOf ys5.toArray k5) :: (D4, LCg.lst ys4) :: (D3, LCg.lst ys3) :: (D2, LCg.lst ys2) :: (D1, LCg.lst ys1) :: (xb, instObj 196 db) :: (db, dictOf (rectEs w.params kb1 kb2 kb3 kb4 kb5 (.int w2 t7) (.int h2 t8) (.int (r + x2) tb3) (.int (u + y2) tb4) (.int 8 tb5)) 5) :: (xa, instObj 196 da) :: (da, dictOf (rectEs w.params ka1 ka2 ka3 ka4 ka5 (.int w1 t3) (.int h1 t4) (.int (r + x1) ta3) (.int (u + y1) ta4) (.int 7 ta5)) 5) :: (L + 1 + 1 + 1 + 1 + 1, oK) :: (L + 1 + 1 + 1 + 1, oY) :: (L + 1 + 1 + 1, oM) :: (L + 1 + 1, oU) :: (L + 1, oR) :: (o2, ({ cls := .type "tuple", data := .seq #[.int x2 t5, .int y2 t6, .int w2 t7, .int h2 t8] n2 } : Obj)) :: (o1, ({ cls := .type "tuple", data := .seq #[.int x1 t1, .int y1 t2, .int w1 t3, .int h1 t4] n1 } : Obj)) :: tl) → 
    m (Str.ofString "points") = some (.ref D3) → m (Str.ofString "both") = some (.ref D5) → m (Str.ofString "touch") = some (.ref D6) → oM.data = .cell (some (.ref D1)) → oY.data = .cell (some (.ref D2)) → oK.data = .cell (some (.ref D4)) →
    Paired (TupIn tl) ys6 ps6 → ys6.length ≤ sizeLine →
    touchB (r + x1) (u + y1) w1 h1 (r + x2) (u + y2) w2 h2 = true → false = decide (ps6 = []) → 0 < ps6.length → BoxIs ps6 (max (r + x1) (r + x2) - r) (max (u + y1) (u + y2) - u) (min (r + x1 + w1) (r + x2 + w2) - max (r + x1) (r + x2) + 1) (min (u + y1 + h1) (u + y2 + h2) - max (u + y1) (u + y2) + 1) →
    (∀ m' h' tk, News g L h' ((D6, listOf ys6.toArray k6) :: (D5, listOf ys5.toArray k5) :: (D4, LCg.lst ys4) :: (D3, LCg.lst ys3) :: (D2, LCg.lst ys2) :: (D1, LCg.lst ys1) :: (xb, instObj 196 db) :: (db, dictOf (rectEs w.params kb1 kb2 kb3 kb4 kb5 (.int w2 t7) (.int h2 t8) (.int (r + x2) tb3) (.int (u + y2) tb4) (.int 8 tb5)) 5) :: (xa, instObj 196 da) :: (da, dictOf (rectEs w.params ka1 ka2 ka3 ka4 ka5 (.int w1 t3) (.int h1 t4) (.int (r + x1) ta3) (.int (u + y1) ta4) (.int 7 ta5)) 5) :: (L + 1 + 1 + 1 + 1 + 1, oK) :: (L + 1 + 1 + 1 + 1, oY) :: (L + 1 + 1 + 1, oM) :: (L + 1 + 1, oU) :: (L + 1, oR) :: (o2, ({ cls := .type "tuple", data := .seq #[.int x2 t5, .int y2 t6, .int w2 t7, .int h2 t8] n2 } : Obj)) :: (o1, ({ cls := .type "tuple", data := .seq #[.int x1 t1, .int y1 t2, .int w1 t3, .int h1 t4] n1 } : Obj)) :: tl) → Fr g L h' m' →
      m' (Str.ofString "one") = some (.ref o1) → m' (Str.ofString "two") = some (.ref o2) → m' (Str.ofString "a") = some (.ref xa) → m' (Str.ofString "b") = some (.ref xb) → m' (Str.ofString "points") = some (.ref D3) → m' (Str.ofString "both") = some (.ref D5) → m' (Str.ofString "touch") = some (.ref D6) →
      wpAny (model PySem.Challenge.rw_kx0087_01.row.prog w) A (execs (pairBody.drop 13) (pairEnv L)) Q E { s with heap := h', toks := tk }) →
    wpAny (model PySem.Challenge.rw_kx0087_01.row.prog w) A (execs (pairBody.drop 11) (pairEnv L)) Q E s := by
  k_fill
  intro X B T hA hroom hh hu doR doU b1 b2 b3 b4 b5 b6 b7 b8 b9 b10 b11 b12 b13 b14 b15 b16 lo1 lo2 q1 q2 q3 q4 hm1 hm2 hma hmb F N mP mB mT dM dY dK P5 sz5 eM e0 hlen hBox hQ
  dsimp only [pairEnv, pairScope, pairBody, pairDef, nthSt, scopeOf, bodyOf, List.drop, PySem.Challenge.pw_kx0087_01] at *
  refine wpAny_execs_cons ?_
  repeat' (first | (k_unfold; (try dsimp only)) | ((fail_if_success (with_reducible show wpAny _ _ (execs (Stmt.If (Expr.BoolOp _ (Expr.Compare (Expr.Compare (Expr.Name (PySem.Str.ofString "a") _) _ _ _) _ _ _ :: _) _) _ _ _ :: _) _) _ _ _)); first | walk1 | (dsimp only; walk1)))
  all_goals ((with_reducible rename News _ _ _ _ => NN); refine' hQ ?_ ?_ ?_ ?nn ?ff ?e1 ?e2 ?e3 ?e4 ?e5 ?e6 ?e7; (case ff => with_reducible assumption); (case nn => exact (fun p hp => NN p (by repeat (first | with_reducible exact hp | refine List.mem_cons_of_mem _ ?_)))); (case e1 => exact hm1); (case e2 => exact hm2); (case e3 => exact hma); (case e4 => exact hmb); (case e5 => exact mP); (case e6 => exact mB); (case e7 => exact mT))
theorem chunk5 {w : World} {A₀ A : Around} {outer : List Env} {base g : Heap} {L : Nat} {m mg mb : Str → Option Value} {mean : ExcName → Option Value} {s : Shared} {E : Value → Shared → Prop} {Q : Flow → Shared → Prop} {r u x1 y1 x2 y2 w1 h1 w2 h2 : Int} {tr tu t1 t2 t3 t4 t5 t6 t7 t8 ta3 ta4 ta5 tb3 tb4 tb5 : Tok} {o1 o2 xa da xb db : Nat} {n1 n2 : Nat} {oR oU oM oY oK : Obj} {ka1 ka2 ka3 ka4 ka5 kb1 kb2 kb3 kb4 kb5 : Tok} {D1 D2 D3 D4 D5 D6 : Nat} {ys1 ys2 ys3 ys4 ys5 ys6 : List Value} {k5 k6 : Nat} {ps6 : List (Int × Int)} {tl : List (Addr × Obj)} :
    (hd.heap_39 w.params).In g → Below A₀ base outer g → Top hd.view_39 (looseW hd.view_39 [Str.ofString "Rectangle"]) mean mg mb g → A.frames = some (pairEnv L :: outer) → A.depth + 120 < recursionLimit → A.handled = none → A.units + 190 < cLine → oR.data = .cell (some (.int r tr)) → oU.data = .cell (some (.int u tu)) →
    0 ≤ x1 → x1 ≤ 3 → 0 ≤ y1 → y1 ≤ 3 → 0 ≤ x2 → x2 ≤ 3 → 0 ≤ y2 → y2 ≤ 3 → 1 ≤ w1 → w1 ≤ 3 → 1 ≤ h1 → h1 ≤ 3 → 1 ≤ w2 → w2 ≤ 3 → 1 ≤ h2 → h2 ≤ 3 → o1 < L → o2 < L → L + 1 + 1 + 1 + 1 + 1 < da → da < xa → xa < db → db < xb → m (Str.ofString "one") = some (.ref o1) → m (Str.ofString "two") = some (.ref o2) → m (Str.ofString "a") = some (.ref xa) → m (Str.ofString "b") = some (.ref xb) → Fr g L s.heap m → News g L s.heap ((D6, listOf ys6.toArray k6) :: (D5, listOf ys5.toArray k5) :: (D4, LCg.lst ys4) :: (D3, LCg.lst ys3) :: (D2, LCg.lst ys2) :: (D1, LCg.lst ys1) :: (xb, instObj 196 db) :: (db, dictOf (rectEs w.params kb1 kb2 kb3 kb4 kb5 (.int w2 t7) (.int h2 t8) (.int (r + x2) tb3) (.int (u + y2) tb4) (.int 8 tb5)) 5) :: (xa, instObj 196 da) :: (da, dictOf (rectEs w.params ka1 ka2 ka3 ka4 ka5 (.int w1 t3) (.int h1 t4) (.int (r + x1) ta3) (.int (u + y1) ta4) (.int 7 ta5)) 5) :: (L + 1 + 1 + 1 + 1 + 1, oK) :: (L + 1 + 1 + 1 + 1, oY) :: (L + 1 + 1 + 1, oM) :: (L + 1 + 1, oU) :: (L + 1, oR) :: (o2, ({ cls := .type "tuple", data := .seq #[.int x2 t5, .int y2 t6, .int w2 t7, .int h2 t8] n2 } : Obj)) :: (o1, ({ cls := .type "tuple", data := .seq #[.int x1 t1, .int y1 t2, .int w1 t3, .int h1 t4] n1 } : Obj)) :: tl) → 
    m (Str.ofString "points") = some (.ref D3) → m (Str.ofString "both") = some (.ref D5) → m (Str.ofString "touch") = some (.ref D6) → oM.data = .cell (some (.ref D1)) → oY.data = .cell (some (.ref D2)) → oK.data = .cell (some (.ref D4)) →
    Paired (TupIn tl) ys6 ps6 → ys6.length ≤ sizeLine →
    touchB (r + x1) (u + y1) w1 h1 (r + x2) (u + y2) w2 h2 = !decide (ps6 = []) → BoxIs ps6 (max (r + x1) (r + x2) - r) (max (u + y1) (u + y2) - u) (min (r + x1 + w1) (r + x2 + w2) - max (r + x1) (r + x2) + 1) (min (u + y1 + h1) (u + y2 + h2) - max (u + y1) (u + y2) + 1) →
    (∀ m' h' tk, News g L h' ((D6, listOf ys6.toArray k6) :: (D5, listOf ys5.toArray k5) :: (D4, LCg.lst ys4) :: (D3, LCg.lst ys3) :: (D2, LCg.lst ys2) :: (D1, LCg.lst ys1) :: (xb, instObj 196 db) :: (db, dictOf (rectEs w.params kb1 kb2 kb3 kb4 kb5 (.int w2 t7) (.int h2 t8) (.int (r + x2) tb3) (.int (u + y2) tb4) (.int 8 tb5)) 5) :: (xa, instObj 196 da) :: (da, dictOf (rectEs w.params ka1 ka2 ka3 ka4 ka5 (.int w1 t3) (.int h1 t4) (.int (r + x1) ta3) (.int (u + y1) ta4) (.int 7 ta5)) 5) :: (L + 1 + 1 + 1 + 1 + 1, oK) :: (L + 1 + 1 + 1 + 1, oY) :: (L + 1 + 1 + 1, oM) :: (L + 1 + 1, oU) :: (L + 1, oR) :: (o2, ({ cls := .type "tuple", data := .seq #[.int x2 t5, .int y2 t6, .int w2 t7, .int h2 t8] n2 } : Obj)) :: (o1, ({ cls := .type "tuple", data := .seq #[.int x1 t1, .int y1 t2, .int w1 t3, .int h1 t4] n1 } : Obj)) :: tl) → Fr g L h' m' →
      m' (Str.ofString "one") = some (.ref o1) → m' (Str.ofString "two") = some (.ref o2) → m' (Str.ofString "a") = some (.ref xa) → m' (Str.ofString "b") = some (.ref xb) → m' (Str.ofString "points") = some (.ref D3) → m' (Str.ofString "both") = some (.ref D5) → m' (Str.ofString "touch") = some (.ref D6) →
      wpAny (model PySem.Challenge.rw_kx0087_01.row.prog w) A (execs (pairBody.drop 13) (pairEnv L)) Q E { s with heap := h', toks := tk }) →
    wpAny (model PySem.Challenge.rw_kx0087_01.row.prog w) A (execs (pairBody.drop 11) (pairEnv L)) Q E s := by
  intro X B T hA hroom hh hu doR doU b1 b2 b3 b4 b5 b6 b7 b8 b9 b10 b11 b12 b13 b14 b15 b16 lo1 lo2 q1 q2 q3 q4 hm1 hm2 hma hmb F N mP mB mT dM dY dK P5 sz5 eM hBox hQ
  by_cases hps : ps6 = []
  · exact chunk5F X B T hA hroom hh hu doR doU b1 b2 b3 b4 b5 b6 b7 b8 b9 b10 b11 b12 b13 b14 b15 b16 lo1 lo2 q1 q2 q3 q4 hm1 hm2 hma hmb F N mP mB mT dM dY dK P5 sz5 (by rw [eM]; simp [hps]) (by simp [hps]) trivial trivial hQ
  · exact chunk5T X B T hA hroom hh hu doR doU b1 b2 b3 b4 b5 b6 b7 b8 b9 b10 b11 b12 b13 b14 b15 b16 lo1 lo2 q1 q2 q3 q4 hm1 hm2 hma hmb F N mP mB mT dM dY dK P5 sz5 (by rw [eM]; simp [hps]) (by simp [hps]) (List.length_pos_iff.mpr hps) hBox hQ
end
section
theorem mul_small {prog : Program} {w : World} {A : Around} {E : Value → Shared → Prop} {s : Shared} {Q : Value → Shared → Prop} {a b : Int} {t u : Tok} (h1 : -1000000 ≤ a) (h2 : a ≤ 1000000) (h : ∀ t tk, Q (.int (a * b) t) { s with toks := tk }) : wpAny (model prog w) A (binaryOp .Mult (.int a t) (.int b u)) Q E s :=
  mul_int (h _ _) (PySem.IntMulOk.of_left (PySem.intBits_le_64 (by omega) (by omega)))
local macro_rules | `(tactic| walk_at "binaryOp Mult int int") => `(tactic| (k_here; k_dflt ((refine' mul_small ?a ?b ?_); (case a => omega); (case b => omega)); intro t' tk'))
set_option maxRecDepth 100000 in
set_option maxHeartbeats 8000000 in
theorem eq_call {w : World} {A₀ A : Around} {env : Env} {outer : List Env} {base h₀ : Heap} {L : Addr} {m mg mb : Str → Option Value} {mean : ExcName → Option Value} {news : List (Addr × Obj)} {s : Shared} {E : Value → Shared → Prop} {Q : Value → Shared → Prop} {xa da : Addr} {ka1 ka2 ka3 ka4 ka5 : Tok} {wa ha x1 y1 : Int} {ra : Value} {ta1 ta2 ta3 ta4 : Tok} {na : Nat} {xb db : Addr} {kb1 kb2 kb3 kb4 kb5 : Tok} {wb hb x2 y2 : Int} {rb : Value} {tb1 tb2 tb3 tb4 : Tok} {nb : Nat} :
    (hd.heap_39 w.params).In h₀ → Below A₀ base outer h₀ → Top hd.view_39 (looseW hd.view_39 [Str.ofString "Rectangle"]) mean mg mb h₀ → A.frames = some (env :: outer) → env.frame = some L → env.scope.kind = .function → A.depth + 20 < recursionLimit → A.handled = none →
    Fr h₀ L s.heap m → News h₀ L s.heap news →
    (xa, instObj 196 da) ∈ news → (da, dictOf (rectEs w.params ka1 ka2 ka3 ka4 ka5 (.int wa ta1) (.int ha ta2) (.int x1 ta3) (.int y1 ta4) ra) na) ∈ news → (xb, instObj 196 db) ∈ news → (db, dictOf (rectEs w.params kb1 kb2 kb3 kb4 kb5 (.int wb tb1) (.int hb tb2) (.int x2 tb3) (.int y2 tb4) rb) nb) ∈ news →
    (∀ h' tk, Fr h₀ L h' m → News h₀ L h' news → Q (.bool (decide (wa = wb ∧ ha = hb ∧ x1 = x2 ∧ y1 = y2))) { s with heap := h', toks := tk }) →
    wpAny (model PySem.Challenge.rw_kx0087_01.row.prog w) A (PySem.call (.ref 142) [.ref xa, .ref xb]) Q E s := by
  k_fill
  intro X B T hA hf hk hroom hh F N hxa hda hxb hdb h
  replace h : ∀ r' h' tk, r' = decide (wa = wb ∧ ha = hb ∧ x1 = x2 ∧ y1 = y2) → Fr h₀ L h' m → News h₀ L h' news → Q (.bool r') { s with heap := h', toks := tk } := fun r' h' tk e => by subst e; exact h h' tk
  k_steps
  all_goals (refine h _ _ _ ?_ (by assumption) (by assumption); first | (apply decide_eq_decide.mpr; omega) | (symm; apply decide_eq_true; omega) | (symm; apply decide_eq_false; omega))
set_option maxRecDepth 100000 in
set_option maxHeartbeats 8000000 in
theorem area_call {w : World} {A₀ A : Around} {env : Env} {outer : List Env} {base h₀ : Heap} {L : Addr} {m mg mb : Str → Option Value} {mean : ExcName → Option Value} {news : List (Addr × Obj)} {s : Shared} {E : Value → Shared → Prop} {Q : Value → Shared → Prop} {xa da : Addr} {ka1 ka2 ka3 ka4 ka5 : Tok} {wa ha x1 y1 : Int} {ra : Value} {ta1 ta2 ta3 ta4 : Tok} {na : Nat} :
    (hd.heap_39 w.params).In h₀ → Below A₀ base outer h₀ → Top hd.view_39 (looseW hd.view_39 [Str.ofString "Rectangle"]) mean mg mb h₀ → A.frames = some (env :: outer) → env.frame = some L → env.scope.kind = .function → A.depth + 20 < recursionLimit → A.handled = none →
    Fr h₀ L s.heap m → News h₀ L s.heap news →
    (xa, instObj 196 da) ∈ news → (da, dictOf (rectEs w.params ka1 ka2 ka3 ka4 ka5 (.int wa ta1) (.int ha ta2) (.int x1 ta3) (.int y1 ta4) ra) na) ∈ news → -1000000 ≤ wa → wa ≤ 1000000 →
    (∀ t h' tk, Fr h₀ L h' m → News h₀ L h' news → Q (.int (wa * ha) t) { s with heap := h', toks := tk }) →
    wpAny (model PySem.Challenge.rw_kx0087_01.row.prog w) A (PySem.call (.ref 156) [.ref xa]) Q E s := by
  k_fill
  intro X B T hA hf hk hroom hh F N hxa hda z1 z2 h
  k_steps
  exact h _ _ _ (by assumption) (by assumption)
set_option maxRecDepth 100000 in
set_option maxHeartbeats 8000000 in
theorem lt_call {w : World} {A₀ A : Around} {env : Env} {outer : List Env} {base h₀ : Heap} {L : Addr} {m mg mb : Str → Option Value} {mean : ExcName → Option Value} {news : List (Addr × Obj)} {s : Shared} {E : Value → Shared → Prop} {Q : Value → Shared → Prop} {xa da : Addr} {ka1 ka2 ka3 ka4 ka5 : Tok} {wa ha x1 y1 : Int} {ra : Value} {ta1 ta2 ta3 ta4 : Tok} {na : Nat} {xb db : Addr} {kb1 kb2 kb3 kb4 kb5 : Tok} {wb hb x2 y2 : Int} {rb : Value} {tb1 tb2 tb3 tb4 : Tok} {nb : Nat} :
    (hd.heap_39 w.params).In h₀ → Below A₀ base outer h₀ → Top hd.view_39 (looseW hd.view_39 [Str.ofString "Rectangle"]) mean mg mb h₀ → A.frames = some (env :: outer) → env.frame = some L → env.scope.kind = .function → A.depth + 20 < recursionLimit → A.handled = none →
    Fr h₀ L s.heap m → News h₀ L s.heap news →
    (xa, instObj 196 da) ∈ news → (da, dictOf (rectEs w.params ka1 ka2 ka3 ka4 ka5 (.int wa ta1) (.int ha ta2) (.int x1 ta3) (.int y1 ta4) ra) na) ∈ news → (xb, instObj 196 db) ∈ news → (db, dictOf (rectEs w.params kb1 kb2 kb3 kb4 kb5 (.int wb tb1) (.int hb tb2) (.int x2 tb3) (.int y2 tb4) rb) nb) ∈ news → -1000000 ≤ wa → wa ≤ 1000000 → -1000000 ≤ wb → wb ≤ 1000000 →
    (∀ h' tk, Fr h₀ L h' m → News h₀ L h' news → Q (.bool (decide (wa * ha < wb * hb))) { s with heap := h', toks := tk }) →
    wpAny (model PySem.Challenge.rw_kx0087_01.row.prog w) A (PySem.call (.ref 135) [.ref xa, .ref xb]) Q E s := by
  k_fill
  intro X B T hA hf hk hroom hh F N hxa hda hxb hdb z1 z2 z3 z4 h
  k_steps
  all_goals exact h _ _ (by assumption) (by assumption)
end
section
section
variable {prog : Program} {w : World} {A : Around} {E : Value → Shared → Prop} {s : Shared} {Q : Value → Shared → Prop} {h₀ : Heap} {L : Addr} {news tl : List (Addr × Obj)} {l l' : Addr} {vs vs' : List Value} {n n' : Nat} {ps ps' : List (Int × Int)} {a b : Int} {t u : Tok}
theorem eq_lists (N : News h₀ L s.heap news) (hl : (l, ({ cls := .type "list", data := .seq vs.toArray n } : Obj)) ∈ news) (hp : Paired (TupIn tl) vs ps) (hl' : (l', ({ cls := .type "list", data := .seq vs'.toArray n' } : Obj)) ∈ news) (hp' : Paired (TupIn tl) vs' ps') (htl : ∀ p ∈ tl, p ∈ news) (hu : A.units + 64 < cLine)
    (h : Q (.bool (decide (ps = ps'))) s) : wpAny (model prog w) A (compareOp .Eq (.ref l) (.ref l')) Q E s :=
  eq_pairs (tl := tl) (fun q hq => (N q (htl q hq)).1) (N _ hl).1 hp (N _ hl').1 hp' hu h
theorem ne_ints (e : a = b) (h : Q (.bool false) s) : wpAny (model prog w) A (compareOp .NotEq (.int a t) (.int b u)) Q E s := by
  subst e
  exact ne_int (by simpa using h)
theorem lt_ints (h : Q (.bool (decide (a < b))) s) : wpAny (model prog w) A (compareOp .Lt (.int a t) (.int b u)) Q E s := lt_int h
end
local macro_rules | `(tactic| walk_at "call ref") => `(tactic| (k_here; (with_reducible show wpAny _ _ (PySem.call (Value.ref 142) _ _) _ _ _); k_dflt ((refine' eq_call ?X ?B ?T ?hA ?hf ?hk ?hr ?hh ?F ?N ?a ?b ?c ?d ?_); (case X => assumption); (case B => assumption); (case T => assumption); (case hA => assumption); (case hf => exact rfl); (case hk => exact rfl); (case hr => k_room); (case hh => assumption); (case F => with_reducible assumption); (case N => with_reducible assumption); (case a => k_mem); (case b => k_mem); (case c => k_mem); (case d => k_mem); intro h' tk' F' N'; (try dsimp only [PySem.W.CmpBack]))))
local macro_rules | `(tactic| walk_at "call ref") => `(tactic| (k_here; (with_reducible show wpAny _ _ (PySem.call (Value.ref 135) _ _) _ _ _); k_dflt ((refine' lt_call ?X ?B ?T ?hA ?hf ?hk ?hr ?hh ?F ?N ?a ?b ?c ?d ?z1 ?z2 ?z3 ?z4 ?_); (case X => assumption); (case B => assumption); (case T => assumption); (case hA => assumption); (case hf => exact rfl); (case hk => exact rfl); (case hr => k_room); (case hh => assumption); (case F => with_reducible assumption); (case N => with_reducible assumption); (case a => k_mem); (case b => k_mem); (case c => k_mem); (case d => k_mem); (case z1 => omega); (case z2 => omega); (case z3 => omega); (case z4 => omega); intro h' tk' F' N'; (try dsimp only [PySem.W.CmpBack]))))
local macro_rules | `(tactic| walk_at "call ref") => `(tactic| (k_here; (with_reducible show wpAny _ _ (PySem.call (Value.ref 156) _ _) _ _ _); k_dflt ((refine' area_call ?X ?B ?T ?hA ?hf ?hk ?hr ?hh ?F ?N ?a ?b ?z1 ?z2 ?_); (case X => assumption); (case B => assumption); (case T => assumption); (case hA => assumption); (case hf => exact rfl); (case hk => exact rfl); (case hr => k_room); (case hh => assumption); (case F => with_reducible assumption); (case N => with_reducible assumption); (case a => k_mem); (case b => k_mem); (case z1 => omega); (case z2 => omega); intro t' h' tk' F' N')))
local macro_rules | `(tactic| walk_at "call builtin:len") => `(tactic| (k_here; (with_reducible show wpAny _ _ (PySem.call (Value.builtin _) [Value.ref _]) _ _ _); k_dflt ((refine' call_len ?N ?hl ?hs ?_); (case N => assumption); (case hl => k_mem); (case hs => assumption)); intro t' tk'))
local macro_rules | `(tactic| walk_at "compareOp NotEq bool bool") => `(tactic| (k_here; (with_reducible show wpAny _ _ (compareOp CmpOp.NotEq (Value.bool _) (Value.bool _)) _ _ _); k_dflt ((refine' ne_bools ?e ?hu ?_); (case e => first | (with_reducible assumption) | exact rfl); (case hu => omega))))
local macro_rules | `(tactic| walk_at "compareOp Eq ref ref") => `(tactic| (k_here; (with_reducible show wpAny _ _ (compareOp CmpOp.Eq (Value.ref _) (Value.ref _)) _ _ _); k_dflt ((refine' eq_lists ?N ?l1 ?p1 ?l2 ?p2 ?t1 ?hu ?_); (case N => with_reducible assumption); (case l1 => k_mem); (case p1 => with_reducible assumption); (case l2 => k_mem); (case p2 => with_reducible assumption); (case t1 => exact (fun q hq => (by repeat (first | with_reducible exact hq | refine List.mem_cons_of_mem _ ?_)))); (case hu => omega))))
local macro_rules | `(tactic| walk_at "compareOp NotEq int int") => `(tactic| (k_here; k_dflt ((refine' ne_ints ?e ?_); (case e => with_reducible assumption))))
local macro_rules | `(tactic| walk_at "compareOp Lt int int") => `(tactic| (k_here; k_dflt (refine lt_ints ?_)))
local macro_rules | `(tactic| k_units) => `(tactic| omega)
set_option maxRecDepth 100000 in
set_option maxHeartbeats 8000000 in
theorem chunk6 {w : World} {A₀ A : Around} {outer : List Env} {base g : Heap} {L : Nat} {m mg mb : Str → Option Value} {mean : ExcName → Option Value} {s : Shared} {E : Value → Shared → Prop} {Q : Flow → Shared → Prop} {r u x1 y1 x2 y2 w1 h1 w2 h2 : Int} {tr tu t1 t2 t3 t4 t5 t6 t7 t8 ta3 ta4 ta5 tb3 tb4 tb5 : Tok} {o1 o2 xa da xb db : Nat} {n1 n2 : Nat} {oR oU oM oY oK : Obj} {ka1 ka2 ka3 ka4 ka5 kb1 kb2 kb3 kb4 kb5 : Tok} {D1 D2 D3 D4 D5 D6 : Nat} {ys1 ys2 ys3 ys4 ys5 ys6 : List Value} {k5 k6 : Nat} {ps1 ps2 : List (Int × Int)} {tl : List (Addr × Obj)} :
    (hd.heap_39 w.params).In g → Below A₀ base outer g → Top hd.view_39 (looseW hd.view_39 [Str.ofString "Rectangle"]) mean mg mb g → A.frames = some (pairEnv L :: outer) → A.depth + 120 < recursionLimit → A.handled = none → A.units + 190 < cLine → oR.data = .cell (some (.int r tr)) → oU.data = .cell (some (.int u tu)) →
    0 ≤ x1 → x1 ≤ 3 → 0 ≤ y1 → y1 ≤ 3 → 0 ≤ x2 → x2 ≤ 3 → 0 ≤ y2 → y2 ≤ 3 → 1 ≤ w1 → w1 ≤ 3 → 1 ≤ h1 → h1 ≤ 3 → 1 ≤ w2 → w2 ≤ 3 → 1 ≤ h2 → h2 ≤ 3 → o1 < L → o2 < L → L + 1 + 1 + 1 + 1 + 1 < da → da < xa → xa < db → db < xb → m (Str.ofString "one") = some (.ref o1) → m (Str.ofString "two") = some (.ref o2) → m (Str.ofString "a") = some (.ref xa) → m (Str.ofString "b") = some (.ref xb) → Fr g L s.heap m → News g L s.heap ((D6, listOf ys6.toArray k6) :: (D5, listOf ys5.toArray k5) :: (D4, LCg.lst ys4) :: (D3, LCg.lst ys3) :: (D2, LCg.lst ys2) :: (D1, LCg.lst ys1) :: (xb, instObj 196 db) :: (db, dictOf (rectEs w.params kb1 kb2 kb3 kb4 kb5 (.int w2 t7) (.int h2 t8) (.int (r + x2) tb3) (.int (u + y2) tb4) (.int 8 tb5)) 5) :: (xa, instObj 196 da) :: (da, dictOf (rectEs w.params ka1 ka2 ka3 ka4 ka5 (.int w1 t3) (.int h1 t4) (.int (r + x1) ta3) (.int (u + y1) ta4) (.int 7 ta5)) 5) :: (L + 1 + 1 + 1 + 1 + 1, oK) :: (L + 1 + 1 + 1 + 1, oY) :: (L + 1 + 1 + 1, oM) :: (L + 1 + 1, oU) :: (L + 1, oR) :: (o2, ({ cls := .type "tuple", data := .seq #[.int x2 t5, .int y2 t6, .int w2 t7, .int h2 t8] n2 } : Obj)) :: (o1, ({ cls := .type "tuple", data := .seq #[.int x1 t1, .int y1 t2, .int w1 t3, .int h1 t4] n1 } : Obj)) :: tl) → 
    oM.data = .cell (some (.ref D1)) → oY.data = .cell (some (.ref D2)) → Paired (TupIn tl) ys1 ps1 → Paired (TupIn tl) ys2 ps2 → ys1.length ≤ sizeLine → ys2.length ≤ sizeLine →
    decide (w1 = w2 ∧ h1 = h2 ∧ r + x1 = r + x2 ∧ u + y1 = u + y2) = decide (ps1 = ps2) → decide (w1 * h1 < w2 * h2) = decide ((ys1.length : Int) < (ys2.length : Int)) → w1 * h1 = (ys1.length : Int) →
    (∀ h' tk, News g L h' ((D6, listOf ys6.toArray k6) :: (D5, listOf ys5.toArray k5) :: (D4, LCg.lst ys4) :: (D3, LCg.lst ys3) :: (D2, LCg.lst ys2) :: (D1, LCg.lst ys1) :: (xb, instObj 196 db) :: (db, dictOf (rectEs w.params kb1 kb2 kb3 kb4 kb5 (.int w2 t7) (.int h2 t8) (.int (r + x2) tb3) (.int (u + y2) tb4) (.int 8 tb5)) 5) :: (xa, instObj 196 da) :: (da, dictOf (rectEs w.params ka1 ka2 ka3 ka4 ka5 (.int w1 t3) (.int h1 t4) (.int (r + x1) ta3) (.int (u + y1) ta4) (.int 7 ta5)) 5) :: (L + 1 + 1 + 1 + 1 + 1, oK) :: (L + 1 + 1 + 1 + 1, oY) :: (L + 1 + 1 + 1, oM) :: (L + 1 + 1, oU) :: (L + 1, oR) :: (o2, ({ cls := .type "tuple", data := .seq #[.int x2 t5, .int y2 t6, .int w2 t7, .int h2 t8] n2 } : Obj)) :: (o1, ({ cls := .type "tuple", data := .seq #[.int x1 t1, .int y1 t2, .int w1 t3, .int h1 t4] n1 } : Obj)) :: tl) → Fr g L h' m → wpAny (model PySem.Challenge.rw_kx0087_01.row.prog w) A (execs (pairBody.drop 14) (pairEnv L)) Q E { s with heap := h', toks := tk }) →
    wpAny (model PySem.Challenge.rw_kx0087_01.row.prog w) A (execs (pairBody.drop 13) (pairEnv L)) Q E s := by
  k_fill
  intro X B T hA hroom hh hu doR doU b1 b2 b3 b4 b5 b6 b7 b8 b9 b10 b11 b12 b13 b14 b15 b16 lo1 lo2 q1 q2 q3 q4 hm1 hm2 hma hmb F N dM dY P1 P2 sz1 sz2 e1 e2 e3 hQ
  dsimp only [pairEnv, pairScope, pairBody, pairDef, nthSt, scopeOf, bodyOf, List.drop, PySem.Challenge.pw_kx0087_01] at *
  repeat' (first | (k_unfold; (try dsimp only)) | ((fail_if_success (with_reducible show wpAny _ _ (execs (Stmt.Assign [Expr.Name (PySem.Str.ofString "far") _] _ _ :: _) _) _ _ _)); first | walk1 | (dsimp only; walk1)))
  all_goals exact hQ _ _ (by with_reducible assumption) (by with_reducible assumption)
end
section
local macro_rules | `(tactic| walk_at "subscriptTail Name UnaryOp ref int") => `(tactic| (k_here; k_dflt ((refine' kde_neg ?l ?a ?b ?c ?d ?_); (case l => exact ⟨_, (News.get (by k_asm) (by k_mem)), rfl, _, rfl⟩); (case a => decide); (case b => decide); (case c => assumption); (case d => assumption))))
theorem seq_last {n : Nat} (h : 0 < n) : seqIndex? (-1) n = some (n - 1) := by
  unfold seqIndex?
  have : (0 : Int) ≤ -1 + (n : Int) := by omega
  simp [this]
  omega
theorem news_dup {h₀ h : Heap} {L : Addr} {a : Addr × Obj} {news : List (Addr × Obj)} (N : News h₀ L h news) (ha : a ∈ news) : News h₀ L h (a :: news) := fun p hp => by
  rcases List.mem_cons.mp hp with rfl | hp
  · exact N _ ha
  · exact N _ hp
theorem corners_val {r u x1 y1 w1 h1 : Int} : (List.range 4).map (itemAt (r + x1) (u + y1) w1 h1 r u) = [(x1, y1 + h1), (x1 + w1, y1 + h1), (x1 + w1, y1), (x1, y1)] := by
  show [itemAt (r + x1) (u + y1) w1 h1 r u 0, itemAt (r + x1) (u + y1) w1 h1 r u 1, itemAt (r + x1) (u + y1) w1 h1 r u 2, itemAt (r + x1) (u + y1) w1 h1 r u 3] = _
  have e0 : itemAt (r + x1) (u + y1) w1 h1 r u 0 = (x1, y1 + h1) := Prod.ext (show r + x1 - r = x1 by omega) (show u + y1 + h1 - u = y1 + h1 by omega)
  have e1 : itemAt (r + x1) (u + y1) w1 h1 r u 1 = (x1 + w1, y1 + h1) := Prod.ext (show r + x1 + w1 - r = x1 + w1 by omega) (show u + y1 + h1 - u = y1 + h1 by omega)
  have e2 : itemAt (r + x1) (u + y1) w1 h1 r u 2 = (x1 + w1, y1) := Prod.ext (show r + x1 + w1 - r = x1 + w1 by omega) (show u + y1 - u = y1 by omega)
  have e3 : itemAt (r + x1) (u + y1) w1 h1 r u 3 = (x1, y1) := Prod.ext (show r + x1 - r = x1 by omega) (show u + y1 - u = y1 by omega)
  rw [e0, e1, e2, e3]
set_option maxRecDepth 100000 in
set_option maxHeartbeats 8000000 in
theorem chunk7 {w : World} {A₀ A : Around} {outer : List Env} {base g : Heap} {L : Nat} {m mg mb : Str → Option Value} {mean : ExcName → Option Value} {s : Shared} {E : Value → Shared → Prop} {Q : Flow → Shared → Prop} {r u x1 y1 x2 y2 w1 h1 w2 h2 : Int} {tr tu t1 t2 t3 t4 t5 t6 t7 t8 ta3 ta4 ta5 tb3 tb4 tb5 : Tok} {o1 o2 xa da xb db : Nat} {n1 n2 : Nat} {oR oU oM oY oK : Obj} {ka1 ka2 ka3 ka4 ka5 kb1 kb2 kb3 kb4 kb5 : Tok} {D1 D2 D3 D4 D5 D6 f : Nat} {ys1 ys2 ys3 ys4 ys5 ys6 : List Value} {k5 k6 : Nat} {tf1 tf2 : Tok} {tl : List (Addr × Obj)} :
    (hd.heap_39 w.params).In g → Below A₀ base outer g → Top hd.view_39 (looseW hd.view_39 [Str.ofString "Rectangle"]) mean mg mb g → A.frames = some (pairEnv L :: outer) → A.depth + 120 < recursionLimit → A.handled = none → A.units + 190 < cLine → oR.data = .cell (some (.int r tr)) → oU.data = .cell (some (.int u tu)) →
    0 ≤ x1 → x1 ≤ 3 → 0 ≤ y1 → y1 ≤ 3 → 0 ≤ x2 → x2 ≤ 3 → 0 ≤ y2 → y2 ≤ 3 → 1 ≤ w1 → w1 ≤ 3 → 1 ≤ h1 → h1 ≤ 3 → 1 ≤ w2 → w2 ≤ 3 → 1 ≤ h2 → h2 ≤ 3 → o1 < L → o2 < L → L + 1 + 1 + 1 + 1 + 1 < da → da < xa → xa < db → db < xb → m (Str.ofString "one") = some (.ref o1) → m (Str.ofString "two") = some (.ref o2) → m (Str.ofString "a") = some (.ref xa) → m (Str.ofString "b") = some (.ref xb) → Fr g L s.heap m → News g L s.heap ((D6, listOf ys6.toArray k6) :: (D5, listOf ys5.toArray k5) :: (D4, LCg.lst ys4) :: (D3, LCg.lst ys3) :: (D2, LCg.lst ys2) :: (D1, LCg.lst ys1) :: (xb, instObj 196 db) :: (db, dictOf (rectEs w.params kb1 kb2 kb3 kb4 kb5 (.int w2 t7) (.int h2 t8) (.int (r + x2) tb3) (.int (u + y2) tb4) (.int 8 tb5)) 5) :: (xa, instObj 196 da) :: (da, dictOf (rectEs w.params ka1 ka2 ka3 ka4 ka5 (.int w1 t3) (.int h1 t4) (.int (r + x1) ta3) (.int (u + y1) ta4) (.int 7 ta5)) 5) :: (L + 1 + 1 + 1 + 1 + 1, oK) :: (L + 1 + 1 + 1 + 1, oY) :: (L + 1 + 1 + 1, oM) :: (L + 1 + 1, oU) :: (L + 1, oR) :: (o2, ({ cls := .type "tuple", data := .seq #[.int x2 t5, .int y2 t6, .int w2 t7, .int h2 t8] n2 } : Obj)) :: (o1, ({ cls := .type "tuple", data := .seq #[.int x1 t1, .int y1 t2, .int w1 t3, .int h1 t4] n1 } : Obj)) :: tl) → 
    m (Str.ofString "points") = some (.ref D3) → seqIndex? (-1) ys3.length = some (ys3.length - 1) → ys3[ys3.length - 1]? = some (.ref f) → (f, tupO (x1 + w1) tf1 (y1 + h1) tf2) ∈ tl →
    (∀ (D7 : Nat) ys7 tl7 m' h' tk, News g L h' ((D7, LCg.lst ys7) :: (tl7 ++ ((D6, listOf ys6.toArray k6) :: (D5, listOf ys5.toArray k5) :: (D4, LCg.lst ys4) :: (D3, LCg.lst ys3) :: (D2, LCg.lst ys2) :: (D1, LCg.lst ys1) :: (xb, instObj 196 db) :: (db, dictOf (rectEs w.params kb1 kb2 kb3 kb4 kb5 (.int w2 t7) (.int h2 t8) (.int (r + x2) tb3) (.int (u + y2) tb4) (.int 8 tb5)) 5) :: (xa, instObj 196 da) :: (da, dictOf (rectEs w.params ka1 ka2 ka3 ka4 ka5 (.int w1 t3) (.int h1 t4) (.int (r + x1) ta3) (.int (u + y1) ta4) (.int 7 ta5)) 5) :: (L + 1 + 1 + 1 + 1 + 1, oK) :: (L + 1 + 1 + 1 + 1, oY) :: (L + 1 + 1 + 1, oM) :: (L + 1 + 1, oU) :: (L + 1, oR) :: (o2, ({ cls := .type "tuple", data := .seq #[.int x2 t5, .int y2 t6, .int w2 t7, .int h2 t8] n2 } : Obj)) :: (o1, ({ cls := .type "tuple", data := .seq #[.int x1 t1, .int y1 t2, .int w1 t3, .int h1 t4] n1 } : Obj)) :: tl))) → Fr g L h' m' → Paired (TupIn tl7) ys7 [(x1, y1 + h1), (x1 + w1, y1 + h1), (x1 + w1, y1), (x1, y1)] →
      m' (Str.ofString "one") = some (.ref o1) → m' (Str.ofString "two") = some (.ref o2) → m' (Str.ofString "a") = some (.ref xa) → m' (Str.ofString "b") = some (.ref xb) → m' (Str.ofString "points") = some (.ref D3) → m' (Str.ofString "far") = some (.ref f) → m' (Str.ofString "corners") = some (.ref D7) →
      wpAny (model PySem.Challenge.rw_kx0087_01.row.prog w) A (execs (pairBody.drop 16) (pairEnv L)) Q E { s with heap := h', toks := tk, gens := s.gens.push .finished }) →
    wpAny (model PySem.Challenge.rw_kx0087_01.row.prog w) A (execs (pairBody.drop 14) (pairEnv L)) Q E s := by
  k_fill
  intro X B T hA hroom hh hu doR doU b1 b2 b3 b4 b5 b6 b7 b8 b9 b10 b11 b12 b13 b14 b15 b16 lo1 lo2 q1 q2 q3 q4 hm1 hm2 hma hmb F N mP hj hx hf hQ
  dsimp only [pairEnv, pairScope, pairBody, pairDef, nthSt, scopeOf, bodyOf, List.drop, PySem.Challenge.pw_kx0087_01] at *
  repeat' (first | (k_unfold; (try dsimp only)) | ((fail_if_success (with_reducible show wpAny _ _ (execs (Stmt.Assign [Expr.Name (PySem.Str.ofString "corners") _] _ _ :: _) _) _ _ _)); first | walk1 | (dsimp only; walk1)))
  have hmf := hma
  refine wpAny_execs_cons ?_
  with_reducible rename News _ _ _ _ => NN
  with_reducible rename Fr _ _ _ (fun _ => ite _ _ _) => FF
  refine corners_assign (x1 := r + x1) (y1 := u + y1) (wa := w1) (ha := h1) (r := r) (u := u) X B T hA rfl rfl (by omega) hh FF NN (xa := xa) (da := da) (by k_mem) (by k_mem) (by rfl) (by with_unfolding_all rfl) (by decide) (by rfl) (by decide) (by rfl) (by rfl) (by rfl) (fun _ => by with_unfolding_all rfl) (elt_pt (by rfl) (by rfl) (by rfl) (fun _ => by with_unfolding_all rfl) (fun _ => by with_unfolding_all rfl) (by rfl) (by rfl) (by with_unfolding_all rfl) (by with_unfolding_all rfl) (by k_mem) (by k_mem) doR doU) ?_ ?_
  · k_dflt (refine' nameX_L ?k1 ?k2 ?_)
    case k1 => k_asm
    case k2 => exact hma
    k_whole
    exact ⟨_, _, rfl, rfl, by assumption, by assumption⟩
  intro D7 tl7 ys7 h7 tk7 F7 N7 P7 _ _
  rw [corners_val] at P7
  exact hQ D7 ys7 tl7 _ h7 tk7 N7 F7 P7 hm1 hm2 hma hmb mP rfl rfl
end
section
theorem ne_four {prog : Program} {w : World} {A : Around} {E : Value → Shared → Prop} {s : Shared} {Q : Value → Shared → Prop} {h₀ : Heap} {L : Addr} {news tl : List (Addr × Obj)} {l l' a1 a2 a3 a4 : Addr} {vs : List Value} {n n' : Nat} {p1 q1 p2 q2 p3 q3 p4 q4 : Int} {t1 t2 t3 t4 u1 u2 u3 u4 : Tok} (N : News h₀ L s.heap news)
    (hl : (l, ({ cls := .type "list", data := .seq vs.toArray n } : Obj)) ∈ news) (hp : Paired (TupIn tl) vs [(p1, q1), (p2, q2), (p3, q3), (p4, q4)]) (htl : ∀ p ∈ tl, p ∈ news) (hl' : (l', ({ cls := .type "list", data := .seq #[.ref a1, .ref a2, .ref a3, .ref a4] n' } : Obj)) ∈ news)
    (m1 : (a1, tupO p1 t1 q1 u1) ∈ news) (m2 : (a2, tupO p2 t2 q2 u2) ∈ news) (m3 : (a3, tupO p3 t3 q3 u3) ∈ news) (m4 : (a4, tupO p4 t4 q4 u4) ∈ news) (hu : A.units + 64 < cLine) (h : Q (.bool false) s) : wpAny (model prog w) A (compareOp .NotEq (.ref l) (.ref l')) Q E s :=
  ne_pairs (tl := news) (ps := [(p1, q1), (p2, q2), (p3, q3), (p4, q4)]) (ps' := [(p1, q1), (p2, q2), (p3, q3), (p4, q4)]) (fun q hq => (N q hq).1) (N _ hl).1 (paired_up hp htl) (vs' := [.ref a1, .ref a2, .ref a3, .ref a4]) (N _ hl').1 (.cons ⟨a1, t1, u1, rfl, m1⟩ (.cons ⟨a2, t2, u2, rfl, m2⟩ (.cons ⟨a3, t3, u3, rfl, m3⟩ (.cons ⟨a4, t4, u4, rfl, m4⟩ .nil)))) hu (by simpa using h)
theorem item_first {prog : Program} {w : World} {A : Around} {E : Value → Shared → Prop} {s : Shared} {Q : Value → Shared → Prop} {value slice : Expr} {l : Addr} {vs : List Value} {x : Value} {u : Tok} (hl : s.heap.IsList l vs.toArray) (hx : vs[0]? = some x) (h : Q x s)
    (hs : subscripted slice false (.ref l) (.int 0 u) = operate [.ref l, .int 0 u] (getItem (.ref l) (.int 0 u)) := by with_unfolding_all rfl) (hg : ∀ r, letTemporaryGo value (.ref l) r = pure () := by intro _; with_unfolding_all rfl) : wpAny (model prog w) A (subscriptTail value slice (.ref l) (.int 0 u)) Q E s :=
  PyProof.Rows.item_list hl (by decide) (by decide) (by simpa using hx) h hs hg
local macro_rules | `(tactic| walk_at "subscriptTail Name Constant ref int") => `(tactic| (k_here; (with_reducible show wpAny _ _ (subscriptTail _ _ (Value.ref _) (Value.int 0 _)) _ _ _); k_dflt ((refine' item_first ?l ?a ?_); (case a => with_reducible assumption); (case l => exact ⟨_, (News.get (o := LCg.lst _) (by k_asm) (by repeat (first | with_reducible exact List.mem_cons_self | refine List.mem_cons_of_mem _ ?_))), rfl, _, rfl⟩))))
local macro_rules | `(tactic| walk_at "compareOp NotEq ref ref") => `(tactic| (k_here; (with_reducible show wpAny _ _ (compareOp CmpOp.NotEq (Value.ref _) (Value.ref _)) _ _ _); k_dflt ((refine' ne_four ?N ?l1 ?p1 ?t1 ?l2 ?m1 ?m2 ?m3 ?m4 ?hu ?_); (case N => with_reducible assumption); (case l1 => k_mem); (case p1 => with_reducible assumption); (case t1 => exact (fun q hq => (by repeat (first | with_reducible exact hq | refine List.mem_cons_of_mem _ ?_)))); (case l2 => k_mem); (case m1 => k_mem); (case m2 => k_mem); (case m3 => k_mem); (case m4 => k_mem); (case hu => omega))))
set_option maxRecDepth 100000 in
set_option maxHeartbeats 8000000 in
theorem chunk8 {w : World} {A₀ A : Around} {outer : List Env} {base g : Heap} {L : Nat} {m mg mb : Str → Option Value} {mean : ExcName → Option Value} {s : Shared} {E : Value → Shared → Prop} {Q : Flow → Shared → Prop} {r u x1 y1 x2 y2 w1 h1 w2 h2 : Int} {tr tu t1 t2 t3 t4 t5 t6 t7 t8 ta3 ta4 ta5 tb3 tb4 tb5 : Tok} {o1 o2 xa da xb db : Nat} {n1 n2 : Nat} {oR oU oM oY oK : Obj} {ka1 ka2 ka3 ka4 ka5 kb1 kb2 kb3 kb4 kb5 : Tok} {D1 D2 D3 D7 f f0 : Nat} {ys1 ys2 ys3 ys7 : List Value} {tf1 tf2 tg1 tg2 : Tok} {tl : List (Addr × Obj)} :
    (hd.heap_39 w.params).In g → Below A₀ base outer g → Top hd.view_39 (looseW hd.view_39 [Str.ofString "Rectangle"]) mean mg mb g → A.frames = some (pairEnv L :: outer) → A.depth + 120 < recursionLimit → A.handled = none → A.units + 190 < cLine → oR.data = .cell (some (.int r tr)) → oU.data = .cell (some (.int u tu)) →
    0 ≤ x1 → x1 ≤ 3 → 0 ≤ y1 → y1 ≤ 3 → 0 ≤ x2 → x2 ≤ 3 → 0 ≤ y2 → y2 ≤ 3 → 1 ≤ w1 → w1 ≤ 3 → 1 ≤ h1 → h1 ≤ 3 → 1 ≤ w2 → w2 ≤ 3 → 1 ≤ h2 → h2 ≤ 3 → o1 < L → o2 < L → L + 1 + 1 + 1 + 1 + 1 < da → da < xa → xa < db → db < xb → m (Str.ofString "one") = some (.ref o1) → m (Str.ofString "two") = some (.ref o2) → m (Str.ofString "a") = some (.ref xa) → m (Str.ofString "b") = some (.ref xb) → Fr g L s.heap m → News g L s.heap ((D7, LCg.lst ys7) :: (D3, LCg.lst ys3) :: (D2, LCg.lst ys2) :: (D1, LCg.lst ys1) :: (xb, instObj 196 db) :: (db, dictOf (rectEs w.params kb1 kb2 kb3 kb4 kb5 (.int w2 t7) (.int h2 t8) (.int (r + x2) tb3) (.int (u + y2) tb4) (.int 8 tb5)) 5) :: (xa, instObj 196 da) :: (da, dictOf (rectEs w.params ka1 ka2 ka3 ka4 ka5 (.int w1 t3) (.int h1 t4) (.int (r + x1) ta3) (.int (u + y1) ta4) (.int 7 ta5)) 5) :: (L + 1 + 1 + 1 + 1 + 1, oK) :: (L + 1 + 1 + 1 + 1, oY) :: (L + 1 + 1 + 1, oM) :: (L + 1 + 1, oU) :: (L + 1, oR) :: (o2, ({ cls := .type "tuple", data := .seq #[.int x2 t5, .int y2 t6, .int w2 t7, .int h2 t8] n2 } : Obj)) :: (o1, ({ cls := .type "tuple", data := .seq #[.int x1 t1, .int y1 t2, .int w1 t3, .int h1 t4] n1 } : Obj)) :: tl) → 
    m (Str.ofString "points") = some (.ref D3) → m (Str.ofString "far") = some (.ref f) → m (Str.ofString "corners") = some (.ref D7) → ys3[0]? = some (.ref f0) → (f, tupO (x1 + w1) tf1 (y1 + h1) tf2) ∈ tl → (f0, tupO x1 tg1 y1 tg2) ∈ tl →
    Paired (TupIn tl) ys7 [(x1, y1 + h1), (x1 + w1, y1 + h1), (x1 + w1, y1), (x1, y1)] →
    (∀ h' tk, News g L h' ((D7, LCg.lst ys7) :: (D3, LCg.lst ys3) :: (D2, LCg.lst ys2) :: (D1, LCg.lst ys1) :: (xb, instObj 196 db) :: (db, dictOf (rectEs w.params kb1 kb2 kb3 kb4 kb5 (.int w2 t7) (.int h2 t8) (.int (r + x2) tb3) (.int (u + y2) tb4) (.int 8 tb5)) 5) :: (xa, instObj 196 da) :: (da, dictOf (rectEs w.params ka1 ka2 ka3 ka4 ka5 (.int w1 t3) (.int h1 t4) (.int (r + x1) ta3) (.int (u + y1) ta4) (.int 7 ta5)) 5) :: (L + 1 + 1 + 1 + 1 + 1, oK) :: (L + 1 + 1 + 1 + 1, oY) :: (L + 1 + 1 + 1, oM) :: (L + 1 + 1, oU) :: (L + 1, oR) :: (o2, ({ cls := .type "tuple", data := .seq #[.int x2 t5, .int y2 t6, .int w2 t7, .int h2 t8] n2 } : Obj)) :: (o1, ({ cls := .type "tuple", data := .seq #[.int x1 t1, .int y1 t2, .int w1 t3, .int h1 t4] n1 } : Obj)) :: tl) → Fr g L h' m → wpAny (model PySem.Challenge.rw_kx0087_01.row.prog w) A (execs (pairBody.drop 17) (pairEnv L)) Q E { s with heap := h', toks := tk }) →
    wpAny (model PySem.Challenge.rw_kx0087_01.row.prog w) A (execs (pairBody.drop 16) (pairEnv L)) Q E s := by
  k_fill
  intro X B T hA hroom hh hu doR doU b1 b2 b3 b4 b5 b6 b7 b8 b9 b10 b11 b12 b13 b14 b15 b16 lo1 lo2 q1 q2 q3 q4 hm1 hm2 hma hmb F N mP mF mC hx hf hg P7 hQ
  replace N := news_dup N (a := (f0, ({ cls := .type "tuple", data := .seq #[.int x1 tg1, .int y1 tg2] } : Obj))) (by repeat (first | exact hg | refine List.mem_cons_of_mem _ ?_))
  replace N := news_dup N (a := (f, ({ cls := .type "tuple", data := .seq #[.int (x1 + w1) tf1, .int (y1 + h1) tf2] } : Obj))) (by repeat (first | exact hf | refine List.mem_cons_of_mem _ ?_))
  clear hf hg
  dsimp only [pairEnv, pairScope, pairBody, pairDef, nthSt, scopeOf, bodyOf, List.drop, PySem.Challenge.pw_kx0087_01] at *
  repeat' (first | (k_unfold; (try dsimp only)) | ((fail_if_success (with_reducible show wpAny _ _ (execs (Stmt.Assign [Expr.Name (PySem.Str.ofString "apart") _] _ _ :: _) _) _ _ _)); first | walk1 | (dsimp only; walk1)))
  with_reducible rename News _ _ _ _ => NN
  exact hQ _ _ (fun p hp => NN p (by repeat (first | with_reducible exact hp | refine List.mem_cons_of_mem _ ?_))) (by with_reducible assumption)
end
section
set_option maxRecDepth 100000 in
set_option maxHeartbeats 8000000 in
theorem top_r_get {w : World} {A₀ A : Around} {env : Env} {outer : List Env} {base h₀ : Heap} {L : Addr} {m mg mb : Str → Option Value} {mean : ExcName → Option Value} {news : List (Addr × Obj)} {s : Shared} {E : Value → Shared → Prop} {Q : Value → Shared → Prop} {xa da : Addr} {ka1 ka2 ka3 ka4 ka5 : Tok} {wa ha x1 y1 : Int} {ra : Value} {ta1 ta2 ta3 ta4 : Tok} {na : Nat} :
    (hd.heap_39 w.params).In h₀ → Below A₀ base outer h₀ → Top hd.view_39 (looseW hd.view_39 [Str.ofString "Rectangle"]) mean mg mb h₀ → A.frames = some (env :: outer) → env.frame = some L → env.scope.kind = .function → A.depth + 60 < recursionLimit → A.handled = none →
    Fr h₀ L s.heap m → News h₀ L s.heap news →
    (xa, instObj 196 da) ∈ news → (da, dictOf (rectEs w.params ka1 ka2 ka3 ka4 ka5 (.int wa ta1) (.int ha ta2) (.int x1 ta3) (.int y1 ta4) ra) na) ∈ news →
    (∀ x d k1 k2 t1 t2 n h' tk, Fr h₀ L h' m → News h₀ L h' ((x, instObj 45 d) :: (d, dictOf (ptEs w.params k1 k2 (.int (x1 + wa) t1) (.int (y1 + ha) t2)) n) :: news) → Q (.ref x) { s with heap := h', toks := tk }) →
    wpAny (model PySem.Challenge.rw_kx0087_01.row.prog w) A (getAttr (.ref xa) (Str.ofString "corner_top_r") true) Q E s := by
  k_fill
  intro X B T hA hf hk hroom hh F N hxa hda hQ
  k_steps
  exact hQ _ _ _ _ _ _ _ _ _ (by assumption) (by assumption)
set_option maxRecDepth 100000 in
set_option maxHeartbeats 8000000 in
theorem bot_l_get {w : World} {A₀ A : Around} {env : Env} {outer : List Env} {base h₀ : Heap} {L : Addr} {m mg mb : Str → Option Value} {mean : ExcName → Option Value} {news : List (Addr × Obj)} {s : Shared} {E : Value → Shared → Prop} {Q : Value → Shared → Prop} {xa da : Addr} {ka1 ka2 ka3 ka4 ka5 : Tok} {wa ha x1 y1 : Int} {ra : Value} {ta1 ta2 ta3 ta4 : Tok} {na : Nat} :
    (hd.heap_39 w.params).In h₀ → Below A₀ base outer h₀ → Top hd.view_39 (looseW hd.view_39 [Str.ofString "Rectangle"]) mean mg mb h₀ → A.frames = some (env :: outer) → env.frame = some L → env.scope.kind = .function → A.depth + 60 < recursionLimit → A.handled = none →
    Fr h₀ L s.heap m → News h₀ L s.heap news →
    (xa, instObj 196 da) ∈ news → (da, dictOf (rectEs w.params ka1 ka2 ka3 ka4 ka5 (.int wa ta1) (.int ha ta2) (.int x1 ta3) (.int y1 ta4) ra) na) ∈ news →
    (∀ x d k1 k2 t1 t2 n h' tk, Fr h₀ L h' m → News h₀ L h' ((x, instObj 45 d) :: (d, dictOf (ptEs w.params k1 k2 (.int x1 t1) (.int y1 t2)) n) :: news) → Q (.ref x) { s with heap := h', toks := tk }) →
    wpAny (model PySem.Challenge.rw_kx0087_01.row.prog w) A (getAttr (.ref xa) (Str.ofString "corner_bot_l") true) Q E s := by
  k_fill
  intro X B T hA hf hk hroom hh F N hxa hda hQ
  k_steps
  exact hQ _ _ _ _ _ _ _ _ _ (by assumption) (by assumption)
set_option maxRecDepth 100000 in
set_option maxHeartbeats 8000000 in
theorem point_make {w : World} {A₀ A : Around} {env : Env} {outer : List Env} {base h₀ : Heap} {L : Addr} {m mg mb : Str → Option Value} {mean : ExcName → Option Value} {news : List (Addr × Obj)} {s : Shared} {E : Value → Shared → Prop} {Q : Value → Shared → Prop} {px py : Int} {tx ty : Tok} :
    (hd.heap_39 w.params).In h₀ → Below A₀ base outer h₀ → Top hd.view_39 (looseW hd.view_39 [Str.ofString "Rectangle"]) mean mg mb h₀ → A.frames = some (env :: outer) → env.frame = some L → env.scope.kind = .function → A.depth + 60 < recursionLimit → A.handled = none →
    Fr h₀ L s.heap m → News h₀ L s.heap news →
    (∀ x d k1 k2 t1 t2 n h' tk, Fr h₀ L h' m → News h₀ L h' ((x, instObj 45 d) :: (d, dictOf (ptEs w.params k1 k2 (.int px t1) (.int py t2)) n) :: news) → Q (.ref x) { s with heap := h', toks := tk }) →
    wpAny (model PySem.Challenge.rw_kx0087_01.row.prog w) A (PySem.call (.ref 45) [.int px tx, .int py ty]) Q E s := by
  k_fill
  intro X B T hA hf hk hroom hh F N hQ
  k_steps
  exact hQ _ _ _ _ _ _ _ _ _ (by assumption) (by assumption)
theorem sq_small {prog : Program} {w : World} {A : Around} {E : Value → Shared → Prop} {s : Shared} {Q : Value → Shared → Prop} {a : Int} {t u : Tok} (h1 : -1000000 ≤ a) (h2 : a ≤ 1000000) (h : ∀ t tk, Q (.int (a * a) t) { s with toks := tk }) : wpAny (model prog w) A (binaryOp .Pow (.int a t) (.int 2 u)) Q E s := by
  have e : a ^ (2 : Int).toNat = a * a := by show a ^ 2 = a * a; rw [Int.pow_succ, Int.pow_succ, Int.pow_zero, Int.one_mul]
  exact pow_int_small (by decide) (by decide) (by omega) (by rw [e]; exact h _ _)
local macro_rules | `(tactic| walk_at "binaryOp Pow int int") => `(tactic| (k_here; (with_reducible show wpAny _ _ (binaryOp Operator.Pow (Value.int _ _) (Value.int 2 _)) _ _ _); k_dflt ((refine' sq_small ?a ?b ?_); (case a => omega); (case b => omega)); intro t' tk'))
set_option maxRecDepth 100000 in
set_option maxHeartbeats 8000000 in
theorem dist_call {w : World} {A₀ A : Around} {env : Env} {outer : List Env} {base h₀ : Heap} {L : Addr} {m mg mb : Str → Option Value} {mean : ExcName → Option Value} {news : List (Addr × Obj)} {s : Shared} {E : Value → Shared → Prop} {Q : Value → Shared → Prop} {xp dp xq dq : Addr} {ka1 ka2 kb1 kb2 : Tok} {px py qx qy : Int} {ta1 ta2 tb1 tb2 : Tok} {na nb : Nat} :
    (hd.heap_39 w.params).In h₀ → Below A₀ base outer h₀ → Top hd.view_39 (looseW hd.view_39 [Str.ofString "Rectangle"]) mean mg mb h₀ → A.frames = some (env :: outer) → env.frame = some L → env.scope.kind = .function → A.depth + 60 < recursionLimit → A.handled = none →
    Fr h₀ L s.heap m → News h₀ L s.heap news →
    (xp, instObj 45 dp) ∈ news → (dp, dictOf (ptEs w.params ka1 ka2 (.int px ta1) (.int py ta2)) na) ∈ news → (xq, instObj 45 dq) ∈ news → (dq, dictOf (ptEs w.params kb1 kb2 (.int qx tb1) (.int qy tb2)) nb) ∈ news →
    -100 ≤ px - qx → px - qx ≤ 100 → -100 ≤ py - qy → py - qy ≤ 100 →
    (∀ t h' tk, Fr h₀ L h' m → News h₀ L h' news → Q (.int ((px - qx) * (px - qx) + (py - qy) * (py - qy)) t) { s with heap := h', toks := tk }) →
    wpAny (model PySem.Challenge.rw_kx0087_01.row.prog w) A (PySem.call (.ref 42) [.ref xp, .ref xq]) Q E s := by
  k_fill
  intro X B T hA hf hk hroom hh F N hxp hdp hxq hdq z1 z2 z3 z4 hQ
  k_steps
  exact hQ _ _ _ (by assumption) (by assumption)
end
section
local macro_rules | `(tactic| walk_at "binaryOp Mult int int") => `(tactic| (k_here; k_dflt ((refine' mul_small ?a ?b ?_); (case a => omega); (case b => omega)); intro t' tk'))
local macro_rules | `(tactic| walk_at "compareOp NotEq int int") => `(tactic| (k_here; k_dflt ((refine' ne_ints ?e ?_); (case e => with_reducible assumption))))
local macro_rules | `(tactic| walk_at "getAttr ref") => `(tactic| (k_here; (with_reducible show wpAny _ _ (getAttr (Value.ref _) (PySem.Str.ofString "corner_top_r") _) _ _ _); k_dflt ((refine' top_r_get ?X ?B ?T ?hA ?hf ?hk ?hr ?hh ?F ?N ?a ?b ?_); (case X => assumption); (case B => assumption); (case T => assumption); (case hA => assumption); (case hf => exact rfl); (case hk => exact rfl); (case hr => k_room); (case hh => assumption); (case F => with_reducible assumption); (case N => with_reducible assumption); (case a => k_mem); (case b => k_mem); intro x' d' k1' k2' t1' t2' n' h' tk' F' N')))
local macro_rules | `(tactic| walk_at "getAttr ref") => `(tactic| (k_here; (with_reducible show wpAny _ _ (getAttr (Value.ref _) (PySem.Str.ofString "corner_bot_l") _) _ _ _); k_dflt ((refine' bot_l_get ?X ?B ?T ?hA ?hf ?hk ?hr ?hh ?F ?N ?a ?b ?_); (case X => assumption); (case B => assumption); (case T => assumption); (case hA => assumption); (case hf => exact rfl); (case hk => exact rfl); (case hr => k_room); (case hh => assumption); (case F => with_reducible assumption); (case N => with_reducible assumption); (case a => k_mem); (case b => k_mem); intro x' d' k1' k2' t1' t2' n' h' tk' F' N')))
local macro_rules | `(tactic| walk_at "call ref") => `(tactic| (k_here; (with_reducible show wpAny _ _ (PySem.call (Value.ref 45) _ _) _ _ _); k_dflt ((refine' point_make ?X ?B ?T ?hA ?hf ?hk ?hr ?hh ?F ?N ?_); (case X => assumption); (case B => assumption); (case T => assumption); (case hA => assumption); (case hf => exact rfl); (case hk => exact rfl); (case hr => k_room); (case hh => assumption); (case F => with_reducible assumption); (case N => with_reducible assumption); skip; intro x' d' k1' k2' t1' t2' n' h' tk' F' N')))
local macro_rules | `(tactic| walk_at "call ref") => `(tactic| (k_here; (with_reducible show wpAny _ _ (PySem.call (Value.ref 42) _ _) _ _ _); k_dflt ((refine' dist_call ?X ?B ?T ?hA ?hf ?hk ?hr ?hh ?F ?N ?a ?b ?c ?d ?z1 ?z2 ?z3 ?z4 ?_); (case X => assumption); (case B => assumption); (case T => assumption); (case hA => assumption); (case hf => exact rfl); (case hk => exact rfl); (case hr => k_room); (case hh => assumption); (case F => with_reducible assumption); (case N => with_reducible assumption); (case a => k_mem); (case b => k_mem); (case c => k_mem); (case d => k_mem); (case z1 => omega); (case z2 => omega); (case z3 => omega); (case z4 => omega); intro t' h' tk' F' N')))

set_option maxRecDepth 100000 in
set_option maxHeartbeats 8000000 in
theorem chunk9 {w : World} {A₀ A : Around} {outer : List Env} {base g : Heap} {L : Nat} {m mg mb : Str → Option Value} {mean : ExcName → Option Value} {s : Shared} {E : Value → Shared → Prop} {Q : Flow → Shared → Prop} {r u x1 y1 x2 y2 w1 h1 w2 h2 : Int} {tr tu t1 t2 t3 t4 t5 t6 t7 t8 ta3 ta4 ta5 tb3 tb4 tb5 : Tok} {o1 o2 xa da xb db : Nat} {n1 n2 : Nat} {oR oU oM oY oK : Obj} {ka1 ka2 ka3 ka4 ka5 kb1 kb2 kb3 kb4 kb5 : Tok} {D1 D2 f : Nat} {ys1 ys2 : List Value} {tf1 tf2 : Tok} {tl : List (Addr × Obj)} :
    (hd.heap_39 w.params).In g → Below A₀ base outer g → Top hd.view_39 (looseW hd.view_39 [Str.ofString "Rectangle"]) mean mg mb g → A.frames = some (pairEnv L :: outer) → A.depth + 120 < recursionLimit → A.handled = none → A.units + 190 < cLine → oR.data = .cell (some (.int r tr)) → oU.data = .cell (some (.int u tu)) →
    0 ≤ x1 → x1 ≤ 3 → 0 ≤ y1 → y1 ≤ 3 → 0 ≤ x2 → x2 ≤ 3 → 0 ≤ y2 → y2 ≤ 3 → 1 ≤ w1 → w1 ≤ 3 → 1 ≤ h1 → h1 ≤ 3 → 1 ≤ w2 → w2 ≤ 3 → 1 ≤ h2 → h2 ≤ 3 → o1 < L → o2 < L → L + 1 + 1 + 1 + 1 + 1 < da → da < xa → xa < db → db < xb → m (Str.ofString "one") = some (.ref o1) → m (Str.ofString "two") = some (.ref o2) → m (Str.ofString "a") = some (.ref xa) → m (Str.ofString "b") = some (.ref xb) → Fr g L s.heap m → News g L s.heap ((D2, LCg.lst ys2) :: (D1, LCg.lst ys1) :: (xb, instObj 196 db) :: (db, dictOf (rectEs w.params kb1 kb2 kb3 kb4 kb5 (.int w2 t7) (.int h2 t8) (.int (r + x2) tb3) (.int (u + y2) tb4) (.int 8 tb5)) 5) :: (xa, instObj 196 da) :: (da, dictOf (rectEs w.params ka1 ka2 ka3 ka4 ka5 (.int w1 t3) (.int h1 t4) (.int (r + x1) ta3) (.int (u + y1) ta4) (.int 7 ta5)) 5) :: (L + 1 + 1 + 1 + 1 + 1, oK) :: (L + 1 + 1 + 1 + 1, oY) :: (L + 1 + 1 + 1, oM) :: (L + 1 + 1, oU) :: (L + 1, oR) :: (o2, ({ cls := .type "tuple", data := .seq #[.int x2 t5, .int y2 t6, .int w2 t7, .int h2 t8] n2 } : Obj)) :: (o1, ({ cls := .type "tuple", data := .seq #[.int x1 t1, .int y1 t2, .int w1 t3, .int h1 t4] n1 } : Obj)) :: tl) → 
    m (Str.ofString "far") = some (.ref f) → (f, tupO (x1 + w1) tf1 (y1 + h1) tf2) ∈ tl →
    (∀ m' h' tk, News g L h' ((D2, LCg.lst ys2) :: (D1, LCg.lst ys1) :: (xb, instObj 196 db) :: (db, dictOf (rectEs w.params kb1 kb2 kb3 kb4 kb5 (.int w2 t7) (.int h2 t8) (.int (r + x2) tb3) (.int (u + y2) tb4) (.int 8 tb5)) 5) :: (xa, instObj 196 da) :: (da, dictOf (rectEs w.params ka1 ka2 ka3 ka4 ka5 (.int w1 t3) (.int h1 t4) (.int (r + x1) ta3) (.int (u + y1) ta4) (.int 7 ta5)) 5) :: (L + 1 + 1 + 1 + 1 + 1, oK) :: (L + 1 + 1 + 1 + 1, oY) :: (L + 1 + 1 + 1, oM) :: (L + 1 + 1, oU) :: (L + 1, oR) :: (o2, ({ cls := .type "tuple", data := .seq #[.int x2 t5, .int y2 t6, .int w2 t7, .int h2 t8] n2 } : Obj)) :: (o1, ({ cls := .type "tuple", data := .seq #[.int x1 t1, .int y1 t2, .int w1 t3, .int h1 t4] n1 } : Obj)) :: tl) → Fr g L h' m' → 
      m' (Str.ofString "one") = some (.ref o1) → m' (Str.ofString "two") = some (.ref o2) → m' (Str.ofString "a") = some (.ref xa) → m' (Str.ofString "b") = some (.ref xb) → m' (Str.ofString "far") = some (.ref f) →
      wpAny (model PySem.Challenge.rw_kx0087_01.row.prog w) A (execs (pairBody.drop 19) (pairEnv L)) Q E { s with heap := h', toks := tk }) →
    wpAny (model PySem.Challenge.rw_kx0087_01.row.prog w) A (execs (pairBody.drop 17) (pairEnv L)) Q E s := by
  k_fill
  intro X B T hA hroom hh hu doR doU b1 b2 b3 b4 b5 b6 b7 b8 b9 b10 b11 b12 b13 b14 b15 b16 lo1 lo2 q1 q2 q3 q4 hm1 hm2 hma hmb F N mF hf hQ
  replace N := news_dup N (a := (f, ({ cls := .type "tuple", data := .seq #[.int (x1 + w1) tf1, .int (y1 + h1) tf2] } : Obj))) (by repeat (first | exact hf | refine List.mem_cons_of_mem _ ?_))
  have eA : (r + x1 + w1 - (r + x2)) * (r + x1 + w1 - (r + x2)) + (u + y1 + h1 - (u + y2)) * (u + y1 + h1 - (u + y2)) = (x1 + w1 - x2) * (x1 + w1 - x2) + (y1 + h1 - y2) * (y1 + h1 - y2) := by
    rw [show r + x1 + w1 - (r + x2) = x1 + w1 - x2 by omega, show u + y1 + h1 - (u + y2) = y1 + h1 - y2 by omega]
  have eB : (r + x2 - (r + (x1 + w1))) * (r + x2 - (r + (x1 + w1))) + (u + y2 - (u + (y1 + h1))) * (u + y2 - (u + (y1 + h1))) = (x1 + w1 - x2) * (x1 + w1 - x2) + (y1 + h1 - y2) * (y1 + h1 - y2) := by
    rw [show r + x2 - (r + (x1 + w1)) = -(x1 + w1 - x2) by omega, show u + y2 - (u + (y1 + h1)) = -(y1 + h1 - y2) by omega, Int.neg_mul_neg, Int.neg_mul_neg]
  clear hf
  dsimp only [pairEnv, pairScope, pairBody, pairDef, nthSt, scopeOf, bodyOf, List.drop, PySem.Challenge.pw_kx0087_01] at *
  repeat' (first | (k_unfold; (try dsimp only)) | ((fail_if_success (with_reducible show wpAny _ _ (execs (Stmt.Assign [Expr.Name (PySem.Str.ofString "union") _] _ _ :: _) _) _ _ _)); first | walk1 | (dsimp only; walk1)))
  all_goals ((with_reducible rename News _ _ _ _ => NN); refine' hQ ?_ ?_ ?_ ?nn ?ff ?e1 ?e2 ?e3 ?e4 ?e5; (case ff => with_reducible assumption); (case nn => exact (fun p hp => NN p (by repeat (first | with_reducible exact hp | refine List.mem_cons_of_mem _ ?_)))); (case e1 => exact hm1); (case e2 => exact hm2); (case e3 => exact hma); (case e4 => exact hmb); (case e5 => exact mF))
end
section
theorem paired_app {α β : Type} {F : α → β → Prop} : ∀ {l1 l2 : List α} {k1 k2 : List β}, Paired F l1 k1 → Paired F l2 k2 → Paired F (l1 ++ l2) (k1 ++ k2)
  | _, _, _, _, .nil, b => b
  | _, _, _, _, .cons h r, b => .cons h (paired_app r b)
set_option maxRecDepth 100000 in
set_option maxHeartbeats 8000000 in
theorem chunk10 {w : World} {A₀ A : Around} {outer : List Env} {base g : Heap} {L : Nat} {m mg mb : Str → Option Value} {mean : ExcName → Option Value} {s : Shared} {E : Value → Shared → Prop} {Q : Flow → Shared → Prop} {r u x1 y1 x2 y2 w1 h1 w2 h2 : Int} {tr tu t1 t2 t3 t4 t5 t6 t7 t8 ta3 ta4 ta5 tb3 tb4 tb5 : Tok} {o1 o2 xa da xb db : Nat} {n1 n2 : Nat} {oR oU oM oY oK : Obj} {ka1 ka2 ka3 ka4 ka5 kb1 kb2 kb3 kb4 kb5 : Tok} {D1 D2 f : Nat} {ys1 ys2 : List Value} {ps1 ps2 : List (Int × Int)} {tl : List (Addr × Obj)} :
    (hd.heap_39 w.params).In g → Below A₀ base outer g → Top hd.view_39 (looseW hd.view_39 [Str.ofString "Rectangle"]) mean mg mb g → A.frames = some (pairEnv L :: outer) → A.depth + 120 < recursionLimit → A.handled = none → A.units + 190 < cLine → oR.data = .cell (some (.int r tr)) → oU.data = .cell (some (.int u tu)) →
    0 ≤ x1 → x1 ≤ 3 → 0 ≤ y1 → y1 ≤ 3 → 0 ≤ x2 → x2 ≤ 3 → 0 ≤ y2 → y2 ≤ 3 → 1 ≤ w1 → w1 ≤ 3 → 1 ≤ h1 → h1 ≤ 3 → 1 ≤ w2 → w2 ≤ 3 → 1 ≤ h2 → h2 ≤ 3 → o1 < L → o2 < L → L + 1 + 1 + 1 + 1 + 1 < da → da < xa → xa < db → db < xb → m (Str.ofString "one") = some (.ref o1) → m (Str.ofString "two") = some (.ref o2) → m (Str.ofString "a") = some (.ref xa) → m (Str.ofString "b") = some (.ref xb) → Fr g L s.heap m → News g L s.heap ((D2, LCg.lst ys2) :: (D1, LCg.lst ys1) :: (xb, instObj 196 db) :: (db, dictOf (rectEs w.params kb1 kb2 kb3 kb4 kb5 (.int w2 t7) (.int h2 t8) (.int (r + x2) tb3) (.int (u + y2) tb4) (.int 8 tb5)) 5) :: (xa, instObj 196 da) :: (da, dictOf (rectEs w.params ka1 ka2 ka3 ka4 ka5 (.int w1 t3) (.int h1 t4) (.int (r + x1) ta3) (.int (u + y1) ta4) (.int 7 ta5)) 5) :: (L + 1 + 1 + 1 + 1 + 1, oK) :: (L + 1 + 1 + 1 + 1, oY) :: (L + 1 + 1 + 1, oM) :: (L + 1 + 1, oU) :: (L + 1, oR) :: (o2, ({ cls := .type "tuple", data := .seq #[.int x2 t5, .int y2 t6, .int w2 t7, .int h2 t8] n2 } : Obj)) :: (o1, ({ cls := .type "tuple", data := .seq #[.int x1 t1, .int y1 t2, .int w1 t3, .int h1 t4] n1 } : Obj)) :: tl) → m (Str.ofString "far") = some (.ref f) → oM.data = .cell (some (.ref D1)) → oY.data = .cell (some (.ref D2)) → 
    Paired (TupIn tl) ys1 ps1 → Paired (TupIn tl) ys2 ps2 → ys1.length + ys2.length ≤ sizeLine →
    (∀ (DU : Nat) ysU m' h' tk, News g L h' ((DU, ({ cls := .type "list", data := .seq ysU.toArray } : Obj)) :: ((D2, LCg.lst ys2) :: (D1, LCg.lst ys1) :: (xb, instObj 196 db) :: (db, dictOf (rectEs w.params kb1 kb2 kb3 kb4 kb5 (.int w2 t7) (.int h2 t8) (.int (r + x2) tb3) (.int (u + y2) tb4) (.int 8 tb5)) 5) :: (xa, instObj 196 da) :: (da, dictOf (rectEs w.params ka1 ka2 ka3 ka4 ka5 (.int w1 t3) (.int h1 t4) (.int (r + x1) ta3) (.int (u + y1) ta4) (.int 7 ta5)) 5) :: (L + 1 + 1 + 1 + 1 + 1, oK) :: (L + 1 + 1 + 1 + 1, oY) :: (L + 1 + 1 + 1, oM) :: (L + 1 + 1, oU) :: (L + 1, oR) :: (o2, ({ cls := .type "tuple", data := .seq #[.int x2 t5, .int y2 t6, .int w2 t7, .int h2 t8] n2 } : Obj)) :: (o1, ({ cls := .type "tuple", data := .seq #[.int x1 t1, .int y1 t2, .int w1 t3, .int h1 t4] n1 } : Obj)) :: tl)) → Fr g L h' m' → Paired (TupIn tl) ysU (ps1 ++ ps2.filter fun p => !decide (p ∈ ps1)) → 
      m' (Str.ofString "one") = some (.ref o1) → m' (Str.ofString "two") = some (.ref o2) → m' (Str.ofString "a") = some (.ref xa) → m' (Str.ofString "b") = some (.ref xb) → m' (Str.ofString "far") = some (.ref f) → m' (Str.ofString "union") = some (.ref DU) →
      wpAny (model PySem.Challenge.rw_kx0087_01.row.prog w) A (execs (pairBody.drop 20) (pairEnv L)) Q E { s with heap := h', toks := tk }) →
    wpAny (model PySem.Challenge.rw_kx0087_01.row.prog w) A (execs (pairBody.drop 19) (pairEnv L)) Q E s := by
  k_fill
  intro X B T hA hroom hh hu doR doU b1 b2 b3 b4 b5 b6 b7 b8 b9 b10 b11 b12 b13 b14 b15 b16 lo1 lo2 q1 q2 q3 q4 hm1 hm2 hma hmb F N mF dM dY P1 P2 sz hQ
  dsimp only [pairEnv, pairScope, pairBody, pairDef, nthSt, scopeOf, bodyOf, List.drop, PySem.Challenge.pw_kx0087_01] at *
  repeat' (first | (k_unfold; (try dsimp only)) | ((fail_if_success (with_reducible show wpAny _ _ (eval (Expr.ListComp _ _ _ _) _) _ _ _)); first | walk1 | (dsimp only; walk1)))
  have FF := F
  refine ListComp_filter (tl := tl) F N (by k_mem) (fun p hp => by repeat (first | exact hp | refine List.mem_cons_of_mem _ ?_)) P2 (by omega) hh (by with_unfolding_all rfl) (by decide) (by rfl) (by decide) (by rfl) (by rfl) (fun _ => by with_unfolding_all rfl) (test_notIn (tl := tl) (ps := ps1) (by rfl) (by rfl) (by rfl) (fun _ => by with_unfolding_all rfl) (by rfl) (by with_unfolding_all rfl) (by k_mem) dM (by k_mem) (fun p hp => by repeat (first | exact hp | refine List.mem_cons_of_mem _ ?_)) P1 (by omega)) ?_ ?_
  · walk1
    exact ⟨_, _, rfl, rfl, by assumption, by assumption⟩
  intro DF ysF kF hF tkF FF NF PF neF
  have hlen : ysF.length ≤ ys2.length := by
    rw [PF.length, P2.length]
    exact List.length_filter_le _ _
  refine add_lists (vs := ys1) (ws := ysF) FF NF ⟨_, (NF (D1, LCg.lst ys1) (by k_mem)).1, rfl, _, rfl⟩ ⟨_, (NF _ List.mem_cons_self).1, rfl, _, rfl⟩ ?_ (by omega)
  intro hU FU NU
  repeat' (first | (k_unfold; (try dsimp only)) | ((fail_if_success (with_reducible show wpAny _ _ (execs (Stmt.Assign [Expr.Name (PySem.Str.ofString "box") _] _ _ :: _) _) _ _ _)); first | walk1 | (dsimp only; walk1)))
  with_reducible rename News _ _ _ _ => NN
  refine' hQ ?_ (ys1 ++ ysF) ?_ ?_ ?_ ?nn ?ff (paired_app P1 PF) ?e1 ?e2 ?e3 ?e4 ?e5 ?e6
  case ff => with_reducible assumption
  case e6 => rfl
  case nn =>
    intro p hp
    rcases List.mem_cons.mp hp with rfl | hp
    · exact NN _ List.mem_cons_self
    · exact NN p (List.mem_cons_of_mem _ (List.mem_cons_of_mem _ hp))
  case e1 => exact hm1
  case e2 => exact hm2
  case e3 => exact hma
  case e4 => exact hmb
  case e5 => exact mF
end
section
local macro_rules | `(tactic| walk_at "idle 0") => `(tactic| skip)
theorem eq_ints {prog : Program} {w : World} {A : Around} {E : Value → Shared → Prop} {s : Shared} {Q : Value → Shared → Prop} {a b : Int} {t u : Tok} (h : Q (.bool (decide (a = b))) s) : wpAny (model prog w) A (compareOp .Eq (.int a t) (.int b u)) Q E s :=
  eq_int (by have e : (a == b) = decide (a = b) := by by_cases z : a = b <;> simp [z]
             rw [e]; exact h)
theorem box_is {w : World} {A₀ A : Around} {env : Env} {outer : List Env} {base h₀ : Heap} {L : Addr} {m mg mb : Str → Option Value} {mean : ExcName → Option Value} {news : List (Addr × Obj)} {s : Shared} {E : Value → Shared → Prop} {Q : Value → Shared → Prop} {ax : Nat} {vs : List Value} {ps : List (Int × Int)} {nn : Nat} {bl bo bw bh : Int} :
    (hd.heap_39 w.params).In h₀ → Below A₀ base outer h₀ → Top hd.view_39 (looseW hd.view_39 [Str.ofString "Rectangle"]) mean mg mb h₀ → A.frames = some (env :: outer) → env.frame = some L → env.scope.kind = .function → A.depth + 20 < recursionLimit → A.handled = none →
    Fr h₀ L s.heap m → News h₀ L s.heap news →
    (ax, ({ cls := .type "list", data := .seq vs.toArray nn } : Obj)) ∈ news → Paired (TupIn news) vs ps → 0 < ps.length → vs.length ≤ sizeLine → BoxIs ps bl bo bw bh →
    (∀ b t1 t2 t3 t4 h' tk, Fr h₀ L h' m → News h₀ L h' ((b, tup4 bl bo bw bh t1 t2 t3 t4) :: news) → Q (.ref b) { s with heap := h', toks := tk }) →
    wpAny (model PySem.Challenge.rw_kx0087_01.row.prog w) A (PySem.call (.ref 217) [.ref ax]) Q E s := by
  intro X B T hA hf hk hroom hh F N hl hp hne hlen hb hQ
  refine box_call X B T hA hf hk hroom hh F N hl hp hne hlen ?_
  intro l lo r u b t1 t2 t3 t4 h' tk bx F' N' _
  obtain ⟨e1, e2, e3, e4⟩ := hb.at bx
  rw [e3, e4, e1, e2] at N'
  exact hQ b t1 t2 t3 t4 h' tk F' N'
local macro_rules | `(tactic| walk_at "call ref") => `(tactic| (k_here; (with_reducible show wpAny _ _ (PySem.call (Value.ref 217) _ _) _ _ _); k_dflt ((first | refine' box_is ?X ?B ?T ?hA ?hf ?hk ?hr ?hh ?F ?N ?hl ?hp ?hn ?hz ?hb ?_); (case X => assumption); (case B => assumption); (case T => assumption); (case hA => assumption); (case hf => exact rfl); (case hk => exact rfl); (case hr => k_room); (case hh => assumption); (case F => assumption); (case N => with_reducible assumption); (case hl => k_mem); (case hp => first | (refine paired_up (by with_reducible assumption) ?_; exact (fun q hq => (by repeat (first | exact hq | refine List.mem_cons_of_mem _ ?_))))); (case hn => with_reducible assumption); (case hz => with_reducible assumption); (case hb => with_reducible assumption)); intro b' t1' t2' t3' t4' h' tk' F' N'))
local macro_rules | `(tactic| walk_at "binaryOp Mult int int") => `(tactic| (k_here; k_dflt ((refine' mul_small ?a ?b ?_); (case a => omega); (case b => omega)); intro t' tk'))
local macro_rules | `(tactic| walk_at "call builtin:len") => `(tactic| (k_here; (with_reducible show wpAny _ _ (PySem.call (Value.builtin _) [Value.ref _]) _ _ _); k_dflt ((refine' call_len ?N ?hl ?hs ?_); (case N => assumption); (case hl => k_mem); (case hs => assumption)); intro t' tk'))
local macro_rules | `(tactic| walk_at "compareOp Eq int int") => `(tactic| (k_here; k_dflt (refine eq_ints ?_)))
set_option maxRecDepth 100000 in
set_option maxHeartbeats 8000000 in
theorem chunk11 {w : World} {A₀ A : Around} {outer : List Env} {base g : Heap} {L : Nat} {m mg mb : Str → Option Value} {mean : ExcName → Option Value} {s : Shared} {E : Value → Shared → Prop} {Q : Flow → Shared → Prop} {r u x1 y1 x2 y2 w1 h1 w2 h2 : Int} {tr tu t1 t2 t3 t4 t5 t6 t7 t8 ta3 ta4 ta5 tb3 tb4 tb5 : Tok} {o1 o2 xa da xb db : Nat} {n1 n2 : Nat} {oR oU oM oY oK : Obj} {ka1 ka2 ka3 ka4 ka5 kb1 kb2 kb3 kb4 kb5 : Tok} {DU f : Nat} {ysU : List Value} {psU : List (Int × Int)} {bl bo bw bh : Int} {tl : List (Addr × Obj)} :
    (hd.heap_39 w.params).In g → Below A₀ base outer g → Top hd.view_39 (looseW hd.view_39 [Str.ofString "Rectangle"]) mean mg mb g → A.frames = some (pairEnv L :: outer) → A.depth + 120 < recursionLimit → A.handled = none → A.units + 190 < cLine → oR.data = .cell (some (.int r tr)) → oU.data = .cell (some (.int u tu)) →
    0 ≤ x1 → x1 ≤ 3 → 0 ≤ y1 → y1 ≤ 3 → 0 ≤ x2 → x2 ≤ 3 → 0 ≤ y2 → y2 ≤ 3 → 1 ≤ w1 → w1 ≤ 3 → 1 ≤ h1 → h1 ≤ 3 → 1 ≤ w2 → w2 ≤ 3 → 1 ≤ h2 → h2 ≤ 3 → o1 < L → o2 < L → L + 1 + 1 + 1 + 1 + 1 < da → da < xa → xa < db → db < xb → m (Str.ofString "one") = some (.ref o1) → m (Str.ofString "two") = some (.ref o2) → m (Str.ofString "a") = some (.ref xa) → m (Str.ofString "b") = some (.ref xb) → Fr g L s.heap m → News g L s.heap ((DU, ({ cls := .type "list", data := .seq ysU.toArray } : Obj)) :: (xb, instObj 196 db) :: (db, dictOf (rectEs w.params kb1 kb2 kb3 kb4 kb5 (.int w2 t7) (.int h2 t8) (.int (r + x2) tb3) (.int (u + y2) tb4) (.int 8 tb5)) 5) :: (xa, instObj 196 da) :: (da, dictOf (rectEs w.params ka1 ka2 ka3 ka4 ka5 (.int w1 t3) (.int h1 t4) (.int (r + x1) ta3) (.int (u + y1) ta4) (.int 7 ta5)) 5) :: (L + 1 + 1 + 1 + 1 + 1, oK) :: (L + 1 + 1 + 1 + 1, oY) :: (L + 1 + 1 + 1, oM) :: (L + 1 + 1, oU) :: (L + 1, oR) :: (o2, ({ cls := .type "tuple", data := .seq #[.int x2 t5, .int y2 t6, .int w2 t7, .int h2 t8] n2 } : Obj)) :: (o1, ({ cls := .type "tuple", data := .seq #[.int x1 t1, .int y1 t2, .int w1 t3, .int h1 t4] n1 } : Obj)) :: tl) → m (Str.ofString "far") = some (.ref f) → m (Str.ofString "union") = some (.ref DU) →
    Paired (TupIn tl) ysU psU → 0 < psU.length → ysU.length ≤ sizeLine → BoxIs psU bl bo bw bh → 0 ≤ bw → bw ≤ 100 →
    (∀ (bx : Nat) k1 k2 k3 k4 m' h' tk, News g L h' ((bx, tup4 bl bo bw bh k1 k2 k3 k4) :: ((DU, ({ cls := .type "list", data := .seq ysU.toArray } : Obj)) :: (xb, instObj 196 db) :: (db, dictOf (rectEs w.params kb1 kb2 kb3 kb4 kb5 (.int w2 t7) (.int h2 t8) (.int (r + x2) tb3) (.int (u + y2) tb4) (.int 8 tb5)) 5) :: (xa, instObj 196 da) :: (da, dictOf (rectEs w.params ka1 ka2 ka3 ka4 ka5 (.int w1 t3) (.int h1 t4) (.int (r + x1) ta3) (.int (u + y1) ta4) (.int 7 ta5)) 5) :: (L + 1 + 1 + 1 + 1 + 1, oK) :: (L + 1 + 1 + 1 + 1, oY) :: (L + 1 + 1 + 1, oM) :: (L + 1 + 1, oU) :: (L + 1, oR) :: (o2, ({ cls := .type "tuple", data := .seq #[.int x2 t5, .int y2 t6, .int w2 t7, .int h2 t8] n2 } : Obj)) :: (o1, ({ cls := .type "tuple", data := .seq #[.int x1 t1, .int y1 t2, .int w1 t3, .int h1 t4] n1 } : Obj)) :: tl)) → Fr g L h' m' → 
      m' (Str.ofString "one") = some (.ref o1) → m' (Str.ofString "two") = some (.ref o2) → m' (Str.ofString "a") = some (.ref xa) → m' (Str.ofString "b") = some (.ref xb) → m' (Str.ofString "far") = some (.ref f) → m' (Str.ofString "box") = some (.ref bx) → m' (Str.ofString "whole") = some (.bool (decide (bw * bh = (ysU.length : Int)))) →
      wpAny (model PySem.Challenge.rw_kx0087_01.row.prog w) A (execs (pairBody.drop 22) (pairEnv L)) Q E { s with heap := h', toks := tk }) →
    wpAny (model PySem.Challenge.rw_kx0087_01.row.prog w) A (execs (pairBody.drop 20) (pairEnv L)) Q E s := by
  k_fill
  intro X B T hA hroom hh hu doR doU b1 b2 b3 b4 b5 b6 b7 b8 b9 b10 b11 b12 b13 b14 b15 b16 lo1 lo2 q1 q2 q3 q4 hm1 hm2 hma hmb F N mF mU PU hpos hsz hb hb1 hb2 hQ
  dsimp only [pairEnv, pairScope, pairBody, pairDef, nthSt, scopeOf, bodyOf, List.drop, PySem.Challenge.pw_kx0087_01] at *
  repeat' (first | (k_unfold; (try dsimp only)) | ((fail_if_success (with_reducible show wpAny _ _ (execs (Stmt.If _ _ _ _ :: _) _) _ _ _)); first | walk1 | (dsimp only; walk1)))
  with_reducible rename News _ _ _ _ => NN
  refine' hQ ?_ ?_ ?_ ?_ ?_ ?_ ?_ ?_ ?nn ?ff ?e1 ?e2 ?e3 ?e4 ?e5 ?e6 ?e7
  case ff => with_reducible assumption
  case e6 => rfl
  case e7 => rfl
  case nn => exact NN
  case e1 => exact hm1
  case e2 => exact hm2
  case e3 => exact hma
  case e4 => exact hmb
  case e5 => exact mF
end
section
theorem join_is {w : World} {A₀ A : Around} {env : Env} {outer : List Env} {base h₀ : Heap} {L : Addr} {m mg mb : Str → Option Value} {mean : ExcName → Option Value} {news : List (Addr × Obj)} {s : Shared} {E : Value → Shared → Prop} {Q : Value → Shared → Prop} {rest : List (Addr × Obj)} {xa da : Addr} {ka1 ka2 ka3 ka4 ka5 : Tok} {wa ha x1 y1 : Int} {ra : Value} {ta1 ta2 ta3 ta4 : Tok} {xb db : Addr} {kb1 kb2 kb3 kb4 kb5 : Tok} {wb hb x2 y2 : Int} {rb : Value} {tb1 tb2 tb3 tb4 : Tok} {nb : Nat} {rr : Bool} {X Y W K : Int} :
    (hd.heap_39 w.params).In h₀ → Below A₀ base outer h₀ → Top hd.view_39 (looseW hd.view_39 [Str.ofString "Rectangle"]) mean mg mb h₀ → A.frames = some (env :: outer) → env.frame = some L → env.scope.kind = .function → A.depth + 60 < recursionLimit → A.handled = none →
    Fr h₀ L s.heap m → News h₀ L s.heap ((da, dictOf (rectEs w.params ka1 ka2 ka3 ka4 ka5 (.int wa ta1) (.int ha ta2) (.int x1 ta3) (.int y1 ta4) ra) 5) :: rest) →
    (xa, instObj 196 da) ∈ rest → (xb, instObj 196 db) ∈ rest → (db, dictOf (rectEs w.params kb1 kb2 kb3 kb4 kb5 (.int wb tb1) (.int hb tb2) (.int x2 tb3) (.int y2 tb4) rb) nb) ∈ rest → (∀ p ∈ rest, p.1 ≠ da) → joinV x1 y1 wa ha x2 y2 wb hb = (rr, X, Y, W, K) →
    (∀ t1 t2 t3 t4 h' tk, Fr h₀ L h' m →
      News h₀ L h' ((da, dictOf (rectEs w.params ka1 ka2 ka3 ka4 ka5 (.int W t1) (.int K t2) (.int X t3) (.int Y t4) ra) 5) :: rest) → Q (.bool rr) { s with heap := h', toks := tk }) →
    wpAny (model PySem.Challenge.rw_kx0087_01.row.prog w) A (PySem.call (.ref 193) [.ref xa, .ref xb]) Q E s := by
  intro X' B T hA hf hk hroom hh F N hxa hxb hdb hne hj hQ
  refine join_call (news := []) X' B T hA hf hk hroom hh F N hxa hxb hdb hne ?_
  intro r x' y' w' k' e t1 t2 t3 t4 h' tk F' N'
  have e' := hj.symm.trans e
  simp only [Prod.mk.injEq] at e'
  obtain ⟨rfl, rfl, rfl, rfl, rfl⟩ := e'
  exact hQ t1 t2 t3 t4 h' tk F' N'
local macro_rules | `(tactic| walk_at "call ref") => `(tactic| (k_here; (with_reducible show wpAny _ _ (PySem.call (Value.ref 224) _ _) _ _ _); k_dflt ((first | refine' four_call ?X ?B ?T ?hA ?hf ?hk ?hr ?hh ?F ?N ?hl ?hp ?_); (case X => assumption); (case B => assumption); (case T => assumption); (case hA => assumption); (case hf => exact rfl); (case hk => exact rfl); (case hr => k_room); (case hh => assumption); (case F => assumption); (case N => with_reducible assumption); (case hl => k_mem); (case hp => k_mem)); intro b' t1' t2' h' tk' F' N'))
local macro_rules | `(tactic| walk_at "compareOp NotEq bool bool") => `(tactic| (k_here; (with_reducible show wpAny _ _ (compareOp CmpOp.NotEq (Value.bool _) (Value.bool _)) _ _ _); k_dflt ((refine' ne_bools ?e ?hu ?_); (case e => first | (with_reducible assumption) | exact rfl); (case hu => omega))))
local macro_rules | `(tactic| walk_at "compareOp NotEq ref ref") => `(tactic| (k_here; (with_reducible show wpAny _ _ (compareOp CmpOp.NotEq (Value.ref _) (Value.ref _)) _ _ _); k_dflt ((refine' ne_tup4 ?N ?l1 ?l2 ?hu ?e ?_); (case N => with_reducible assumption); (case l1 => k_mem); (case l2 => k_mem); (case hu => omega); (case e => omega))))
local macro_rules | `(tactic| walk_at "call ref") => `(tactic| (k_here; (with_reducible show wpAny _ _ (PySem.call (Value.ref 193) _ _) _ _ _); k_dflt ((refine' join_is (news := []) ?X ?B ?T ?hA ?hf ?hk ?hr ?hh ?F ?N ?a ?b ?c ?n ?j ?_); (case X => assumption); (case B => assumption); (case T => assumption); (case hA => assumption); (case hf => exact rfl); (case hk => exact rfl); (case hr => k_room); (case hh => assumption); (case F => with_reducible assumption); (case N => with_reducible assumption); (case a => k_mem); (case b => k_mem); (case c => k_mem); (case n => with_reducible assumption); (case j => with_reducible assumption); intro t1' t2' t3' t4' h' tk' F' N')))
set_option maxRecDepth 100000 in
set_option maxHeartbeats 8000000 in
theorem chunk12T {w : World} {A₀ A : Around} {outer : List Env} {base g : Heap} {L : Nat} {m mg mb : Str → Option Value} {mean : ExcName → Option Value} {s : Shared} {E : Value → Shared → Prop} {Q : Flow → Shared → Prop} {r u x1 y1 x2 y2 w1 h1 w2 h2 : Int} {tr tu t1 t2 t3 t4 t5 t6 t7 t8 ta3 ta4 ta5 tb3 tb4 tb5 : Tok} {o1 o2 xa da xb db : Nat} {n1 n2 : Nat} {oR oU oM oY oK : Obj} {ka1 ka2 ka3 ka4 ka5 kb1 kb2 kb3 kb4 kb5 : Tok} {bx f : Nat} {k1 k2 k3 k4 tf1 tf2 : Tok} {bl bo bw bh X Y W K : Int} :
    (hd.heap_39 w.params).In g → Below A₀ base outer g → Top hd.view_39 (looseW hd.view_39 [Str.ofString "Rectangle"]) mean mg mb g → A.frames = some (pairEnv L :: outer) → A.depth + 120 < recursionLimit → A.handled = none → A.units + 190 < cLine → oR.data = .cell (some (.int r tr)) → oU.data = .cell (some (.int u tu)) →
    0 ≤ x1 → x1 ≤ 3 → 0 ≤ y1 → y1 ≤ 3 → 0 ≤ x2 → x2 ≤ 3 → 0 ≤ y2 → y2 ≤ 3 → 1 ≤ w1 → w1 ≤ 3 → 1 ≤ h1 → h1 ≤ 3 → 1 ≤ w2 → w2 ≤ 3 → 1 ≤ h2 → h2 ≤ 3 → o1 < L → o2 < L → L + 1 + 1 + 1 + 1 + 1 < da → da < xa → xa < db → db < xb → m (Str.ofString "one") = some (.ref o1) → m (Str.ofString "two") = some (.ref o2) → m (Str.ofString "a") = some (.ref xa) → m (Str.ofString "b") = some (.ref xb) → Fr g L s.heap m → News g L s.heap ((da, dictOf (rectEs w.params ka1 ka2 ka3 ka4 ka5 (.int w1 t3) (.int h1 t4) (.int (r + x1) ta3) (.int (u + y1) ta4) (.int 7 ta5)) 5) :: ((bx, tup4 bl bo bw bh k1 k2 k3 k4) :: (f, ({ cls := .type "tuple", data := .seq #[.int (x1 + w1) tf1, .int (y1 + h1) tf2] } : Obj)) :: (xb, instObj 196 db) :: (db, dictOf (rectEs w.params kb1 kb2 kb3 kb4 kb5 (.int w2 t7) (.int h2 t8) (.int (r + x2) tb3) (.int (u + y2) tb4) (.int 8 tb5)) 5) :: (xa, instObj 196 da) :: (L + 1 + 1, oU) :: (L + 1, oR) :: (o2, ({ cls := .type "tuple", data := .seq #[.int x2 t5, .int y2 t6, .int w2 t7, .int h2 t8] n2 } : Obj)) :: (o1, ({ cls := .type "tuple", data := .seq #[.int x1 t1, .int y1 t2, .int w1 t3, .int h1 t4] n1 } : Obj)) :: [])) → m (Str.ofString "far") = some (.ref f) → m (Str.ofString "box") = some (.ref bx) → m (Str.ofString "whole") = some (.bool true) →
    (∀ p ∈ ((bx, tup4 bl bo bw bh k1 k2 k3 k4) :: (f, ({ cls := .type "tuple", data := .seq #[.int (x1 + w1) tf1, .int (y1 + h1) tf2] } : Obj)) :: (xb, instObj 196 db) :: (db, dictOf (rectEs w.params kb1 kb2 kb3 kb4 kb5 (.int w2 t7) (.int h2 t8) (.int (r + x2) tb3) (.int (u + y2) tb4) (.int 8 tb5)) 5) :: (xa, instObj 196 da) :: (L + 1 + 1, oU) :: (L + 1, oR) :: (o2, ({ cls := .type "tuple", data := .seq #[.int x2 t5, .int y2 t6, .int w2 t7, .int h2 t8] n2 } : Obj)) :: (o1, ({ cls := .type "tuple", data := .seq #[.int x1 t1, .int y1 t2, .int w1 t3, .int h1 t4] n1 } : Obj)) :: []), p.1 ≠ da) → joinV (r + x1) (u + y1) w1 h1 (r + x2) (u + y2) w2 h2 = (true, X, Y, W, K) → X - r = bl → Y - u = bo → W = bw → K = bh →
    (∀ q1 q2 q3 q4 h' tk, News g L h' ((da, dictOf (rectEs w.params ka1 ka2 ka3 ka4 ka5 (.int W q1) (.int K q2) (.int X q3) (.int Y q4) (.int 7 ta5)) 5) :: ((bx, tup4 bl bo bw bh k1 k2 k3 k4) :: (f, ({ cls := .type "tuple", data := .seq #[.int (x1 + w1) tf1, .int (y1 + h1) tf2] } : Obj)) :: (xb, instObj 196 db) :: (db, dictOf (rectEs w.params kb1 kb2 kb3 kb4 kb5 (.int w2 t7) (.int h2 t8) (.int (r + x2) tb3) (.int (u + y2) tb4) (.int 8 tb5)) 5) :: (xa, instObj 196 da) :: (L + 1 + 1, oU) :: (L + 1, oR) :: (o2, ({ cls := .type "tuple", data := .seq #[.int x2 t5, .int y2 t6, .int w2 t7, .int h2 t8] n2 } : Obj)) :: (o1, ({ cls := .type "tuple", data := .seq #[.int x1 t1, .int y1 t2, .int w1 t3, .int h1 t4] n1 } : Obj)) :: [])) → Fr g L h' m → wpAny (model PySem.Challenge.rw_kx0087_01.row.prog w) A (execs (pairBody.drop 23) (pairEnv L)) Q E { s with heap := h', toks := tk }) →
    wpAny (model PySem.Challenge.rw_kx0087_01.row.prog w) A (execs (pairBody.drop 22) (pairEnv L)) Q E s := by
  k_fill
  intro X B T hA hroom hh hu doR doU b1 b2 b3 b4 b5 b6 b7 b8 b9 b10 b11 b12 b13 b14 b15 b16 lo1 lo2 q1 q2 q3 q4 hm1 hm2 hma hmb F N mF mX mW hne hj v1 v2 v3 v4 hQ
  dsimp only [pairEnv, pairScope, pairBody, pairDef, nthSt, scopeOf, bodyOf, List.drop, PySem.Challenge.pw_kx0087_01] at *
  repeat' (first | (k_unfold; (try dsimp only)) | ((fail_if_success (with_reducible show wpAny _ _ (execs (Stmt.Expr _ _ :: _) _) _ _ _)); first | walk1 | (dsimp only; walk1)))
  with_reducible rename News _ _ _ _ => NN
  refine' hQ ?_ ?_ ?_ ?_ ?_ ?_ ?nn ?ff
  case ff => with_reducible assumption
  case nn => exact news_sub NN (fun p hp => by repeat (first | with_reducible exact hp | refine List.mem_cons_of_mem _ ?_))
set_option maxRecDepth 100000 in
set_option maxHeartbeats 8000000 in
theorem chunk12F {w : World} {A₀ A : Around} {outer : List Env} {base g : Heap} {L : Nat} {m mg mb : Str → Option Value} {mean : ExcName → Option Value} {s : Shared} {E : Value → Shared → Prop} {Q : Flow → Shared → Prop} {r u x1 y1 x2 y2 w1 h1 w2 h2 : Int} {tr tu t1 t2 t3 t4 t5 t6 t7 t8 ta3 ta4 ta5 tb3 tb4 tb5 : Tok} {o1 o2 xa da xb db : Nat} {n1 n2 : Nat} {oR oU oM oY oK : Obj} {ka1 ka2 ka3 ka4 ka5 kb1 kb2 kb3 kb4 kb5 : Tok} {bx f : Nat} {k1 k2 k3 k4 tf1 tf2 : Tok} {bl bo bw bh X Y W K : Int} :
    (hd.heap_39 w.params).In g → Below A₀ base outer g → Top hd.view_39 (looseW hd.view_39 [Str.ofString "Rectangle"]) mean mg mb g → A.frames = some (pairEnv L :: outer) → A.depth + 120 < recursionLimit → A.handled = none → A.units + 190 < cLine → oR.data = .cell (some (.int r tr)) → oU.data = .cell (some (.int u tu)) →
    0 ≤ x1 → x1 ≤ 3 → 0 ≤ y1 → y1 ≤ 3 → 0 ≤ x2 → x2 ≤ 3 → 0 ≤ y2 → y2 ≤ 3 → 1 ≤ w1 → w1 ≤ 3 → 1 ≤ h1 → h1 ≤ 3 → 1 ≤ w2 → w2 ≤ 3 → 1 ≤ h2 → h2 ≤ 3 → o1 < L → o2 < L → L + 1 + 1 + 1 + 1 + 1 < da → da < xa → xa < db → db < xb → m (Str.ofString "one") = some (.ref o1) → m (Str.ofString "two") = some (.ref o2) → m (Str.ofString "a") = some (.ref xa) → m (Str.ofString "b") = some (.ref xb) → Fr g L s.heap m → News g L s.heap ((da, dictOf (rectEs w.params ka1 ka2 ka3 ka4 ka5 (.int w1 t3) (.int h1 t4) (.int (r + x1) ta3) (.int (u + y1) ta4) (.int 7 ta5)) 5) :: ((bx, tup4 bl bo bw bh k1 k2 k3 k4) :: (f, ({ cls := .type "tuple", data := .seq #[.int (x1 + w1) tf1, .int (y1 + h1) tf2] } : Obj)) :: (xb, instObj 196 db) :: (db, dictOf (rectEs w.params kb1 kb2 kb3 kb4 kb5 (.int w2 t7) (.int h2 t8) (.int (r + x2) tb3) (.int (u + y2) tb4) (.int 8 tb5)) 5) :: (xa, instObj 196 da) :: (L + 1 + 1, oU) :: (L + 1, oR) :: (o2, ({ cls := .type "tuple", data := .seq #[.int x2 t5, .int y2 t6, .int w2 t7, .int h2 t8] n2 } : Obj)) :: (o1, ({ cls := .type "tuple", data := .seq #[.int x1 t1, .int y1 t2, .int w1 t3, .int h1 t4] n1 } : Obj)) :: [])) → m (Str.ofString "far") = some (.ref f) → m (Str.ofString "box") = some (.ref bx) → m (Str.ofString "whole") = some (.bool false) →
    (∀ p ∈ ((bx, tup4 bl bo bw bh k1 k2 k3 k4) :: (f, ({ cls := .type "tuple", data := .seq #[.int (x1 + w1) tf1, .int (y1 + h1) tf2] } : Obj)) :: (xb, instObj 196 db) :: (db, dictOf (rectEs w.params kb1 kb2 kb3 kb4 kb5 (.int w2 t7) (.int h2 t8) (.int (r + x2) tb3) (.int (u + y2) tb4) (.int 8 tb5)) 5) :: (xa, instObj 196 da) :: (L + 1 + 1, oU) :: (L + 1, oR) :: (o2, ({ cls := .type "tuple", data := .seq #[.int x2 t5, .int y2 t6, .int w2 t7, .int h2 t8] n2 } : Obj)) :: (o1, ({ cls := .type "tuple", data := .seq #[.int x1 t1, .int y1 t2, .int w1 t3, .int h1 t4] n1 } : Obj)) :: []), p.1 ≠ da) → joinV (r + x1) (u + y1) w1 h1 (r + x2) (u + y2) w2 h2 = (false, X, Y, W, K) → X - r = x1 → Y - u = y1 → W = w1 → K = h1 →
    (∀ q1 q2 q3 q4 h' tk, News g L h' ((da, dictOf (rectEs w.params ka1 ka2 ka3 ka4 ka5 (.int W q1) (.int K q2) (.int X q3) (.int Y q4) (.int 7 ta5)) 5) :: ((bx, tup4 bl bo bw bh k1 k2 k3 k4) :: (f, ({ cls := .type "tuple", data := .seq #[.int (x1 + w1) tf1, .int (y1 + h1) tf2] } : Obj)) :: (xb, instObj 196 db) :: (db, dictOf (rectEs w.params kb1 kb2 kb3 kb4 kb5 (.int w2 t7) (.int h2 t8) (.int (r + x2) tb3) (.int (u + y2) tb4) (.int 8 tb5)) 5) :: (xa, instObj 196 da) :: (L + 1 + 1, oU) :: (L + 1, oR) :: (o2, ({ cls := .type "tuple", data := .seq #[.int x2 t5, .int y2 t6, .int w2 t7, .int h2 t8] n2 } : Obj)) :: (o1, ({ cls := .type "tuple", data := .seq #[.int x1 t1, .int y1 t2, .int w1 t3, .int h1 t4] n1 } : Obj)) :: [])) → Fr g L h' m → wpAny (model PySem.Challenge.rw_kx0087_01.row.prog w) A (execs (pairBody.drop 23) (pairEnv L)) Q E { s with heap := h', toks := tk }) →
    wpAny (model PySem.Challenge.rw_kx0087_01.row.prog w) A (execs (pairBody.drop 22) (pairEnv L)) Q E s := by
  k_fill
  intro X B T hA hroom hh hu doR doU b1 b2 b3 b4 b5 b6 b7 b8 b9 b10 b11 b12 b13 b14 b15 b16 lo1 lo2 q1 q2 q3 q4 hm1 hm2 hma hmb F N mF mX mW hne hj v1 v2 v3 v4 hQ
  dsimp only [pairEnv, pairScope, pairBody, pairDef, nthSt, scopeOf, bodyOf, List.drop, PySem.Challenge.pw_kx0087_01] at *
  repeat' (first | (k_unfold; (try dsimp only)) | ((fail_if_success (with_reducible show wpAny _ _ (execs (Stmt.Expr _ _ :: _) _) _ _ _)); first | walk1 | (dsimp only; walk1)))
  with_reducible rename News _ _ _ _ => NN
  refine' hQ ?_ ?_ ?_ ?_ ?_ ?_ ?nn ?ff
  case ff => with_reducible assumption
  case nn => exact news_sub NN (fun p hp => by repeat (first | with_reducible exact hp | refine List.mem_cons_of_mem _ ?_))
end
section
set_option maxRecDepth 100000 in
set_option maxHeartbeats 8000000 in
theorem pt_eq {w : World} {A₀ A : Around} {env : Env} {outer : List Env} {base h₀ : Heap} {L : Addr} {m mg mb : Str → Option Value} {mean : ExcName → Option Value} {news : List (Addr × Obj)} {s : Shared} {E : Value → Shared → Prop} {Q : Value → Shared → Prop} {xp dp xq dq : Addr} {ka1 ka2 kb1 kb2 : Tok} {px py qx qy : Int} {ta1 ta2 tb1 tb2 : Tok} {na nb : Nat} {rr : Bool} :
    (hd.heap_39 w.params).In h₀ → Below A₀ base outer h₀ → Top hd.view_39 (looseW hd.view_39 [Str.ofString "Rectangle"]) mean mg mb h₀ → A.frames = some (env :: outer) → env.frame = some L → env.scope.kind = .function → A.depth + 60 < recursionLimit → A.handled = none →
    Fr h₀ L s.heap m → News h₀ L s.heap news →
    (xp, instObj 45 dp) ∈ news → (dp, dictOf (ptEs w.params ka1 ka2 (.int px ta1) (.int py ta2)) na) ∈ news → (xq, instObj 45 dq) ∈ news → (dq, dictOf (ptEs w.params kb1 kb2 (.int qx tb1) (.int qy tb2)) nb) ∈ news →
    decide (px = qx ∧ py = qy) = rr →
    (∀ h' tk, Fr h₀ L h' m → News h₀ L h' news → Q (.bool rr) { s with heap := h', toks := tk }) →
    wpAny (model PySem.Challenge.rw_kx0087_01.row.prog w) A (PySem.call (.ref 35) [.ref xp, .ref xq]) Q E s := by
  k_fill
  intro X B T hA hf hk hroom hh F N hxp hdp hxq hdq hv h
  replace h : ∀ r' h' tk, r' = decide (px = qx ∧ py = qy) → Fr h₀ L h' m → News h₀ L h' news → Q (.bool r') { s with heap := h', toks := tk } := fun r' h' tk e => by subst e; subst hv; exact h h' tk
  k_steps
  all_goals (refine h _ _ _ ?_ (by assumption) (by assumption); first | (apply decide_eq_decide.mpr; omega) | (symm; apply decide_eq_true; omega) | (symm; apply decide_eq_false; omega))
end
section
local macro_rules | `(tactic| walk_at "call ref") => `(tactic| (k_here; (with_reducible show wpAny _ _ (PySem.call (Value.ref 224) _ _) _ _ _); k_dflt ((first | refine' four_call ?X ?B ?T ?hA ?hf ?hk ?hr ?hh ?F ?N ?hl ?hp ?_); (case X => assumption); (case B => assumption); (case T => assumption); (case hA => assumption); (case hf => exact rfl); (case hk => exact rfl); (case hr => k_room); (case hh => assumption); (case F => assumption); (case N => with_reducible assumption); (case hl => k_mem); (case hp => k_mem)); intro b' t1' t2' h' tk' F' N'))
local macro_rules | `(tactic| walk_at "compareOp NotEq ref ref") => `(tactic| (k_here; (with_reducible show wpAny _ _ (compareOp CmpOp.NotEq (Value.ref _) (Value.ref _)) _ _ _); k_dflt ((refine' ne_tup4 ?N ?l1 ?l2 ?hu ?e ?_); (case N => with_reducible assumption); (case l1 => k_mem); (case l2 => k_mem); (case hu => omega); (case e => omega))))
local macro_rules | `(tactic| walk_at "getAttr ref") => `(tactic| (k_here; (with_reducible show wpAny _ _ (getAttr (Value.ref _) (PySem.Str.ofString "corner_bot_l") _) _ _ _); k_dflt ((refine' bot_l_get ?X ?B ?T ?hA ?hf ?hk ?hr ?hh ?F ?N ?a ?b ?_); (case X => assumption); (case B => assumption); (case T => assumption); (case hA => assumption); (case hf => exact rfl); (case hk => exact rfl); (case hr => k_room); (case hh => assumption); (case F => with_reducible assumption); (case N => with_reducible assumption); (case a => k_mem); (case b => k_mem); intro x' d' k1' k2' t1' t2' n' h' tk' F' N')))
local macro_rules | `(tactic| walk_at "call ref") => `(tactic| (k_here; (with_reducible show wpAny _ _ (PySem.call (Value.ref 45) _ _) _ _ _); k_dflt ((refine' point_make ?X ?B ?T ?hA ?hf ?hk ?hr ?hh ?F ?N ?_); (case X => assumption); (case B => assumption); (case T => assumption); (case hA => assumption); (case hf => exact rfl); (case hk => exact rfl); (case hr => k_room); (case hh => assumption); (case F => with_reducible assumption); (case N => with_reducible assumption); skip; intro x' d' k1' k2' t1' t2' n' h' tk' F' N')))
local macro_rules | `(tactic| walk_at "call ref") => `(tactic| (k_here; (with_reducible show wpAny _ _ (PySem.call (Value.ref 35) _ _) _ _ _); k_dflt ((refine' pt_eq ?X ?B ?T ?hA ?hf ?hk ?hr ?hh ?F ?N ?a ?b ?c ?d ?v ?_); (case X => assumption); (case B => assumption); (case T => assumption); (case hA => assumption); (case hf => exact rfl); (case hk => exact rfl); (case hr => k_room); (case hh => assumption); (case F => with_reducible assumption); (case N => with_reducible assumption); (case a => k_mem); (case b => k_mem); (case c => k_mem); (case d => k_mem); (case v => first | exact decide_eq_false (by omega) | exact decide_eq_true (by omega)); intro h' tk' F' N'; (try dsimp only [PySem.W.CmpBack]))))
local macro_rules | `(tactic| k_units) => `(tactic| omega)
set_option maxRecDepth 100000 in
set_option maxHeartbeats 8000000 in
theorem chunk13 {w : World} {A₀ A : Around} {outer : List Env} {base g : Heap} {L : Nat} {m mg mb : Str → Option Value} {mean : ExcName → Option Value} {s : Shared} {E : Value → Shared → Prop} {Q : Flow → Shared → Prop} {r u x1 y1 x2 y2 w1 h1 w2 h2 : Int} {tr tu t1 t2 t3 t4 t5 t6 t7 t8 ta3 ta4 ta5 tb3 tb4 tb5 : Tok} {o1 o2 xa da xb db : Nat} {n1 n2 : Nat} {oR oU oM oY oK : Obj} {ka1 ka2 ka3 ka4 ka5 kb1 kb2 kb3 kb4 kb5 : Tok} {f : Nat} {q1 q2 q3 q4 tf1 tf2 : Tok} {X Y W K : Int} :
    (hd.heap_39 w.params).In g → Below A₀ base outer g → Top hd.view_39 (looseW hd.view_39 [Str.ofString "Rectangle"]) mean mg mb g → A.frames = some (pairEnv L :: outer) → A.depth + 120 < recursionLimit → A.handled = none → A.units + 190 < cLine → oR.data = .cell (some (.int r tr)) → oU.data = .cell (some (.int u tu)) →
    0 ≤ x1 → x1 ≤ 3 → 0 ≤ y1 → y1 ≤ 3 → 0 ≤ x2 → x2 ≤ 3 → 0 ≤ y2 → y2 ≤ 3 → 1 ≤ w1 → w1 ≤ 3 → 1 ≤ h1 → h1 ≤ 3 → 1 ≤ w2 → w2 ≤ 3 → 1 ≤ h2 → h2 ≤ 3 → o1 < L → o2 < L → L + 1 + 1 + 1 + 1 + 1 < da → da < xa → xa < db → db < xb → m (Str.ofString "one") = some (.ref o1) → m (Str.ofString "two") = some (.ref o2) → m (Str.ofString "a") = some (.ref xa) → m (Str.ofString "b") = some (.ref xb) → Fr g L s.heap m → News g L s.heap ((db, dictOf (rectEs w.params kb1 kb2 kb3 kb4 kb5 (.int w2 t7) (.int h2 t8) (.int (r + x2) tb3) (.int (u + y2) tb4) (.int 8 tb5)) 5) :: ((da, dictOf (rectEs w.params ka1 ka2 ka3 ka4 ka5 (.int W q1) (.int K q2) (.int X q3) (.int Y q4) (.int 7 ta5)) 5) :: (f, ({ cls := .type "tuple", data := .seq #[.int (x1 + w1) tf1, .int (y1 + h1) tf2] } : Obj)) :: (xb, instObj 196 db) :: (xa, instObj 196 da) :: (L + 1 + 1, oU) :: (L + 1, oR) :: (o2, ({ cls := .type "tuple", data := .seq #[.int x2 t5, .int y2 t6, .int w2 t7, .int h2 t8] n2 } : Obj)) :: (o1, ({ cls := .type "tuple", data := .seq #[.int x1 t1, .int y1 t2, .int w1 t3, .int h1 t4] n1 } : Obj)) :: [])) → m (Str.ofString "far") = some (.ref f) → f ≠ db → 
    (∀ m' news' h' tk, Fr g L h' m' → News g L h' news' → Q (.ret (.bool true)) { s with heap := h', toks := tk }) →
    wpAny (model PySem.Challenge.rw_kx0087_01.row.prog w) A (execs (pairBody.drop 23) (pairEnv L)) Q E s := by
  k_fill
  intro X B T hA hroom hh hu doR doU b1 b2 b3 b4 b5 b6 b7 b8 b9 b10 b11 b12 b13 b14 b15 b16 lo1 lo2 q1 q2 q3 q4 hm1 hm2 hma hmb F N mF hfd hQ
  dsimp only [pairEnv, pairScope, pairBody, pairDef, nthSt, scopeOf, bodyOf, List.drop, PySem.Challenge.pw_kx0087_01] at *
  repeat' (first | (k_unfold; (try dsimp only)) | ((fail_if_success (with_reducible show wpAny _ _ (execs (Stmt.If _ _ _ _ :: _) _) _ _ _)); first | walk1 | (dsimp only; walk1)))
  show wpAny _ _ _ _ _ _
  (try dsimp only)
  repeat' (first | (k_unfold; (try dsimp only)) | ((fail_if_success (with_reducible show wpAny _ _ (execs (Stmt.Return _ _ :: _) _) _ _ _)); first | walk1 | (dsimp only; walk1)))
  repeat' (first | (k_unfold; (try dsimp only)) | walk1 | (dsimp only; walk1))
  all_goals exact hQ _ _ _ _ (by with_reducible assumption) (by with_reducible assumption)
end
section
theorem len_sq {vs : List Value} {F : Value → (Int × Int) → Prop} {x y w h : Int} (P : Paired F vs (sq x y w.toNat h.toNat)) : vs.length = w.toNat * h.toNat := P.length.trans (sq_length _ _ _ _)
theorem mul_le {a b c d n : Nat} (h1 : a ≤ c) (h2 : b ≤ d) (h : c * d ≤ n) : a * b ≤ n := Nat.le_trans (Nat.mul_le_mul h1 h2) h
theorem filt_len {α β : Type} {F : α → β → Prop} {vs : List α} {ps : List β} {q : β → Bool} (P : Paired F vs (ps.filter q)) : vs.length ≤ ps.length := by
  rw [P.length]
  exact List.length_filter_le _ _
theorem obj_ne {g h : Heap} {L : Addr} {news : List (Addr × Obj)} (N : News g L h news) {a b : Addr} {o o' : Obj} (ha : (a, o) ∈ news) (hb : (b, o') ∈ news) (hne : o ≠ o') : a ≠ b := fun e => by
  subst e
  exact hne (Option.some.inj ((N.get ha).symm.trans (N.get hb)))
set_option maxRecDepth 100000 in
set_option maxHeartbeats 8000000 in
theorem pair_body {w : World} {A₀ A : Around} {outer : List Env} {base g : Heap} {L : Nat} {m mg mb : Str → Option Value} {mean : ExcName → Option Value} {s : Shared} {E : Value → Shared → Prop} {Q : Flow → Shared → Prop} {r u x1 y1 x2 y2 w1 h1 w2 h2 : Int} {tr tu t1 t2 t3 t4 t5 t6 t7 t8 ta3 ta4 ta5 tb3 tb4 tb5 : Tok} {o1 o2 xa da xb db : Nat} {n1 n2 : Nat} {oR oU oM oY oK : Obj} {ka1 ka2 ka3 ka4 ka5 kb1 kb2 kb3 kb4 kb5 : Tok} :
    (hd.heap_39 w.params).In g → Below A₀ base outer g → Top hd.view_39 (looseW hd.view_39 [Str.ofString "Rectangle"]) mean mg mb g → A.frames = some (pairEnv L :: outer) → A.depth + 120 < recursionLimit → A.handled = none → A.units + 190 < cLine → oR.data = .cell (some (.int r tr)) → oU.data = .cell (some (.int u tu)) →
    0 ≤ x1 → x1 ≤ 3 → 0 ≤ y1 → y1 ≤ 3 → 0 ≤ x2 → x2 ≤ 3 → 0 ≤ y2 → y2 ≤ 3 → 1 ≤ w1 → w1 ≤ 3 → 1 ≤ h1 → h1 ≤ 3 → 1 ≤ w2 → w2 ≤ 3 → 1 ≤ h2 → h2 ≤ 3 → o1 < L → o2 < L → L + 1 + 1 + 1 + 1 + 1 < da → da < xa → xa < db → db < xb → m (Str.ofString "one") = some (.ref o1) → m (Str.ofString "two") = some (.ref o2) → m (Str.ofString "a") = some (.ref xa) → m (Str.ofString "b") = some (.ref xb) → Fr g L s.heap m → News g L s.heap ((xb, instObj 196 db) :: (db, dictOf (rectEs w.params kb1 kb2 kb3 kb4 kb5 (.int w2 t7) (.int h2 t8) (.int (r + x2) tb3) (.int (u + y2) tb4) (.int 8 tb5)) 5) :: (xa, instObj 196 da) :: (da, dictOf (rectEs w.params ka1 ka2 ka3 ka4 ka5 (.int w1 t3) (.int h1 t4) (.int (r + x1) ta3) (.int (u + y1) ta4) (.int 7 ta5)) 5) :: (L + 1 + 1 + 1 + 1 + 1, oK) :: (L + 1 + 1 + 1 + 1, oY) :: (L + 1 + 1 + 1, oM) :: (L + 1 + 1, oU) :: (L + 1, oR) :: (o2, ({ cls := .type "tuple", data := .seq #[.int x2 t5, .int y2 t6, .int w2 t7, .int h2 t8] n2 } : Obj)) :: (o1, ({ cls := .type "tuple", data := .seq #[.int x1 t1, .int y1 t2, .int w1 t3, .int h1 t4] n1 } : Obj)) :: []) → oM.data = .cell none → oY.data = .cell none → oK.data = .cell none →
    (∀ m' news' h' tk, Fr g L h' m' → News g L h' news' → Q (.ret (.bool true)) { s with heap := h', toks := tk, gens := s.gens.push .finished }) →
    wpAny (model PySem.Challenge.rw_kx0087_01.row.prog w) A (execs (pairBody.drop 2) (pairEnv L)) Q E s := by
  intro X B T hA hroom hh hu doR doU b1 b2 b3 b4 b5 b6 b7 b8 b9 b10 b11 b12 b13 b14 b15 b16 lo1 lo2 q1 q2 q3 q4 hm1 hm2 hma hmb F N dM dY dK hQ
  have zz : 18 ≤ sizeLine := by decide
  have zz9 : 9 ≤ sizeLine := by decide
  have zz16 : 16 ≤ sizeLine := by decide
  refine chunk1 X B T hA hroom hh hu doR doU b1 b2 b3 b4 b5 b6 b7 b8 b9 b10 b11 b12 b13 b14 b15 b16 lo1 lo2 q1 q2 q3 q4 hm1 hm2 hma hmb F N dM dY dK ?_
  clear F N dM dY dK
  intro D1 D2 D3 D4 ys1 ys2 ys3 ys4 tl oM oY oK h1_ tk1 N F dM dY dK P1 P2 P3 P4 hlow l1 l2 l3 l4
  have z1 : ys1.length ≤ 9 := by rw [len_sq P1]; exact mul_le (c := 3) (d := 3) (by omega) (by omega) (by omega)
  have z2 : ys2.length ≤ 9 := by rw [len_sq P2]; exact mul_le (c := 3) (d := 3) (by omega) (by omega) (by omega)
  have z3 : ys3.length ≤ 16 := by rw [len_sq P3]; exact mul_le (c := 4) (d := 4) (by omega) (by omega) (by omega)
  have mP : (fun y => if y = Str.ofString "points" then some (Value.ref D3) else m y) (Str.ofString "points") = some (.ref D3) := if_pos rfl
  have hm1' : (fun y => if y = Str.ofString "points" then some (Value.ref D3) else m y) (Str.ofString "one") = some (.ref o1) := (if_neg (by decide)).trans hm1
  have hm2' : (fun y => if y = Str.ofString "points" then some (Value.ref D3) else m y) (Str.ofString "two") = some (.ref o2) := (if_neg (by decide)).trans hm2
  have hma' : (fun y => if y = Str.ofString "points" then some (Value.ref D3) else m y) (Str.ofString "a") = some (.ref xa) := (if_neg (by decide)).trans hma
  have hmb' : (fun y => if y = Str.ofString "points" then some (Value.ref D3) else m y) (Str.ofString "b") = some (.ref xb) := (if_neg (by decide)).trans hmb
  clear hm1 hm2 hma hmb
  revert F mP hm1' hm2' hma' hmb'
  generalize (fun y => if y = Str.ofString "points" then some (Value.ref D3) else m y) = m1
  intro F mP hm1 hm2 hma hmb
  refine chunk2 X B T hA hroom hh hu doR doU b1 b2 b3 b4 b5 b6 b7 b8 b9 b10 b11 b12 b13 b14 b15 b16 lo1 lo2 q1 q2 q3 q4 hm1 hm2 hma hmb F N mP dM dY dK P1 P2 P3 P4 (Nat.le_trans z1 zz9) (Nat.le_trans z3 zz16) ?_
  clear F N mP hm1 hm2 hma hmb
  intro D5 D6 ys5 ys6 k5 k6 m2 h2_ tk2 N F hm1 hm2 hma hmb mP mB mT P5 P6 n1_ n2_ n3_ n4_
  have z5 : ys5.length ≤ 9 := Nat.le_trans (filt_len P5) (by rw [← P1.length]; exact z1)
  have z6 : ys6.length ≤ 16 := Nat.le_trans (filt_len P6) (by rw [← P3.length]; exact z3)
  refine chunk3 X B T hA hroom hh hu doR doU b1 b2 b3 b4 b5 b6 b7 b8 b9 b10 b11 b12 b13 b14 b15 b16 lo1 lo2 q1 q2 q3 q4 hm1 hm2 hma hmb F N mP mB mT dM dY dK P2 P5 P6 (Nat.le_trans z2 zz9) (Nat.le_trans z5 zz9) ?_ (meets_eq b9 b11 b13 b15) (touch_eq b9 b11 b13 b15) ?_
  · rw [P5.length, P2.length]
    exact contains_eq b9 b11 b13 b15
  clear F N
  intro h3_ tk3 N F
  refine chunk4 X B T hA hroom hh hu doR doU b1 b2 b3 b4 b5 b6 b7 b8 b9 b10 b11 b12 b13 b14 b15 b16 lo1 lo2 q1 q2 q3 q4 hm1 hm2 hma hmb F N mP mB mT dM dY dK P5 (Nat.le_trans z5 zz9) (meets_eq b9 b11 b13 b15) (box_both b9 b11 b13 b15) ?_
  clear F N mP mB mT hm1 hm2 hma hmb
  intro m4 h4_ tk4 N F hm1 hm2 hma hmb mP mB mT
  refine chunk5 X B T hA hroom hh hu doR doU b1 b2 b3 b4 b5 b6 b7 b8 b9 b10 b11 b12 b13 b14 b15 b16 lo1 lo2 q1 q2 q3 q4 hm1 hm2 hma hmb F N mP mB mT dM dY dK P6 (Nat.le_trans z6 zz16) (touch_eq b9 b11 b13 b15) (box_touch b9 b11 b13 b15) ?_
  clear F N mP mB mT hm1 hm2 hma hmb
  intro m5 h5_ tk5 N F hm1 hm2 hma hmb mP mB mT
  refine chunk6 X B T hA hroom hh hu doR doU b1 b2 b3 b4 b5 b6 b7 b8 b9 b10 b11 b12 b13 b14 b15 b16 lo1 lo2 q1 q2 q3 q4 hm1 hm2 hma hmb F N dM dY P1 P2 (Nat.le_trans z1 zz9) (Nat.le_trans z2 zz9) (eq_eq b9 b11 b13 b15) ?_ ?_ ?_
  · rw [P1.length, P2.length]
    exact lt_eq b9 b11 b13 b15
  · rw [P1.length]
    exact area_eq b9 b11
  clear F N
  intro h6_ tk6 N F
  have e3 : ys3.length = (w1.toNat + 1) * (h1.toNat + 1) := by rw [len_sq P3, show (w1 + 1).toNat = w1.toNat + 1 by omega, show (h1 + 1).toNat = h1.toNat + 1 by omega]
  have p3 : 0 < ys3.length := by rw [e3]; exact Nat.mul_pos (Nat.succ_pos _) (Nat.succ_pos _)
  rw [show (w1 + 1).toNat = w1.toNat + 1 by omega, show (h1 + 1).toNat = h1.toNat + 1 by omega] at P3
  obtain ⟨vf, gf, f, tf1, tf2, rfl, mf⟩ := paired_get P3 (ys3.length - 1) _ (by rw [P3.length]; exact sq_last)
  obtain ⟨v0, g0, f0, tg1, tg2, rfl, mg⟩ := paired_get P3 0 _ (sq_first (Nat.succ_pos _) (Nat.succ_pos _))
  simp only [Int.toNat_of_nonneg (show 0 ≤ w1 by omega), Int.toNat_of_nonneg (show 0 ≤ h1 by omega)] at mf
  have lf : @LT.lt Nat instLTNat xb f := hlow _ mf
  refine chunk7 X B T hA hroom hh hu doR doU b1 b2 b3 b4 b5 b6 b7 b8 b9 b10 b11 b12 b13 b14 b15 b16 lo1 lo2 q1 q2 q3 q4 hm1 hm2 hma hmb F N mP (seq_last p3) gf mf ?_
  clear F N mP mB mT hm1 hm2 hma hmb
  intro D7 ys7 tl7 m7 h7_ tk7 N F P7 hm1 hm2 hma hmb mP mF mC
  have N8 := led8 N
  refine chunk8 (tl := tl7 ++ tl) X B T hA hroom hh hu doR doU b1 b2 b3 b4 b5 b6 b7 b8 b9 b10 b11 b12 b13 b14 b15 b16 lo1 lo2 q1 q2 q3 q4 hm1 hm2 hma hmb F N8 mP mF mC g0 (List.mem_append.mpr (.inr mf)) (List.mem_append.mpr (.inr mg)) (paired_up P7 fun p hp => List.mem_append.mpr (.inl hp)) ?_
  clear F N N8
  intro h8_ tk8 N F
  have N9 := led9 N
  refine chunk9 (tl := tl7 ++ tl) X B T hA hroom hh hu doR doU b1 b2 b3 b4 b5 b6 b7 b8 b9 b10 b11 b12 b13 b14 b15 b16 lo1 lo2 q1 q2 q3 q4 hm1 hm2 hma hmb F N9 mF (List.mem_append.mpr (.inr mf)) ?_
  clear F N N9 mP mF mC hm1 hm2 hma hmb
  intro m9 h9_ tk9 N F hm1 hm2 hma hmb mF
  refine chunk10 (tl := tl7 ++ tl) X B T hA hroom hh hu doR doU b1 b2 b3 b4 b5 b6 b7 b8 b9 b10 b11 b12 b13 b14 b15 b16 lo1 lo2 q1 q2 q3 q4 hm1 hm2 hma hmb F N mF dM dY (paired_up P1 fun p hp => List.mem_append.mpr (.inr hp)) (paired_up P2 fun p hp => List.mem_append.mpr (.inr hp)) (by omega) ?_
  clear F N mF hm1 hm2 hma hmb
  intro DU ysU m10 h10_ tk10 N F PU hm1 hm2 hma hmb mF mU
  have zU : ysU.length ≤ 18 := by
    rw [PU.length, List.length_append, ← P1.length]
    have := List.length_filter_le (fun p => !decide (p ∈ sq x1 y1 w1.toNat h1.toNat)) (sq x2 y2 w2.toNat h2.toNat)
    rw [← P2.length] at this
    omega
  have hbox := box_union (x1 := x1) (y1 := y1) (x2 := x2) (y2 := y2) (n1 := w1.toNat) (k1 := h1.toNat) (n2 := w2.toNat) (k2 := h2.toNat) (by omega) (by omega) (by omega) (by omega)
  rw [Int.toNat_of_nonneg (show 0 ≤ w1 by omega), Int.toNat_of_nonneg (show 0 ≤ h1 by omega), Int.toNat_of_nonneg (show 0 ≤ w2 by omega), Int.toNat_of_nonneg (show 0 ≤ h2 by omega)] at hbox
  have pU : 0 < (sq x1 y1 w1.toNat h1.toNat ++ (sq x2 y2 w2.toNat h2.toNat).filter (fun p => !decide (p ∈ sq x1 y1 w1.toNat h1.toNat))).length := by
    rw [List.length_append, sq_length]
    exact Nat.lt_of_lt_of_le (Nat.mul_pos (show 0 < w1.toNat by omega) (show 0 < h1.toNat by omega)) (Nat.le_add_right _ _)
  have N11 := led11 N
  refine chunk11 (tl := tl7 ++ tl) X B T hA hroom hh hu doR doU b1 b2 b3 b4 b5 b6 b7 b8 b9 b10 b11 b12 b13 b14 b15 b16 lo1 lo2 q1 q2 q3 q4 hm1 hm2 hma hmb F N11 mF mU PU pU (Nat.le_trans zU zz) hbox (by omega) (by omega) ?_
  clear F N N11 mF mU hm1 hm2 hma hmb
  intro bx k1 k2 k3 k4 m11 h11_ tk11 N F hm1 hm2 hma hmb mF mX mW
  rw [PU.length] at mW
  have N12 := led12 N (f := (f, tupO (x1 + w1) tf1 (y1 + h1) tf2)) (List.mem_append.mpr (.inr mf))
  have nbx : bx ≠ da := obj_ne N12 (List.mem_cons_of_mem _ List.mem_cons_self) List.mem_cons_self (fun e => by first | (simp [tup4, dictOf] at e; done) | (injection e with e1 e2; exact absurd e1 (by decide)))
  have hne : ∀ p ∈ ((bx, tup4 (min x1 x2) (min y1 y2) (max (x1 + w1) (x2 + w2) - min x1 x2) (max (y1 + h1) (y2 + h2) - min y1 y2) k1 k2 k3 k4) :: (f, ({ cls := .type "tuple", data := .seq #[.int (x1 + w1) tf1, .int (y1 + h1) tf2] } : Obj)) :: (xb, instObj 196 db) :: (db, dictOf (rectEs w.params kb1 kb2 kb3 kb4 kb5 (.int w2 t7) (.int h2 t8) (.int (r + x2) tb3) (.int (u + y2) tb4) (.int 8 tb5)) 5) :: (xa, instObj 196 da) :: (L + 1 + 1, oU) :: (L + 1, oR) :: (o2, ({ cls := .type "tuple", data := .seq #[.int x2 t5, .int y2 t6, .int w2 t7, .int h2 t8] n2 } : Obj)) :: (o1, ({ cls := .type "tuple", data := .seq #[.int x1 t1, .int y1 t2, .int w1 t3, .int h1 t4] n1 } : Obj)) :: []), p.1 ≠ da := by
    exact off12 nbx (Nat.ne_of_gt (Nat.lt_trans (Nat.lt_trans (Nat.lt_trans q2 q3) q4) lf)) (Nat.ne_of_gt (Nat.lt_trans (Nat.lt_trans q2 q3) q4)) (Nat.ne_of_gt (Nat.lt_trans q2 q3)) (Nat.ne_of_gt q2) (Nat.ne_of_lt (by omega)) (Nat.ne_of_lt (by omega)) (Nat.ne_of_lt (by omega)) (Nat.ne_of_lt (by omega))
  cases hw : decide ((max (x1 + w1) (x2 + w2) - min x1 x2) * (max (y1 + h1) (y2 + h2) - min y1 y2) = ((sq x1 y1 w1.toNat h1.toNat ++ (sq x2 y2 w2.toNat h2.toNat).filter (fun p => !decide (p ∈ sq x1 y1 w1.toNat h1.toNat))).length : Int)) with
  | true =>
    rw [hw] at mW
    obtain ⟨X', Y', W', K', hj, hT, -⟩ := join_fit (r := r) (u := u) b1 b2 b3 b4 b5 b6 b7 b8 b9 b10 b11 b12 b13 b14 b15 b16 hw
    obtain ⟨v1, v2, v3, v4⟩ := hT rfl
    refine chunk12T (oM := oM) (oY := oY) (oK := oK) X B T hA hroom hh hu doR doU b1 b2 b3 b4 b5 b6 b7 b8 b9 b10 b11 b12 b13 b14 b15 b16 lo1 lo2 q1 q2 q3 q4 hm1 hm2 hma hmb F N12 mF mX mW hne hj v1 v2 v3 v4 ?_
    intro q1_ q2_ q3_ q4_ h12_ tk12 N F
    exact chunk13 (ta3 := ta3) (ta4 := ta4) (oM := oM) (oY := oY) (oK := oK) X B T hA hroom hh hu doR doU b1 b2 b3 b4 b5 b6 b7 b8 b9 b10 b11 b12 b13 b14 b15 b16 lo1 lo2 q1 q2 q3 q4 hm1 hm2 hma hmb F (led13 N) mF (Nat.ne_of_gt (Nat.lt_trans q4 lf)) (fun m' news' h' tk F' N' => hQ m' news' h' tk F' N')
  | false =>
    rw [hw] at mW
    obtain ⟨X', Y', W', K', hj, -, hF⟩ := join_fit (r := r) (u := u) b1 b2 b3 b4 b5 b6 b7 b8 b9 b10 b11 b12 b13 b14 b15 b16 hw
    obtain ⟨v1, v2, v3, v4⟩ := hF rfl
    refine chunk12F (oM := oM) (oY := oY) (oK := oK) X B T hA hroom hh hu doR doU b1 b2 b3 b4 b5 b6 b7 b8 b9 b10 b11 b12 b13 b14 b15 b16 lo1 lo2 q1 q2 q3 q4 hm1 hm2 hma hmb F N12 mF mX mW hne hj v1 v2 v3 v4 ?_
    intro q1_ q2_ q3_ q4_ h12_ tk12 N F
    exact chunk13 (ta3 := ta3) (ta4 := ta4) (oM := oM) (oY := oY) (oK := oK) X B T hA hroom hh hu doR doU b1 b2 b3 b4 b5 b6 b7 b8 b9 b10 b11 b12 b13 b14 b15 b16 lo1 lo2 q1 q2 q3 q4 hm1 hm2 hma hmb F (led13 N) mF (Nat.ne_of_gt (Nat.lt_trans q4 lf)) (fun m' news' h' tk F' N' => hQ m' news' h' tk F' N')
end
section
set_option maxRecDepth 100000 in
set_option maxHeartbeats 8000000 in
theorem chunk0 {w : World} {A₀ A : Around} {outer : List Env} {base g : Heap} {L : Nat} {m mg mb : Str → Option Value} {mean : ExcName → Option Value} {s : Shared} {E : Value → Shared → Prop} {Q : Flow → Shared → Prop} {r u x1 y1 x2 y2 w1 h1 w2 h2 : Int} {tr tu t1 t2 t3 t4 t5 t6 t7 t8 : Tok} {o1 o2 : Nat} {n1 n2 : Nat} {oR oU oM oY oK : Obj} :
    (hd.heap_39 w.params).In g → Below A₀ base outer g → Top hd.view_39 (looseW hd.view_39 [Str.ofString "Rectangle"]) mean mg mb g → A.frames = some (pairEnv L :: outer) → A.depth + 120 < recursionLimit → A.handled = none → A.units + 190 < cLine → oR.data = .cell (some (.int r tr)) → oU.data = .cell (some (.int u tu)) → 1 ≤ w1 → 1 ≤ h1 → 1 ≤ w2 → 1 ≤ h2 →
    m (Str.ofString "one") = some (.ref o1) → m (Str.ofString "two") = some (.ref o2) → Fr g L s.heap m →
    News g L s.heap ((L + 1 + 1 + 1 + 1 + 1, oK) :: (L + 1 + 1 + 1 + 1, oY) :: (L + 1 + 1 + 1, oM) :: (L + 1 + 1, oU) :: (L + 1, oR) :: (o2, ({ cls := .type "tuple", data := .seq #[.int x2 t5, .int y2 t6, .int w2 t7, .int h2 t8] n2 } : Obj)) :: (o1, ({ cls := .type "tuple", data := .seq #[.int x1 t1, .int y1 t2, .int w1 t3, .int h1 t4] n1 } : Obj)) :: []) →
    (∀ (xa da xb db : Nat) (ka1 ka2 ka3 ka4 ka5 kb1 kb2 kb3 kb4 kb5 ta3 ta4 ta5 tb3 tb4 tb5 : Tok) m' h' tk, Fr g L h' m' → News g L h' ((xb, instObj 196 db) :: (db, dictOf (rectEs w.params kb1 kb2 kb3 kb4 kb5 (.int w2 t7) (.int h2 t8) (.int (r + x2) tb3) (.int (u + y2) tb4) (.int 8 tb5)) 5) :: (xa, instObj 196 da) :: (da, dictOf (rectEs w.params ka1 ka2 ka3 ka4 ka5 (.int w1 t3) (.int h1 t4) (.int (r + x1) ta3) (.int (u + y1) ta4) (.int 7 ta5)) 5) :: (L + 1 + 1 + 1 + 1 + 1, oK) :: (L + 1 + 1 + 1 + 1, oY) :: (L + 1 + 1 + 1, oM) :: (L + 1 + 1, oU) :: (L + 1, oR) :: (o2, ({ cls := .type "tuple", data := .seq #[.int x2 t5, .int y2 t6, .int w2 t7, .int h2 t8] n2 } : Obj)) :: (o1, ({ cls := .type "tuple", data := .seq #[.int x1 t1, .int y1 t2, .int w1 t3, .int h1 t4] n1 } : Obj)) :: []) → L + 1 + 1 + 1 + 1 + 1 < da → da < xa → xa < db → db < xb → m' (Str.ofString "one") = some (.ref o1) → m' (Str.ofString "two") = some (.ref o2) → m' (Str.ofString "a") = some (.ref xa) → m' (Str.ofString "b") = some (.ref xb) →
      wpAny (model PySem.Challenge.rw_kx0087_01.row.prog w) A (execs (pairBody.drop 2) (pairEnv L)) Q E { s with heap := h', toks := tk }) →
    wpAny (model PySem.Challenge.rw_kx0087_01.row.prog w) A (execs (pairBody.drop 0) (pairEnv L)) Q E s := by
  k_fill
  intro X B T hA hroom hh hu doR doU b1 b2 b3 b4 hm1 hm2 F N hQ
  dsimp only [pairEnv, pairScope, pairBody, pairDef, nthSt, scopeOf, bodyOf, List.drop, PySem.Challenge.pw_kx0087_01] at *
  repeat' (first | (k_unfold; (try dsimp only)) | ((fail_if_success (with_reducible show wpAny _ _ (execs (Stmt.Assign [Expr.Name (PySem.Str.ofString "mine") _] _ _ :: _) _) _ _ _)); first | walk1 | (dsimp only; walk1)))
  with_reducible rename ∀ p ∈ _, _ < _ => a2
  k_lt a2
  with_reducible rename ∀ p ∈ _, _ < _ => a1
  k_lt a1
  with_reducible rename News _ _ _ _ => NN
  with_reducible rename Fr _ _ _ _ => FF
  refine' hQ ?_ ?_ ?_ ?_ ?_ ?_ ?_ ?_ ?_ ?_ ?_ ?_ ?_ ?_ ?_ ?_ ?_ ?_ ?_ ?_ ?_ ?_ ?_ ?ff ?nn ?l1 ?l2 ?l3 ?l4 ?e1 ?e2 ?e3 ?e4
  case ff => exact FF
  case nn => exact NN
  case e1 => exact hm1
  case e2 => exact hm2
  case e3 => rfl
  case e4 => rfl
  all_goals omega
end
section
local macro_rules | `(tactic| walk_at "idle 0") => `(tactic| skip)
set_option maxRecDepth 100000 in
set_option maxHeartbeats 8000000 in
theorem pair_call {w : World} {A₀ A : Around} {env : Env} {outer : List Env} {base h₀ : Heap} {L : Addr} {m mg mb : Str → Option Value} {mean : ExcName → Option Value} {news : List (Addr × Obj)} {s : Shared} {E : Value → Shared → Prop} {Q : Value → Shared → Prop} {r u x1 y1 x2 y2 w1 h1 w2 h2 : Int} {tr tu t1 t2 t3 t4 t5 t6 t7 t8 : Tok} {o1 o2 n1 n2 : Nat} :
    (hd.heap_39 w.params).In h₀ → Below A₀ base outer h₀ → Top hd.view_39 (looseW hd.view_39 [Str.ofString "Rectangle"]) mean mg mb h₀ → A.frames = some (env :: outer) → env.frame = some L → env.scope.kind = .function → A.depth + 150 < recursionLimit → A.handled = none → A.units + 200 < cLine →
    Fr h₀ L s.heap m → News h₀ L s.heap news →
    (o1, ({ cls := .type "tuple", data := .seq #[.int x1 t1, .int y1 t2, .int w1 t3, .int h1 t4] n1 } : Obj)) ∈ news → (o2, ({ cls := .type "tuple", data := .seq #[.int x2 t5, .int y2 t6, .int w2 t7, .int h2 t8] n2 } : Obj)) ∈ news →
    0 ≤ x1 → x1 ≤ 3 → 0 ≤ y1 → y1 ≤ 3 → 0 ≤ x2 → x2 ≤ 3 → 0 ≤ y2 → y2 ≤ 3 → 1 ≤ w1 → w1 ≤ 3 → 1 ≤ h1 → h1 ≤ 3 → 1 ≤ w2 → w2 ≤ 3 → 1 ≤ h2 → h2 ≤ 3 →
    (∀ h' tk, Fr h₀ L h' m → Q (.bool true) { s with heap := h', toks := tk, gens := s.gens.push .finished }) →
    wpAny (model PySem.Challenge.rw_kx0087_01.row.prog w) A (PySem.call (.ref 229) [.int r tr, .int u tu, .ref o1, .ref o2]) Q E s := by
  k_fill
  intro X B T hA hf hk hroom hh hu F N ho1 ho2 b1 b2 b3 b4 b5 b6 b7 b8 b9 b10 b11 b12 b13 b14 b15 b16 hQ
  repeat' (first | (k_unfold; (try dsimp only)) | ((fail_if_success (with_reducible show wpAny _ _ (execs (Stmt.Assign [Expr.Name (PySem.Str.ofString "a") _] _ _ :: _) _) _ _ _)); first | walk1 | (dsimp only; walk1)))
  rename_i g' L' h1_ tk1 FG F1 B1 X1 T1 l1 oK oY oM oU oR d5 d4 d3 d2 d1 N1
  have lo1 : @LT.lt Nat instLTNat o1 L' := l1 _ ho1
  have lo2 : @LT.lt Nat instLTNat o2 L' := l1 _ ho2
  have hA' : (A.deeper (pairEnv L')).frames = some (pairEnv L' :: env :: outer) := congrArg (Option.map (_ :: ·)) hA
  have hroom' : (A.deeper (pairEnv L')).depth + 120 < recursionLimit := by
    simp only [depth_deeper]
    omega
  have dR : oR.data = .cell (some (.int r tr)) := d1
  have dU : oU.data = .cell (some (.int u tu)) := d2
  have dM : oM.data = .cell none := d3
  have dY : oY.data = .cell none := d4
  have dK : oK.data = .cell none := d5
  clear d1 d2 d3 d4 d5
  have N2 : News g' L' h1_ ((L' + 1 + 1 + 1 + 1 + 1, oK) :: (L' + 1 + 1 + 1 + 1, oY) :: (L' + 1 + 1 + 1, oM) :: (L' + 1 + 1, oU) :: (L' + 1, oR) :: (o2, ({ cls := .type "tuple", data := .seq #[.int x2 t5, .int y2 t6, .int w2 t7, .int h2 t8] n2 } : Obj)) :: (o1, ({ cls := .type "tuple", data := .seq #[.int x1 t1, .int y1 t2, .int w1 t3, .int h1 t4] n1 } : Obj)) :: []) := by
    refine news_sub N1 fun p hp => ?_
    simp only [List.mem_cons, List.not_mem_nil, or_false] at hp
    rcases hp with rfl | rfl | rfl | rfl | rfl | rfl | rfl
    all_goals (repeat (first | with_reducible exact List.mem_cons_self | with_reducible exact ho1 | with_reducible exact ho2 | refine List.mem_cons_of_mem _ ?_))
  revert F1
  generalize hm : (bindL _ _ _) = m1
  intro F1
  have hm1 : m1 (Str.ofString "one") = some (.ref o1) := by rw [← hm]; rfl
  have hm2 : m1 (Str.ofString "two") = some (.ref o2) := by rw [← hm]; rfl
  clear hm N1
  refine chunk0 X1 B1 T1 hA' hroom' hh (by show A.units + 3 + 190 < cLine; omega) dR dU b9 b11 b13 b15 hm1 hm2 F1 N2 ?_
  intro xa da xb db ka1 ka2 ka3 ka4 ka5 kb1 kb2 kb3 kb4 kb5 ta3 ta4 ta5 tb3 tb4 tb5 m2 h2_ tk2 F2 N3 q1 q2 q3 q4 hm1 hm2 hma hmb
  refine pair_body X1 B1 T1 hA' hroom' hh (by show A.units + 3 + 190 < cLine; omega) dR dU b1 b2 b3 b4 b5 b6 b7 b8 b9 b10 b11 b12 b13 b14 b15 b16 lo1 lo2 q1 q2 q3 q4 hm1 hm2 hma hmb F2 N3 dM dY dK ?_
  intro m3 news3 h3_ tk3 F3 N4
  refine leaveK_ F3 N4 ?_
  intro kF _
  exact hQ _ _ kF
end
section
set_option maxRecDepth 100000 in
set_option maxHeartbeats 8000000 in
theorem law_at {w : World} {A₀ A : Around} {env : Env} {outer : List Env} {base h₀ : Heap} {L : Addr} {m mg mb : Str → Option Value} {mean : ExcName → Option Value} {news : List (Addr × Obj)} {s : Shared} {E : Value → Shared → Prop} {Q : Value → Shared → Prop} {l : Addr} {vs : List Value} {xs : List Int} {k d : Int} {t1 t2 : Tok} :
    (hd.heap_39 w.params).In h₀ → Below A₀ base outer h₀ → Top hd.view_39 (looseW hd.view_39 [Str.ofString "Rectangle"]) mean mg mb h₀ → A.frames = some (env :: outer) → env.frame = some L → env.scope.kind = .function → A.depth + 20 < recursionLimit → A.handled = none →
    Fr h₀ L s.heap m → News h₀ L s.heap news →
    base.IsList l vs.toArray → IntsAre vs xs → ¬ ((63 : Int) < (xs.length : Int)) → 0 ≤ k → k ≤ 10 →
    (∀ v t h' tk, Fr h₀ L h' m → News h₀ L h' news → Q (.int v t) { s with heap := h', toks := tk }) →
    wpAny (model PySem.Challenge.rw_kx0087_01.row.prog w) A (PySem.call (.ref 207) [.ref l, .int k t1, .int d t2]) Q E s := by
  k_fill
  intro X B T hA hf hk hroom hh F N hL hI hn hk0 hk1 hQ
  k_steps
  all_goals exact hQ _ _ _ _ (by assumption) (by assumption)
end
section
local macro_rules | `(tactic| walk_at "idle 0") => `(tactic| skip)
theorem goodWG_true {c : ClaimW} {cl : Str → Option Addr} {mean : ExcName → Option Value} {args : List WData} {s₁ s' : Shared} {L : Addr} {m : Str → Option Value} {b : Bool} (F : Fr s₁.heap L s'.heap m) (hg : AllBare s'.gens) (hn : ∀ cls, c.raises args cls = false) (hp : c.post args (.bool b) args = true) (hos : s'.os = s₁.os) : GoodWG c cl mean args s₁ (.ok (.ret (.bool b))) s' :=
  ⟨.inl ⟨.bool b, .bool b, [], rfl, hn, .bool b, hp, unshared_nil⟩, .of_keep F.keep, hos, hg⟩
theorem law_post (xs : List Int) : PySem.Challenge.rw_kx0087_01.row.claim.post [ofPy (PyData.list (List.map PyData.int xs))] (.bool true) [ofPy (PyData.list (List.map PyData.int xs))] = true := by
  exact postW_of (by wrow_shape) (by wtm_val) (by w_fin)
theorem fmod4 (n : Int) : 0 ≤ n.fmod 4 ∧ n.fmod 4 ≤ 3 := ⟨Int.fmod_nonneg_of_pos _ (by decide), Int.le_of_lt_add_one (Int.fmod_lt_of_pos _ (by decide))⟩
theorem fmod3 (n : Int) : 1 ≤ 1 + n.fmod 3 ∧ 1 + n.fmod 3 ≤ 3 := by
  have h1 := Int.fmod_nonneg_of_pos n (show (0 : Int) < 3 by decide)
  have h2 := Int.fmod_lt_of_pos n (show (0 : Int) < 3 by decide)
  omega
local macro_rules | `(tactic| walk_at "eval Call") => `(tactic| ((with_reducible show wpAny _ _ (eval (Expr.Call (Expr.Name (PySem.Str.ofString "_law_at") _) _ _ _) _) _ _ _); k_dflt (refine Call_ ?_)))
local macro_rules | `(tactic| walk_at "call ref") => `(tactic| (k_here; (with_reducible show wpAny _ _ (PySem.call (Value.ref 207) _ _) _ _ _); k_dflt ((refine' law_at ?X ?B ?T ?hA ?hf ?hk ?hr ?hh ?F ?N ?l ?i ?n ?p ?q ?_); (case F | N | X | B | T => assumption); (case hA | hf | hk | hh => exact rfl); (case hr => k_room); (case l | i => assumption); (case n => assumption); (case p | q => omega)); intro v' t' h' tk' F' N'))
local macro_rules | `(tactic| walk_at "call builtin:list.append") => `(tactic| (k_here; (show wpAny _ _ (PySem.call (Value.builtin "list.append") [Value.ref _, Value.ref _]) _ _ _); k_dflt (refine' append_K ?k1 ?k2 ?k3 ?_ ?z; (case k1 => k_asm); (case k2 => k_asm); (case k3 => k_upd); (case z => size_fits); k_whole); intro h' F' N'; (try k_sweep)))
set_option maxRecDepth 100000 in
set_option maxHeartbeats 8000000 in
theorem law_holds : PySem.Challenge.rw_kx0087_01.Holds := by
  refine Mine.hd ?_
  k_fill
  intro w s₀ s₁ mg mb G Y fa o pm cd doc dV kV ho hdd hcd hD hmg hg args vals as hpre hlay hrd hwl hlo
  have KX := kIn_of Y
  have X := (Ground.X G).1
  have V := (Ground.X G).2
  w_nolog (first | (have GL := glob_more (Ground.glob G (by first | k_qdec | decide +kernel) (by first | k_qdec | decide +kernel)) V) | (have GL := glob_more (Ground.glob G (by decide +kernel)) V))
  refine Ground.open G ?_
  intro T B D TE TW
  try (refine guard_noD D (by decide +kernel) ?_; clear D)
  obtain ⟨_, _, M⟩ := bmod_of_top T
  have TA := at_of_top T
  try (obtain ⟨_, _, he, B0⟩ := based_of_top T rfl hmg ho hdd; have he' : cd = _ := he; subst he'; clear he)
  clear hmg
  wrow_args hpre hlay hrd hwl hlo
  all_goals (
    first | refine callC_kw (enter_call ?_) | refine enter_call ?_ | refine callC_kw (enter_callW ?_) | refine enter_callW ?_ | w_how
    w_top on
    have K0 := below_caller (Top.heap T)
    w_call any ho hdd hcd hD T F
    clear hdd TA
    k_drop
    skip)
  (all_goals try k_fold)
  repeat' (first | (k_unfold; (try dsimp only)) | ((fail_if_success (with_reducible show wpAny _ _ (PySem.call (Value.ref 229) _ _) _ _ _)); first | walk1 | (dsimp only; walk1)))
  with_reducible rename News _ _ _ _ => NN
  with_reducible rename Fr _ _ _ _ => FF
  refine' pair_call KX K0 T ?kA ?kf ?kk ?kD ?kH ?kU FF NN ?o1 ?o2 ?b1 ?b2 ?b3 ?b4 ?b5 ?b6 ?b7 ?b8 ?b9 ?b10 ?b11 ?b12 ?b13 ?b14 ?b15 ?b16 ?_
  case kA => exact rfl
  case kf => exact rfl
  case kk => exact rfl
  case kD =>
    show 301 + 1 + 150 < recursionLimit
    decide
  case kH => rfl
  case kU =>
    show 4 + 3 + 200 < cLine
    first | decide | (have hcL' := cLine_is; omega)
  case o1 => repeat (first | with_reducible exact List.mem_cons_self | refine List.mem_cons_of_mem _ ?_)
  case o2 => repeat (first | with_reducible exact List.mem_cons_self | refine List.mem_cons_of_mem _ ?_)
  case b1 => exact (fmod4 _).1
  case b2 => exact (fmod4 _).2
  case b3 => exact (fmod4 _).1
  case b4 => exact (fmod4 _).2
  case b5 => exact (fmod4 _).1
  case b6 => exact (fmod4 _).2
  case b7 => exact (fmod4 _).1
  case b8 => exact (fmod4 _).2
  case b9 => exact (fmod3 _).1
  case b10 => exact (fmod3 _).2
  case b11 => exact (fmod3 _).1
  case b12 => exact (fmod3 _).2
  case b13 => exact (fmod3 _).1
  case b14 => exact (fmod3 _).2
  case b15 => exact (fmod3 _).1
  case b16 => exact (fmod3 _).2
  intro hZ tkZ FZ
  clear NN FF
  show GoodWG _ _ _ _ _ (.ok (.ret (.bool true))) _
  refine goodWG_true FZ (AllBare.push (AllBare.of_eq hg) rfl) (raisesW_false ?_) ?_ rfl
  · wrow_none_raised
  · exact law_post _
end
end Mine
theorem PySem.Challenge.cw_kx0087_01_holds : PySem.Challenge.rw_kx0087_01.Holds := by
  exact Mine.law_holds
