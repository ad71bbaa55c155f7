import PyProof.Rows.All
import Wide.All
import OpenK.AllK
import Wide.FinOn
import PySem.Challenge.RW_ep5033_01
open PySem PySem.W PyProof.Rows
set_option Elab.async false
set_option maxRecDepth 100000
set_option maxHeartbeats 16000000

namespace Mine
open_top hd for PySem.Challenge.rw_ep5033_01
end Mine

/-! MBase -/
section
open PySem PySem.W PyProof.Rows
namespace Mine

abbrev Led := List (Addr × Obj)

/-- what a call of the def at `f` gives: a value with `post`, the frame and the ledger as they were. -/
abbrev SpecV (w : World) (n : Nat) (f : Addr) (news : Led) (pre : Prop) (vs : List Value) (kw : List (Str × Value)) (post : Value → Prop) : Prop :=
  ∀ (loose : List Str) (mean : ExcName → Option Value) (mg mb : Str → Option Value) (dp un : Nat) (gd : Option (List Code)) (cn : Str) (cs : Scope) (a : Addr) (ccd : Value) (cl : List (Str × Addr)) (outer : List Env) (A₀ : Around) (base h₀ : Heap) (L : Addr) (m : Str → Option Value) (s : Shared) (Q E : Value → Shared → Prop),
    Below A₀ base outer h₀ → Fr h₀ L s.heap m → (hd.heap_39 w.params).In h₀ → News h₀ L s.heap news → Top hd.view_39 loose mean mg mb h₀ → cs.kind = .function → dp + n < recursionLimit → un + 8 * n < cLine → pre →
    (∀ r h' tk', Fr h₀ L h' m → News h₀ L h' news → post r → Q r { s with heap := h', toks := tk' }) →
    wpAny (model Challenge.rw_ep5033_01.row.prog w) (ktrTop dp un gd cn cs L a ccd cl outer) (call (.ref f) vs kw) Q E s

/-- the same for a call that gives a new list. -/
abbrev SpecL (w : World) (n : Nat) (f : Addr) (news : Led) (pre : Prop) (vs : List Value) (kw : List (Str × Value)) (post : List Value → Prop) : Prop :=
  ∀ (loose : List Str) (mean : ExcName → Option Value) (mg mb : Str → Option Value) (dp un : Nat) (gd : Option (List Code)) (cn : Str) (cs : Scope) (a : Addr) (ccd : Value) (cl : List (Str × Addr)) (outer : List Env) (A₀ : Around) (base h₀ : Heap) (L : Addr) (m : Str → Option Value) (s : Shared) (Q E : Value → Shared → Prop),
    Below A₀ base outer h₀ → Fr h₀ L s.heap m → (hd.heap_39 w.params).In h₀ → News h₀ L s.heap news → Top hd.view_39 loose mean mg mb h₀ → cs.kind = .function → dp + n < recursionLimit → un + 8 * n < cLine → pre →
    (∀ D us c h' tk', Fr h₀ L h' m → News h₀ L h' ((D, PySem.W.listOf us.toArray c) :: news) → (∀ p ∈ news, p.1 < D) → post us → Q (.ref D) { s with heap := h', toks := tk' }) →
    wpAny (model Challenge.rw_ep5033_01.row.prog w) (ktrTop dp un gd cn cs L a ccd cl outer) (call (.ref f) vs kw) Q E s

theorem specV_use {w : World} {n : Nat} {f : Addr} {news : Led} {pre : Prop} {vs : List Value} {kw : List (Str × Value)} {post : Value → Prop} (S : SpecV w n f news pre vs kw post)
    {loose : List Str} {mean : ExcName → Option Value} {mg mb : Str → Option Value} {dp un : Nat} {gd : Option (List Code)} {cn : Str} {cs : Scope} {a : Addr} {ccd : Value} {cl : List (Str × Addr)} {outer : List Env} {A₀ : Around} {base h₀ : Heap} {L : Addr} {m : Str → Option Value} {s : Shared} {Q E : Value → Shared → Prop}
    (B : Below A₀ base outer h₀) (F : Fr h₀ L s.heap m) (X : (hd.heap_39 w.params).In h₀) (N : News h₀ L s.heap news) (T : Top hd.view_39 loose mean mg mb h₀) (hk : cs.kind = .function) (hd : dp + n < recursionLimit) (hu : un + 8 * n < cLine) (hp : pre)
    (ret : ∀ r h' tk', Fr h₀ L h' m → News h₀ L h' news → post r → Q r { s with heap := h', toks := tk' }) :
    wpAny (model Challenge.rw_ep5033_01.row.prog w) (ktrTop dp un gd cn cs L a ccd cl outer) (call (.ref f) vs kw) Q E s := S _ _ _ _ _ _ _ _ _ _ _ _ _ _ _ _ _ _ _ _ _ B F X N T hk hd hu hp ret

theorem specL_use {w : World} {n : Nat} {f : Addr} {news : Led} {pre : Prop} {vs : List Value} {kw : List (Str × Value)} {post : List Value → Prop} (S : SpecL w n f news pre vs kw post)
    {loose : List Str} {mean : ExcName → Option Value} {mg mb : Str → Option Value} {dp un : Nat} {gd : Option (List Code)} {cn : Str} {cs : Scope} {a : Addr} {ccd : Value} {cl : List (Str × Addr)} {outer : List Env} {A₀ : Around} {base h₀ : Heap} {L : Addr} {m : Str → Option Value} {s : Shared} {Q E : Value → Shared → Prop}
    (B : Below A₀ base outer h₀) (F : Fr h₀ L s.heap m) (X : (hd.heap_39 w.params).In h₀) (N : News h₀ L s.heap news) (T : Top hd.view_39 loose mean mg mb h₀) (hk : cs.kind = .function) (hd : dp + n < recursionLimit) (hu : un + 8 * n < cLine) (hp : pre)
    (ret : ∀ D us c h' tk', Fr h₀ L h' m → News h₀ L h' ((D, PySem.W.listOf us.toArray c) :: news) → (∀ p ∈ news, p.1 < D) → post us → Q (.ref D) { s with heap := h', toks := tk' }) :
    wpAny (model Challenge.rw_ep5033_01.row.prog w) (ktrTop dp un gd cn cs L a ccd cl outer) (call (.ref f) vs kw) Q E s := S _ _ _ _ _ _ _ _ _ _ _ _ _ _ _ _ _ _ _ _ _ B F X N T hk hd hu hp ret

def freeF (o : Int) : Bool := (decide (48 ≤ o) && decide (o ≤ 57)) || (decide (65 ≤ o) && decide (o ≤ 90)) || (decide (97 ≤ o) && decide (o ≤ 122)) || (o == 45 || o == 46 || o == 95 || o == 126)

def octF (p : Int) : List Int :=
  if p < 128 then [p]
  else if p < 2048 then [192 + p / 64, 128 + p % 64]
  else if p < 65536 then [224 + p / 4096, 128 + p / 64 % 64, 128 + p % 64]
  else [240 + p / 262144, 128 + p / 4096 % 64, 128 + p / 64 % 64, 128 + p % 64]
/-- a text by its signs' numbers -/
def T (l : List Nat) : Str := ⟨l.toArray⟩
theorem T_len (l : List Nat) : (T l).length = l.length := by simp [T, Str.length]

theorem flat_ones (l : List Nat) : (l.map fun n => [n]).flatten = l := by
  induction l with
  | nil => rfl
  | cons a r ih => simp [ih]
theorem app_T (a b : List Nat) : T a ++ T b = T (a ++ b) := by
  have h : (T a ++ T b).cps = (T (a ++ b)).cps := by rw [Str.cps_append]; simp [T]
  exact congrArg Str.mk h
theorem join_T (ls : List (List Nat)) : Txt.join (Str.ofString "") (ls.map T) = T ls.flatten := by
  show Builtin.Str.glued (Str.ofString "") (ls.map T) = _
  rw [StrLaws.glued_eq_join]
  induction ls with
  | nil => rfl
  | cons a r ih =>
    cases r with
    | nil => simp [T, Str.join]
    | cons b r' =>
      show T a ++ Str.ofString "" ++ Str.join (Str.ofString "") ((b :: r').map T) = _
      rw [ih]
      have e : Str.ofString "" = T [] := by decide
      rw [e, app_T, app_T]
      simp


def octN (p : Nat) : List Nat :=
  if p < 128 then [p]
  else if p < 2048 then [192 + p / 64, 128 + p % 64]
  else if p < 65536 then [224 + p / 4096, 128 + p / 64 % 64, 128 + p % 64]
  else [240 + p / 262144, 128 + p / 4096 % 64, 128 + p / 64 % 64, 128 + p % 64]
def freeN (o : Nat) : Bool := (decide (48 ≤ o) && decide (o ≤ 57)) || (decide (65 ≤ o) && decide (o ≤ 90)) || (decide (97 ≤ o) && decide (o ≤ 122)) || (o == 45 || o == 46 || o == 95 || o == 126)
def hexN (d : Nat) : Nat := if d < 10 then 48 + d else 55 + d
/-- how one octet is written -/
def wrO (may : List Nat) (o : Nat) : List Nat := if freeN o || (decide (o < 128) && may.contains o) then [o] else [37, hexN (o / 16), hexN (o % 16)]
def wrL (may : List Nat) (ps : List Nat) : List Nat := (ps.flatMap octN).flatMap (wrO may)
/-- the octets as bytes -/
def encB (ps : List Nat) : Array UInt8 := ((ps.flatMap octN).map fun o => o.toUInt8).toArray
section
open PySem.Builtin.Str
theorem in_yes {x : Str} {c : Nat} (h : (occurrences x ⟨#[c]⟩ 0 x.length 1).isEmpty = false) : c ∈ x.cps.toList := by
  have e := StrLaws.found_one x c
  rw [h] at e
  exact of_decide_eq_true e.symm
theorem in_no {x : Str} {c : Nat} (h : (occurrences x ⟨#[c]⟩ 0 x.length 1).isEmpty = true) : c ∉ x.cps.toList := by
  have e := StrLaws.found_one x c
  rw [h] at e
  exact of_decide_eq_false e.symm
end
theorem plain_in : ∀ n : Nat, n < 256 → decide (n ∈ (Str.ofString "ABCDEFGHIJKLMNOPQRSTUVWXYZabcdefghijklmnopqrstuvwxyz0123456789_.-~").cps.toList) = freeN n := by decide +kernel
section
open PySem.Builtin.Str
variable {may : List Nat} {n : Nat}
theorem T_list (l : List Nat) : (T l).cps.toList = l := rfl
theorem q_plain (hn : n < 256) (h1 : (occurrences (Str.ofString "ABCDEFGHIJKLMNOPQRSTUVWXYZabcdefghijklmnopqrstuvwxyz0123456789_.-~") ⟨#[n]⟩ 0 (Str.ofString "ABCDEFGHIJKLMNOPQRSTUVWXYZabcdefghijklmnopqrstuvwxyz0123456789_.-~").length 1).isEmpty = false) : T (wrO may n) = ⟨#[n]⟩ := by
  have e := (plain_in n hn).symm.trans (decide_eq_true (in_yes h1))
  unfold wrO
  rw [e]
  rfl
theorem q_may (hm : ∀ p ∈ may, p < 128) (h2 : (occurrences (T may) ⟨#[n]⟩ 0 (T may).length 1).isEmpty = false) : T (wrO may n) = ⟨#[n]⟩ := by
  have hmem : n ∈ may := in_yes h2
  have hlt := hm n hmem
  unfold wrO
  rw [if_pos (by simp [hlt, hmem])]
  rfl
theorem q_pct (hn : n < 256) (h1 : (occurrences (Str.ofString "ABCDEFGHIJKLMNOPQRSTUVWXYZabcdefghijklmnopqrstuvwxyz0123456789_.-~") ⟨#[n]⟩ 0 (Str.ofString "ABCDEFGHIJKLMNOPQRSTUVWXYZabcdefghijklmnopqrstuvwxyz0123456789_.-~").length 1).isEmpty = true)
    (h2 : (occurrences (T may) ⟨#[n]⟩ 0 (T may).length 1).isEmpty = true) : T (wrO may n) = Str.empty ++ Str.ofString "%" ++ T [hexN (n / 16), hexN (n % 16)] := by
  have e := (plain_in n hn).symm.trans (decide_eq_false (in_no h1))
  have hmem : n ∉ may := in_no h2
  unfold wrO
  rw [if_neg (by simp [e, hmem])]
  have e1 : Str.empty = T [] := rfl
  have e2 : Str.ofString "%" = T [37] := by decide
  rw [e1, e2, app_T, app_T]
  rfl
theorem wrO_len (o : Nat) : (wrO may o).length ≤ 3 := by
  unfold wrO
  split <;> simp
end
theorem oct_lt {c : Nat} (h : c < 1114112) : ∀ o ∈ octN c, o < 256 := by
  unfold octN
  repeat' split
  all_goals (intro o ho; simp at ho; omega)
theorem octs_lt {ps : List Nat} (hp : ∀ p ∈ ps, p < 1114112) : ∀ o ∈ ps.flatMap octN, o < 256 := by
  intro o ho
  obtain ⟨p, h1, h2⟩ := List.mem_flatMap.mp ho
  exact oct_lt (hp p h1) o h2
theorem toU8 {n : Nat} (h : n < 256) : n.toUInt8.toNat = n := by
  show (UInt8.ofNat n).toNat = n
  simp [h]
theorem oct_len4 (c : Nat) : (octN c).length ≤ 4 := by
  unfold octN
  repeat' split
  all_goals simp
theorem octs_len (ps : List Nat) : (ps.flatMap octN).length ≤ 4 * ps.length := by
  induction ps with
  | nil => simp
  | cons c r ih => have := oct_len4 c; simp at ih ⊢; omega
def ScalarN (n : Nat) : Prop := n < 1114112 ∧ ¬ (55296 ≤ n ∧ n < 57344)
end Mine
end

/-! MFree -/
section
open PySem PySem.W PyProof.Rows
namespace Mine

theorem free_spec (w : World) (o : Int) (t : Tok) (news : Led) : SpecV w 10 48 news True [.int o t] [] (fun r => r = .bool (freeF o)) := by
  delta SpecV; k_fill; w_top off
  intro loose mean mg mb dp un gd cn cs a ccd cl outer A₀ base h₀ L m s Q E B F X N T hk hdp hun hpre hret
  refine wpAny_call ?_
  k_dflt cell_enter
  k_steps
  all_goals (refine hret _ _ _ (by k_asm) (by first | k_asm | (refine' cb_drop ?cN ?cS; (case cN => k_asm); (case cS => (intro p h; repeat (first | exact h | refine List.mem_cons_of_mem _ ?_))))) (congrArg Value.bool ?_))
  all_goals (unfold freeF; simp only [decide_eq_true_eq, decide_eq_false_iff_not] at *)
  all_goals (clear hret; rw [Bool.eq_iff_iff]; simp; omega)
end Mine
end

/-! MOct -/
section
open PySem PySem.W PyProof.Rows
namespace Mine

theorem oct_spec (w : World) (o : Int) (t : Tok) (news : Led) : SpecL w 10 41 news True [.int o t] [] (fun us => IntsAre us (octF o)) := by
  delta SpecL; k_fill; w_top off
  intro loose mean mg mb dp un gd cn cs a ccd cl outer A₀ base h₀ L m s Q E B F X N T hk hdp hun hpre hret
  refine wpAny_call ?_
  k_dflt cell_enter
  k_steps
  all_goals (refine hret _ _ _ _ _ (by k_asm) (by k_asm) (by assumption) ?_)
  all_goals (unfold octF; simp only [decide_eq_true_eq, decide_eq_false_iff_not] at *)
  all_goals (clear hret; (try simp only [Int.fdiv_eq_ediv_of_nonneg _ (show (0:Int) ≤ 64 by decide), Int.fdiv_eq_ediv_of_nonneg _ (show (0:Int) ≤ 4096 by decide), Int.fdiv_eq_ediv_of_nonneg _ (show (0:Int) ≤ 262144 by decide), Int.fmod_eq_emod_of_nonneg _ (show (0:Int) ≤ 64 by decide)]))
  all_goals (first | rw [if_pos (by omega)] | rw [if_neg (by omega), if_pos (by omega)] | rw [if_neg (by omega), if_neg (by omega), if_pos (by omega)] | rw [if_neg (by omega), if_neg (by omega), if_neg (by omega)])
  all_goals (repeat (first | exact .nil | refine .cons _ _ ?_))
end Mine
end

/-! MDrawn -/
section
open PySem PySem.W PyProof.Rows
namespace Mine

def Scalar (n : Int) : Prop := 0 ≤ n ∧ n < 1114112 ∧ ¬ (55296 ≤ n ∧ n < 57344)

theorem pts_in : ∀ k : Nat, k < 15 → Scalar ([65, 127, 128, 2047, 2048, 4095, 4096, 55295, 57344, 65533, 65535, 65536, 262143, 262144, 1114111].getD k 0) := by
  unfold Scalar; decide +kernel
theorem pts_at (o : Int) : Scalar ([65, 127, 128, 2047, 2048, 4095, 4096, 55295, 57344, 65533, 65535, 65536, 262143, 262144, 1114111].getD ((o.fdiv 3).fmod 15).toNat 0) := by
  refine pts_in _ ?_
  have h0 : 0 ≤ (o.fdiv 3).fmod 15 := Int.fmod_nonneg_of_pos _ (by decide)
  have h1 : (o.fdiv 3).fmod 15 < 15 := Int.fmod_lt_of_pos _ (by decide)
  omega

theorem drawn_spec (w : World) (o : Int) (t : Tok) (news : Led) : SpecV w 10 69 news True [.int o t] [] (fun r => ∃ n u, r = .int n u ∧ Scalar n) := by
  delta SpecV; k_fill; w_top off
  intro loose mean mg mb dp un gd cn cs a ccd cl outer A₀ base h₀ L m s Q E B F X N T hk hdp hun hpre hret
  refine wpAny_call ?_
  k_dflt cell_enter
  k_steps
  all_goals (refine hret _ _ _ (by k_asm) (by first | k_asm | (refine' cb_drop ?cN ?cS; (case cN => k_asm); (case cS => (intro p h; repeat (first | exact h | refine List.mem_cons_of_mem _ ?_))))) ⟨_, _, rfl, ?_⟩)
  all_goals (clear hret)
  all_goals (have hP := pts_at o; have hM0 : 0 ≤ (o.fdiv 3).fmod 1114112 := Int.fmod_nonneg_of_pos _ (by decide); have hM1 : (o.fdiv 3).fmod 1114112 < 1114112 := Int.fmod_lt_of_pos _ (by decide))
  all_goals (try simp only [decide_eq_true_eq, decide_eq_false_iff_not] at *)
  all_goals (unfold Scalar at *; generalize List.getD _ _ _ = P at *; generalize Int.fmod _ 1114112 = P' at *; omega)
end Mine
end

/-! MText -/
section
open PySem PySem.W PyProof.Rows
namespace Mine

section
local macro_rules | `(tactic| walk_at "eval ListComp") => `(tactic| (k_here; k_dflt (refine LCg.ListComp_U (F₀ := by k_asm) (by rfl) (by decide) (by rfl) (by decide) (by rfl) ?_)))
local macro_rules | `(tactic| walk_at "CompSrc") => `(tactic| (fail "mine"))

theorem text_spec (w : World) (l : Addr) (vs : List Value) (c : Nat) (ns : List Int) (news : Led) (hi : IntsAre vs ns) (hn : ∀ n ∈ ns, 0 ≤ n ∧ n < 1114112) (hlen : ns.length ≤ 1000) (hm : (l, PySem.W.listOf vs.toArray c) ∈ news) : 
   SpecV w 10 74 news True [.ref l] [] (fun r => ∃ u, r = .str (T (ns.map Int.toNat)) u) := by
  delta SpecV; k_fill; w_top off
  intro loose mean mg mb dp un gd cn cs a ccd cl outer A₀ base h₀ L m s Q E B F X N T hk hdp hun hpre hret
  refine wpAny_call ?_
  k_dflt cell_enter
  k_steps
  refine LCg.CompSrc.ledger (by rfl) (by k_asm) (by k_asm) hm (by rw [List.size_toArray, hi.length]; exact Nat.le_trans hlen (by decide)) ?_
  intro g'
  refine kct_list (fun k => Mine.T [k.toNat]) hi (fun k t I oI C oC D m₂ ys h tk E' hk hC hx F' N' off ne mk => ?_) ?_
  · have hkn := hn k hk
    k_steps
    refine LCg.CompEnd.intro (by k_asm) (by k_asm) news (fun _ h => h) off (Or.inr ⟨_, hm, rfl, _, rfl⟩) (kct_el rfl rfl rfl)
  · intro ys hys hl
    k_steps
    all_goals (refine hret _ _ _ (by k_asm) (by first | k_asm | (refine' cb_drop ?cN ?cS; (case cN => k_asm); (case cS => (intro p h; repeat (first | exact h | refine List.mem_cons_of_mem _ ?_))))) ⟨_, congrArg (fun x => Value.str x _) ?_⟩)
    all_goals (have e := join_T (ns.map fun k => [k.toNat]); rw [List.map_map] at e; refine e.trans (congrArg Mine.T ?_); rw [← flat_ones (ns.map Int.toNat), List.map_map]; rfl)
end
end Mine
end

/-! MComp -/
section
open PySem PySem.W PyProof.Rows PySem.Calls
namespace Mine
/-- what is asked where the source of a comprehension over bytes is met -/
def BSrc (prog : Program) (w : World) (A : Around) (h₀ : Heap) (L : Addr) (m : Str → Option Value) (env : Env) (elt : Expr) (x : Str) (scope : Scope) (cl : List (Str × Addr)) (Q : Value → Shared → Prop) (xv : Value) (s₁ : Shared) : Prop :=
  ∃ b tb news, xv = .bytes b tb ∧ A.handled = none ∧ Fr h₀ L s₁.heap m ∧ News h₀ L s₁.heap news ∧ b.size ≤ sizeLine ∧
      ∀ g, LCg.CompRest prog w A h₀ L m env elt x scope cl { s₁ with heap := g } (fun _ => True) (fun i v => ∃ c u, b[i]? = some c ∧ v = .int (c.toNat : Int) u) (LCg.FinE h₀ L m { s₁ with heap := g } Q) b.size 0 [] news
section
variable {prog : Program} {w : World} {A : Around} {E : Value → Shared → Prop} {s : Shared} {h₀ : Heap} {L : Addr} {m : Str → Option Value} {env : Env}

/-- a comprehension over bytes -/
theorem comp_bytes {elt iter : Expr} {x : Str} {px : Pos} {scope : Scope} {cl : List (Str × Addr)} {pos : Pos} {Q : Value → Shared → Prop}
    (hclos : closureFor scope env = pure cl) (hcell : ∀ y ∈ scope.names, y.2 ≠ .cell) (hkind : scope.kind = .function)
    (hnames : ∀ y ∈ scope.names, y.2 = .local → scope.names.lookup y.1 = some .local) (hx : scope.names.lookup x = some .local)
      (F₀ : Fr h₀ L s.heap m)
    (h : wpAny (model prog w) A (eval iter env) (fun xv s₁ => BSrc prog w A h₀ L m env elt x scope cl Q xv s₁) E s)
    (hs : ∀ x, foldedSetIterable iter env x = pure x := by intro _; rfl) :
    wpAny (model prog w) A (eval (.ListComp elt [⟨.Name x px, iter, [], 0⟩] scope pos) env) Q E s := by
  rw [eval_ListComp]
  refine wpAny_comprehension_free (use := none) rfl hs hclos hkind hnames (wpAny_mono h (fun xv s₁ h₁ => ?_) fun _ _ e => e)
  obtain ⟨b, tb, news, rfl, hh, F, N, hsz, R⟩ := h₁
  refine KBw.pyIter_bytes ?_
  have up : ∀ b' o, s₁.heap.get? b' = some o → (s₁.heap.push { cls := .type "bytes_iterator", data := .fields #[.bytes b tb, .int 0 0] }).get? b' = some o := fun b o e => Heap.get?_push_of_some _ e
  refine LCg.block_U (KBw.walks hh s₁.heap.objs.size b tb) hsz (fun i h st => by obtain ⟨o, e, _⟩ := st; exact ⟨o, e⟩)
    (fun i h h' o nw st e e' _ _ _ => by obtain ⟨o', q, r⟩ := st; rw [e] at q; cases q; exact ⟨o, e', r⟩) hcell hkind hx ⟨_, Heap.get?_push_size _ rfl, rfl, rfl⟩ (fun b' hb => ?_)
    (F.keeps up) (N.grown up) (Nat.ne_of_lt F.ns.lt) (next_is_new F) (fun p hp => Nat.ne_of_lt (Heap.lt_size (N p hp).1)) trivial (R _) ?_
  · rw [List.mem_singleton.mp hb]
    show s₁.heap.objs.size < (s₁.heap.push _).objs.size
    rw [Heap.size_push]; exact Nat.lt_succ_self _
  · intro D C h tk m' ys news' F' N' o1 hn hC₀ hD₀ hCL hDL hCD offC fin
    refine ⟨m', hn, fun h'' hs'' => fin D h'' tk (F'.change hs'' hCL hC₀) (fun p hp => ?_) o1⟩
    refine ⟨hs''.extBut _ _ ?_ (N' p hp).1, (N' p hp).2⟩
    rcases List.mem_cons.mp hp with rfl | hp
    · exact Ne.symm hCD
    · exact offC p hp
end
end Mine
end

/-! MBuilt -/
section
open PySem PySem.W PyProof.Rows PySem.Calls
namespace Mine

theorem wp_tree {α : Type} {M : Model} {A : Around} {E : Value → Shared → Prop} {s : Shared} {Q : α → Shared → Prop} {t t' : Sem α} (e : t = t') (h : wpAny M A t' Q E s) : wpAny M A t Q E s := e ▸ h

/-! the field of «02X» -/
section
open PySem.Builtin PySem.Builtin.Str PySem.Builtin.Int
def fX (n : Nat) : Str := intField' { fill := 48, align := 61, width := some 2, type := some 88 } (decide ((n : Int) < 0)) [] ((Nat.toDigits 16 (n : Int).natAbs).map fun c => (if (88:Nat) == 88 then c.toUpper else c).toNat) [] 4
theorem hex_text : ∀ n : Nat, n < 256 → fX n = Mine.T [hexN (n / 16), hexN (n % 16)] := by
  decide +kernel
theorem fmt_meets {n : Nat} (h : n < 256) (t u : Tok) : Meets («int.__format__» ⟨[.int (n : Int) t, .str (Str.ofString "02X") u], []⟩) (fun _ R s => ∀ t' k, R (.ok (.ret (.str (Mine.T [hexN (n / 16), hexN (n % 16)]) t'))) { s with toks := k }) := by
  apply KPc.meets_of
  intro prog w A s Q E hq
  unfold Builtin.«int.__format__»
  refine wpAny_bind (wpAny_of_eq (a := (_, _)) rfl ?_)
  refine wpAny_bind (wpAny_of_eq (a := _) rfl ?_)
  kxf_if
  refine wpAny_bind (wpAny_typeNameOf (T := "str") (typeIs_str _ _ _) (by decide) fun _ => ?_)
  refine wpAny_bind (wpAny_of_eq (a := some _) rfl ?_)
  kxf_if
  kxf_if
  refine wpAny_bind (wpAny_typeNameOfCut_int ?_)
  refine wp_tree (t' := retStr (fX n)) (by kernel_rfl) ?_
  rw [hex_text n h]
  exact KXf.ret_text rfl (by rw [T_len]; exact Nat.le_of_ble_eq_true rfl) hq
theorem field_X {prog : Program} {w : World} {A : Around} {E : Value → Shared → Prop} {s : Shared} {k : Int} {t : Tok} {spec : Str} {Q : Value → Shared → Prop} (h0 : 0 ≤ k) (h1 : k < 256) (hX : spec = Str.ofString "02X")
    (h : ∀ t' j, Q (.str (Mine.T [hexN (k.toNat / 16), hexN (k.toNat % 16)]) t') { s with toks := j }) : wpAny (model prog w) A (formatField (.int k t) spec) Q E s := by
  obtain ⟨n, rfl⟩ := Int.eq_ofNat_of_zero_le h0
  refine KXf.field_int hX (by decide) (by decide) (fun u => fmt_meets (n := n) (by omega) t u) ?_
  simpa using h
end
end Mine
end

/-! MCodec -/
section
open PySem PySem.W PyProof.Rows PySem.Calls
namespace Mine
open PySem.Builtin PySem.Builtin._codecs

def encOf (x : Str) : Array UInt8 := x.cps.foldl (fun acc y => acc ++ (Str.utf8Of y).toArray) #[]

theorem loop_two {β : Type} {l : List Nat} {b b1 : β} {f : Nat → β → Sem (ForInStep β)} (h0 : l ≠ [] → ∀ i, f i b = pure (.yield b1)) (h1 : ∀ i, f i b1 = pure (.done b1)) :
    forIn l b f = pure (if l = [] then b else b1) := by
  cases l with
  | nil => rfl
  | cons i r =>
    rw [List.forIn_cons, h0 (by simp) i, pure_bind]
    show forIn r b1 f = _
    cases r with
    | nil => rfl
    | cons j r' => rw [List.forIn_cons, h1 j, pure_bind]; rfl
theorem bind_eq {α β : Type} {m m' : Sem α} {k : α → Sem β} {r : Sem β} (e : m = m') (h : (m' >>= k) = r) : (m >>= k) = r := by rw [e]; exact h

theorem enc_ok (id : String) (self : Value) (x : Str) (hc : ∀ c ∈ x.cps.toList, Str.isSurrogate c = false) (hsz : (encOf x).size ≤ sizeLine) :
    encodeNarrow id utf8Codec none self x = pure (encOf x) := by
  have hf : x.cps.findIdx? utf8Codec.bad = none := by
    rw [Array.findIdx?_eq_none_iff]
    intro c hcm
    exact hc c (by simpa using hcm)
  unfold encodeNarrow
  simp only [KPc.range_list]
  refine bind_eq (loop_two (b1 := (x.cps.size, encOf x, {})) ?h0 ?h1) ?_
  case h0 =>
    intro hl i
    have hpos : 0 < x.cps.size := by
      show 0 < x.length
      refine Nat.pos_of_ne_zero fun e => hl ?_
      rw [e]; rfl
    have hx : x.cps[0]? = some x.cps[0] := by simp [hpos]
    have hb : utf8Codec.bad x.cps[0] = false := hc _ (by simp)
    have he : x.cps.extract 0 x.cps.size = x.cps := by simp
    dsimp only
    rw [if_neg (by decide), hx]
    dsimp only
    rw [hb]
    simp only [Bool.not_false, if_true, he, hf, Option.getD_none, Nat.zero_add]
    rfl
  case h1 =>
    intro i
    dsimp only
    rw [if_neg (Nat.not_lt.mpr hsz)]
    simp
  · rw [pure_bind]
    split
    · rename_i e
      have e0 : x.cps.size = 0 := by
        have := congrArg List.length e
        rw [List.length_range'] at this
        exact this
      have e1 : x.cps = #[] := Array.eq_empty_of_size_eq_zero e0
      simp [encOf, e1]
    · rfl

theorem utf8_oct (c : Nat) : Str.utf8Of c = (octN c).map fun o => o.toUInt8 := by
  unfold Str.utf8Of octN
  repeat' split
  all_goals first | rfl | omega
theorem enc_list (x : Str) : encOf x = encB x.cps.toList := by
  unfold encOf encB
  have key : ∀ (l : List Nat) (acc : Array UInt8), l.foldl (fun acc y => acc ++ (Str.utf8Of y).toArray) acc = acc ++ ((l.flatMap octN).map fun o => o.toUInt8).toArray := by
    intro l
    induction l with
    | nil => intro acc; simp
    | cons c r ih =>
      intro acc
      rw [List.foldl_cons, ih, utf8_oct]
      simp
  rw [← Array.foldl_toList, key]
  simp
theorem encB_app (a b : List Nat) : encB (a ++ b) = encB a ++ encB b := by simp [encB]
theorem at_mid {pre post : Array UInt8} {l : List Nat} (k : Nat) (hk : k < l.length) : (pre ++ (l.map fun o => o.toUInt8).toArray ++ post)[pre.size + k]? = some (l[k].toUInt8) := by
  rw [Array.append_assoc, Array.getElem?_append_right (by omega), Nat.add_sub_cancel_left, Array.getElem?_append_left (by simpa using hk)]
  simp [hk]

theorem utf8_at {pre post : Array UInt8} {c : Nat} (hc : ScalarN c) : Bytes.utf8At (pre ++ ((octN c).map fun o => o.toUInt8).toArray ++ post) pre.size = (.char c, pre.size + (octN c).length) := by
  have hl := oct_lt hc.1
  have hat := fun k hk => at_mid (pre := pre) (post := post) (l := octN c) k hk
  generalize pre ++ ((octN c).map fun o => o.toUInt8).toArray ++ post = b at hat
  have hget : ∀ k (hk : k < (octN c).length), b[pre.size + k]? = some ((octN c)[k].toUInt8) ∧ ((octN c)[k].toUInt8).toNat = (octN c)[k] := fun k hk => ⟨hat k hk, toU8 (hl _ (List.getElem_mem hk))⟩
  clear hat hl
  generalize pre.size = p at hget
  obtain ⟨h1, h2⟩ := hc
  unfold Bytes.utf8At
  unfold octN at hget ⊢
  by_cases c1 : c < 128
  · simp only [c1, if_true] at hget ⊢
    have g0 := hget 0 (by simp)
    have e0 : b.getD p 0 = c.toUInt8 := by rw [Array.getD_eq_getD_getElem?]; have := g0.1; simp at this; rw [this]; rfl
    have e1 : c.toUInt8.toNat = c := g0.2
    rw [e0, e1, if_pos c1]
    rfl
  · by_cases c2 : c < 2048
    · simp only [c1, c2, if_true, if_false] at hget ⊢
      have g0 := hget 0 (by simp)
      have g1 := hget 1 (by simp)
      simp only [List.getElem_cons_zero, List.getElem_cons_succ, Nat.add_zero] at g0 g1
      have e0 : b.getD p 0 = (192 + c / 64).toUInt8 := by rw [Array.getD_eq_getD_getElem?, g0.1]; rfl
      rw [e0, g0.2, if_neg (by omega), if_pos (by simp; omega)]
      show (match (match b[p + 1]? with | none => _ | some x => _ : Except (Nat × String) Nat) with | .ok v => _ | .error (stop, reason) => _) = _
      rw [g1.1]
      dsimp only
      rw [g1.2]
      rw [if_pos (by simp; omega)]
      show (Bytes.Piece.char _, _) = _
      refine Prod.ext (congrArg Bytes.Piece.char ?_) rfl
      show (192 + c / 64) % 32 * 64 + _ = c
      omega
    · by_cases c3 : c < 65536
      · simp only [c1, c2, c3, if_true, if_false] at hget ⊢
        have g0 := hget 0 (by simp)
        have g1 := hget 1 (by simp)
        have g2 := hget 2 (by simp)
        simp only [List.getElem_cons_zero, List.getElem_cons_succ, Nat.add_zero] at g0 g1 g2
        have e0 : b.getD p 0 = (224 + c / 4096).toUInt8 := by rw [Array.getD_eq_getD_getElem?, g0.1]; rfl
        rw [e0, g0.2, if_neg (by omega), if_neg (by simp; omega)]
        have tail : ∀ lo hi : Nat, lo ≤ 128 + c / 64 % 64 → 128 + c / 64 % 64 ≤ hi → (match (match b[p + 1]? with
            | none => (.error (b.size, "unexpected end of data") : Except (Nat × String) Nat)
            | some x => if (decide ((if (1 == 1) = true then lo else 128) ≤ x.toNat) && decide (x.toNat ≤ if (1 == 1) = true then hi else 191)) = true then .ok ((224 + c / 4096) % 16 * 64 + x.toNat % 64) else .error (p + 1, "invalid continuation byte")).bind (fun v => match b[p + 2]? with
            | none => (.error (b.size, "unexpected end of data") : Except (Nat × String) Nat)
            | some x => if (decide ((if (2 == 1) = true then lo else 128) ≤ x.toNat) && decide (x.toNat ≤ if (2 == 1) = true then hi else 191)) = true then .ok (v * 64 + x.toNat % 64) else .error (p + 2, "invalid continuation byte")) with
            | .ok v => (Bytes.Piece.char v, p + 2 + 1) | .error (stop, reason) => (Bytes.Piece.bad p stop reason, stop)) = (Bytes.Piece.char c, p + 3) := by
          intro lo hi hlo hhi
          rw [g1.1, g2.1]
          dsimp only
          rw [g1.2, g2.2]
          rw [if_pos (by simp; omega)]
          dsimp only [Except.bind]
          rw [if_pos (by simp; omega)]
          dsimp only
          refine Prod.ext (congrArg Bytes.Piece.char ?_) rfl
          show ((224 + c / 4096) % 16 * 64 + _) * 64 + _ = c
          omega
        by_cases d1 : c < 4096
        · rw [if_pos (by simp; omega)]
          exact tail 0xA0 0xBF (by omega) (by omega)
        · rw [if_neg (by simp; omega)]
          by_cases d2 : c / 4096 = 13
          · rw [if_pos (by simp; omega)]
            exact tail 0x80 0x9F (by omega) (by omega)
          · rw [if_neg (by simp; omega), if_pos (by simp; omega)]
            exact tail 0x80 0xBF (by omega) (by omega)
      · simp only [c1, c2, c3, if_true, if_false] at hget ⊢
        have g0 := hget 0 (by simp)
        have g1 := hget 1 (by simp)
        have g2 := hget 2 (by simp)
        have g3 := hget 3 (by simp)
        simp only [List.getElem_cons_zero, List.getElem_cons_succ, Nat.add_zero] at g0 g1 g2 g3
        have e0 : b.getD p 0 = (240 + c / 262144).toUInt8 := by rw [Array.getD_eq_getD_getElem?, g0.1]; rfl
        rw [e0, g0.2, if_neg (by omega), if_neg (by simp; omega), if_neg (by simp; omega), if_neg (by simp; omega), if_neg (by simp; omega)]
        have tail : ∀ lo hi : Nat, lo ≤ 128 + c / 4096 % 64 → 128 + c / 4096 % 64 ≤ hi → (match ((match b[p + 1]? with
            | none => (.error (b.size, "unexpected end of data") : Except (Nat × String) Nat)
            | some x => if (decide ((if (1 == 1) = true then lo else 128) ≤ x.toNat) && decide (x.toNat ≤ if (1 == 1) = true then hi else 191)) = true then .ok ((240 + c / 262144) % 8 * 64 + x.toNat % 64) else .error (p + 1, "invalid continuation byte")).bind (fun v => match b[p + 2]? with
            | none => (.error (b.size, "unexpected end of data") : Except (Nat × String) Nat)
            | some x => if (decide ((if (2 == 1) = true then lo else 128) ≤ x.toNat) && decide (x.toNat ≤ if (2 == 1) = true then hi else 191)) = true then .ok (v * 64 + x.toNat % 64) else .error (p + 2, "invalid continuation byte"))).bind (fun v => match b[p + 3]? with
            | none => (.error (b.size, "unexpected end of data") : Except (Nat × String) Nat)
            | some x => if (decide ((if (3 == 1) = true then lo else 128) ≤ x.toNat) && decide (x.toNat ≤ if (3 == 1) = true then hi else 191)) = true then .ok (v * 64 + x.toNat % 64) else .error (p + 3, "invalid continuation byte")) with
            | .ok v => (Bytes.Piece.char v, p + 3 + 1) | .error (stop, reason) => (Bytes.Piece.bad p stop reason, stop)) = (Bytes.Piece.char c, p + 4) := by
          intro lo hi hlo hhi
          rw [g1.1, g2.1, g3.1]
          dsimp only
          rw [g1.2, g2.2, g3.2]
          rw [if_pos (by simp; omega)]
          dsimp only [Except.bind]
          rw [if_pos (by simp; omega)]
          dsimp only
          rw [if_pos (by simp; omega)]
          dsimp only
          refine Prod.ext (congrArg Bytes.Piece.char ?_) rfl
          show (((240 + c / 262144) % 8 * 64 + _) * 64 + _) * 64 + _ = c
          omega
        by_cases d1 : c < 262144
        · rw [if_pos (by simp; omega)]
          exact tail 0x90 0xBF (by omega) (by omega)
        · rw [if_neg (by simp; omega)]
          by_cases d2 : c < 1048576
          · rw [if_pos (by simp; omega)]
            exact tail 0x80 0xBF (by omega) (by omega)
          · rw [if_neg (by simp; omega), if_pos (by simp; omega)]
            exact tail 0x80 0x8F (by omega) (by omega)
end Mine
end

/-! MDec -/
section
open PySem PySem.W PyProof.Rows PySem.Calls
namespace Mine
open PySem.Builtin PySem.Builtin._codecs

theorem oct_pos (c : Nat) : 0 < (octN c).length := by
  unfold octN
  repeat' split
  all_goals simp
theorem encB_size (ps : List Nat) : (encB ps).size = (ps.flatMap octN).length := by simp [encB]
theorem encB_cons (c : Nat) (r : List Nat) : encB (c :: r) = ((octN c).map fun o => o.toUInt8).toArray ++ encB r := by simp [encB]
theorem encB_ge (ps : List Nat) : ps.length ≤ (encB ps).size := by
  rw [encB_size]
  induction ps with
  | nil => simp
  | cons c r ih => have := oct_pos c; simp at ih ⊢; omega

theorem dec_ok (id : String) (errors : Option Str) (ps : List Nat) (hp : ∀ p ∈ ps, ScalarN p) (hlen : ps.length ≤ 1000000) :
    runDecoder id utf8Decoder errors true (encB ps) 0 [] = pure (ps.toArray, (encB ps).size) := by
  unfold runDecoder
  simp only [KPc.range_list]
  have key : ∀ (rest done : List Nat) (l : List Nat) (f : Nat → (Nat × Array Nat × Faults) → Sem (ForInStep (Nat × Array Nat × Faults))) (st : Faults), done ++ rest = ps → rest.length ≤ l.length →
      (∀ i (d : List Nat) c r, d ++ c :: r = ps → f i ((encB d).size, d.toArray, st) = pure (.yield ((encB (d ++ [c])).size, (d ++ [c]).toArray, st))) → (∀ i, f i ((encB ps).size, ps.toArray, st) = pure (.done ((encB ps).size, ps.toArray, st))) →
      forIn l ((encB done).size, done.toArray, st) f = pure ((encB ps).size, ps.toArray, st) := by
    intro rest
    induction rest with
    | nil =>
      intro done l f st e hl hy hd
      rw [List.append_nil] at e
      subst e
      cases l with
      | nil => rfl
      | cons i r => rw [List.forIn_cons, hd i, pure_bind]
    | cons c r ih =>
      intro done l f st e hl hy hd
      cases l with
      | nil => simp at hl
      | cons i l' =>
        rw [List.forIn_cons, hy i done c r e, pure_bind]
        exact ih (done ++ [c]) l' f st (by simpa using e) (by simpa using hl) hy hd
  refine bind_eq (key ps [] _ _ {} rfl (by rw [List.length_range']; exact encB_ge ps) ?_ ?_) ?_
  · intro i d c r e
    have hc : ScalarN c := hp c (by rw [← e]; simp)
    have hz : ¬ d.toArray.size > sizeLine := by
      have h1 : d.length ≤ ps.length := by rw [← e]; simp
      rw [List.size_toArray, PySem.sizeLine_eq]
      omega
    have hb : encB ps = encB d ++ ((octN c).map fun o => o.toUInt8).toArray ++ encB r := by rw [← e, encB_app, encB_cons, Array.append_assoc]
    have hsz : (encB (d ++ [c])).size = (encB d).size + (octN c).length := by rw [encB_app, Array.size_append, encB_cons]; simp [encB]
    have hlt : ¬ (encB d).size ≥ (encB ps).size := by
      have := oct_pos c
      rw [hb]
      simp only [Array.size_append, List.size_toArray, List.length_map]
      omega
    have hf : utf8Decoder.find true (encB ps) (encB d).size = Found.text [c] ((encB d).size + (octN c).length) := by
      show (match Bytes.utf8At (encB ps) (encB d).size with | (.char c, nx) => Found.char c nx | (.bad _ stop reason, _) => _) = _
      rw [hb, utf8_at hc]
      rfl
    dsimp only
    rw [if_neg hz, if_neg hlt, hf, hsz]
    simp
  · intro i
    have hz : ¬ ps.toArray.size > sizeLine := by
      rw [List.size_toArray, PySem.sizeLine_eq]
      omega
    dsimp only
    rw [if_neg hz, if_pos (Nat.le_refl _)]
  · rw [pure_bind]
end Mine
end

/-! MCall -/
section
open PySem PySem.W PyProof.Rows PySem.Calls
namespace Mine
open PySem.Builtin PySem.Builtin._codecs

section
variable {prog : Program} {w : World} {A : Around} {E : Value → Shared → Prop} {s : Shared}
theorem enc_tree (x : Str) (t u : Tok) : «str.encode» ⟨[.str x t, .str (Str.ofString "utf-8") u], []⟩ = (encodeRoad "str.encode" (.str x t) x (Str.ofString "utf-8") none >>= fun v => ret v) := by kernel_rfl
theorem dec_tree0 (t u v : Tok) : «bytes.decode» ⟨[.bytes #[] t, .str (Str.ofString "utf-8") u, .str (Str.ofString "replace") v], []⟩ = (rule "bytes.decode.empty" >>= fun _ => retStr Str.empty) := by kernel_rfl
theorem dec_tree (c : UInt8) (cs : List UInt8) (t u v : Tok) : «bytes.decode» ⟨[.bytes (c :: cs).toArray t, .str (Str.ofString "utf-8") u, .str (Str.ofString "replace") v], []⟩ =
    (mkStr (Str.ofString "utf-8") >>= fun _ => mkStr (Str.ofString "utf-8") >>= fun e => mkStr (Str.ofString "replace") >>= fun r => mkStr (Str.ofString "bytes.decode") >>= fun d => call (.builtin "_codecs.decode.text") [.bytes (c :: cs).toArray t, e, r, d] >>= fun v => ret v) := by kernel_rfl
theorem road_rep (id : String) (b : Array UInt8) : decodeRoad id b (Str.ofString "utf-8") (some (Str.ofString "replace")) [] = (runDecoder id utf8Decoder (some (Str.ofString "replace")) true b 0 [] >>= fun r => mkStr ⟨r.1⟩) := by kernel_rfl

theorem enc_meets {x : Str} {t u : Tok} (hc : ∀ c ∈ x.cps.toList, Str.isSurrogate c = false) (hsz : (encOf x).size ≤ sizeLine) :
    Meets («str.encode» ⟨[.str x t, .str (Str.ofString "utf-8") u], []⟩) (fun _ R s => ∀ t' k, R (.ok (.ret (.bytes (encOf x) t'))) { s with toks := k }) := by
  refine .of_wp fun prog w A R s h => ?_
  rw [enc_tree, encodeRoad_utf8, enc_ok _ _ _ hc hsz]
  exact wpAny_bind (wpAny_bind (wpAny_pure (wpAny_mkBytes (wpAny_pure ⟨_, rfl, h _ _⟩) hsz)))
theorem enc_call {x : Str} {t u : Tok} {Q : Value → Shared → Prop} (hc : ∀ c ∈ x.cps.toList, Str.isSurrogate c = false) (hsz : (encOf x).size ≤ sizeLine) (h : ∀ t' k, Q (.bytes (encOf x) t') { s with toks := k }) :
    wpAny (model prog w) A (call (.builtin "str.encode") [.str x t, .str (Str.ofString "utf-8") u]) Q E s :=
  call_meets F.slot_str_encode (typeIs_str _ _ _) F.entry_str_encode (F.args_str_encode_2 _ _) (enc_meets hc hsz) h
theorem enc_method {M : Model} {x : Str} {t : Tok} {pl : Sem Bool} {Q : Value × List Value → Shared → Prop} (h : Q (.builtin "str.encode", [.str x t]) s) : wpAny M A (getMethod (.str x t) "encode" pl) Q E s := by
  with_reducible exact GM.of (.str x t) (typeIs_str _ _ _) F.slot_str_encode F.type_str_encode GM.noRef h

theorem args_dec_3 (a b c : Value) : argsOk "bytes.decode" ⟨[a, b, c], []⟩ := by
  unfold argsOk; rw [signature?_of (id := "bytes.decode") (n := ['e', 'd', 'o', 'c', 'e', 'd']) (o := ['s', 'e', 't', 'y', 'b']) (by kernel_rfl) FB.owner_bytes]; kernel_rfl

theorem text_meets {b : Array UInt8} {t t1 t2 t3 : Tok} {x d : Str} {n : Nat} (hd : ∀ id, runDecoder id utf8Decoder (some (Str.ofString "replace")) true b 0 [] = pure (x.cps, n)) :
    Meets («_codecs.decode.text» ⟨[.bytes b t, .str (Str.ofString "utf-8") t1, .str (Str.ofString "replace") t3, .str d t2], []⟩) (fun _ R s => x.length ≤ sizeLine ∧ R (.ok (.ret (.str x s.toks))) { s with toks := s.toks + 1 }) := by
  refine .of_wp fun prog w A R s hS => ?_
  obtain ⟨hsz, h⟩ := hS
  show wpAny _ _ (Bytes.bytesLike _ (.bytes b t) >>= fun r => _) _ _ s
  refine wpAny_bind (wpAny_of_eq KBd.like_eq ?_)
  refine wpAny_bind (wpAny_of_eq KBd.held_eq ?_)
  show wpAny _ _ (decodeRoad _ b (Str.ofString "utf-8") (some (Str.ofString "replace")) [] >>= fun v => _) _ _ s
  rw [road_rep, hd]
  refine wpAny_bind (wpAny_bind (wpAny_pure ?_))
  exact wpAny_mkStr (wpAny_pure ⟨_, rfl, h⟩) hsz

theorem dec_meets {b : Array UInt8} {t u v : Tok} {x : Str} {n : Nat} (hd : ∀ id, runDecoder id utf8Decoder (some (Str.ofString "replace")) true b 0 [] = pure (x.cps, n)) (h0 : b = #[] → x = Str.empty) :
    Meets («bytes.decode» ⟨[.bytes b t, .str (Str.ofString "utf-8") u, .str (Str.ofString "replace") v], []⟩) (fun _ R s => x.length ≤ sizeLine ∧ ∀ t' k, R (.ok (.ret (.str x t'))) { s with toks := k }) := by
  refine .of_wp fun prog w A R s hS => ?_
  obtain ⟨hsz, h⟩ := hS
  obtain ⟨l⟩ := b
  cases l with
  | nil =>
    rw [dec_tree0]
    have e := h0 rfl
    subst e
    exact wpAny_bind (wpAny_rule (wpAny_bind (wpAny_mkStr (wpAny_pure ⟨_, rfl, h _ _⟩) hsz)))
  | cons c cs =>
    rw [dec_tree]
    refine wpAny_bind (wpAny_mkStr ?_ (by decide))
    refine wpAny_bind (wpAny_mkStr ?_ (by decide))
    refine wpAny_bind (wpAny_mkStr ?_ (by decide))
    refine wpAny_bind (wpAny_mkStr ?_ (by decide))
    exact wpAny_bind (call_function_meets KBd.kind_text KBd.plain_text KBd.entry_text (KBd.args_text _ _ _ _) (text_meets hd) ⟨hsz, wpAny_pure ⟨_, rfl, h _ _⟩⟩)

theorem dec_call {ps : List Nat} {t u v : Tok} {Q : Value → Shared → Prop} (hp : ∀ p ∈ ps, ScalarN p) (hlen : ps.length ≤ 1000000) (h : ∀ t' k, Q (.str (Mine.T ps) t') { s with toks := k }) :
    wpAny (model prog w) A (call (.builtin "bytes.decode") [.bytes (encB ps) t, .str (Str.ofString "utf-8") u, .str (Str.ofString "replace") v]) Q E s :=
  call_meets FB.slot_bytes_decode (typeIs_bytes _ _ _) FB.entry_bytes_decode (args_dec_3 _ _ _) (dec_meets (x := Mine.T ps) (fun id => dec_ok id _ ps hp hlen) (fun e => by
    cases ps with
    | nil => rfl
    | cons c r => have h1 := encB_ge (c :: r); rw [e] at h1; simp at h1)) ⟨by rw [T_len, sizeLine_eq]; omega, h⟩
theorem dec_method {M : Model} {b : Array UInt8} {t : Tok} {pl : Sem Bool} {Q : Value × List Value → Shared → Prop} (h : Q (.builtin "bytes.decode", [.bytes b t]) s) : wpAny M A (getMethod (.bytes b t) "decode" pl) Q E s := KBd.method h
end
end Mine
end

/-! MInt -/
section
open PySem PySem.W PyProof.Rows PySem.Calls PySem.NumText
namespace Mine

/-! int(text, 16) of two figures -/
noncomputable def isVal (n : (int_private% "Numeral")) : Option Int := by
  cases n
  · exact none
  · exact none
  · exact none
  · rename_i i; exact some i
theorem isVal_eq {x : (int_private% "Numeral")} {i : Int} (h : isVal x = some i) : x = (int_private% "Numeral.value") i := by
  cases x
  all_goals first | (exact absurd (show (none : Option Int) = some i from h) (by intro h; cases h)) | (rename_i k; have e : (some k : Option Int) = some i := h; cases e; rfl)
theorem rd_hex : ∀ i : Nat, i < 16 → ∀ j : Nat, j < 16 → isVal ((int_private% "readNumeral") 0 16 ([hexN i, hexN j].takeWhile (· != 0))) = some ((16 * i + j : Nat) : Int) := by decide +kernel
theorem hex_seen : ∀ i : Nat, i < 16 → ∀ j : Nat, j < 16 → ([hexN i, hexN j].takeWhile (· != 0)).length = 2 ∧ ([hexN i, hexN j] : List Nat).all (· < 128) = true := by decide +kernel

theorem wp_text16 {M : Model} {A : Around} {E : Value → Shared → Prop} {s : Shared} {Q : Value → Shared → Prop} {v : Value} {text : List Nat} {n : Int}
    (hs : (text.takeWhile (· != 0)).length ≤ 640) (hr : (int_private% "readNumeral") 0 16 (text.takeWhile (· != 0)) = (int_private% "Numeral.value") n)
    (ha : ((text.takeWhile (· != 0)).length == text.length) = true) (h : Q (.int n s.toks) { s with toks := s.toks + 1 }) :
    wpAny M A ((int_private% "intFromText") v text 16) Q E s := by
  obtain ⟨hp, g, d, tk, os⟩ := s
  repeat (any_goals (first
    | assumption
    | (with_reducible refine wpAny_ite_true (decide_eq_true hs) ?_)
    | (with_reducible refine wpAny_ite_true (decide_eq_true ha) ?_)
    | wp_step))
  all_goals (try rw [hr])
  all_goals (try dsimp only)
  repeat (any_goals (first
    | assumption
    | (with_reducible refine wpAny_ite_true (decide_eq_true hs) ?_)
    | (with_reducible refine wpAny_ite_true (decide_eq_true ha) ?_)
    | wp_step))

theorem num_hex {i j : Nat} (hi : i < 16) (hj : j < 16) (u : Tok) : (int_private% "numeralText?") (.str (Mine.T [hexN i, hexN j]) u) = pure (some [hexN i, hexN j]) := by
  have e : (int_private% "numeralText?") (.str (Mine.T [hexN i, hexN j]) u) = pure (some (if (Mine.T [hexN i, hexN j]).cps.all (· < 128) then (Mine.T [hexN i, hexN j]).cps.toList else Unicode.numberText (Mine.T [hexN i, hexN j]).cps.toList)) := rfl
  have e2 : (Mine.T [hexN i, hexN j]).cps.all (· < 128) = true := by
    have := (hex_seen i hi j hj).2
    simpa [Mine.T] using this
  rw [e, if_pos e2]
  rfl

theorem gives_hex {i j : Nat} (hi : i < 16) (hj : j < 16) (u b : Tok) : Gives (Builtin.«int.__new__» ⟨[.type "int", .str (Mine.T [hexN i, hexN j]) u, .int 16 b], []⟩) (.int ((16 * i + j : Nat) : Int)) :=
  .of_wp fun M A E s Q h => by
    obtain ⟨hp, g, d, tk, os⟩ := s
    have f1 := F.conv_sub_int
    have f2 := F.madeHere_int
    have f6 : typeOf (.str (Mine.T [hexN i, hexN j]) u) = pure (.type "str") := rfl
    have f7 := num_hex hi hj u
    iterate 36 (any_goals (first | assumption | wp_step))
    refine wp_text16 (n := ((16 * i + j : Nat) : Int)) (Nat.le_trans (Nat.le_of_eq (hex_seen i hi j hj).1) (by decide)) (isVal_eq (rd_hex i hi j hj)) (by rw [(hex_seen i hi j hj).1]; rfl) ?_
    repeat (first | assumption | wp_step)
    exact ⟨_, rfl, h⟩

theorem typeCall_int_2 (a b : Value) : checkTypeCall "int" ⟨[a, b], []⟩ = pure () := by kernel_rfl
theorem newCall_int_2 (a b : Value) : checkBuiltinCall "int.__new__" ⟨[.type "int", a, b], []⟩ = pure () := by kernel_rfl
theorem objInit_3 (a b c : Value) : argsOk "object.__init__" ⟨[a, b, c], []⟩ := by unfold argsOk; kernel_rfl

section
variable {prog : Program} {w : World} {A : Around} {E : Value → Shared → Prop} {s : Shared}
theorem call_hex {i j : Nat} (hi : i < 16) (hj : j < 16) {u b : Tok} {Q : Value → Shared → Prop} (h : Q (.int ((16 * i + j : Nat) : Int) s.toks) { s with toks := s.toks + 1 }) :
    wpAny (model prog w) A (call (.type "int") [.str (Mine.T [hexN i, hexN j]) u, .int 16 b]) Q E s :=
  callType_new F.called_int F.newNe_int (typeCall_int_2 _ _) (newCall_int_2 _ _) (fun obj => objInit_3 obj _ _) F.entry_int_new (gives_hex hi hj u b).meets (show (Made.int ((16 * i + j : Nat) : Int)).post _ s from ⟨rfl, h⟩)
end
end Mine
end

/-! MToks -/
section
open PySem PySem.W PyProof.Rows
namespace Mine

/-- a run never takes a token back -/
theorem runs_toks {M : Model} {Γ : Ctx} {p : Pos} {t : Sem PySem.Fin} {fs : List Frame} {s s' : Shared} {e : End} (h : Runs M Γ p t fs s e s') : s.toks ≤ s'.toks := by
  induction h
  all_goals (try dsimp only [Shared.setGen] at *)
  all_goals first | assumption | omega | exact Nat.le_refl _ 

theorem wakes_toks {M : Model} {Γ : Ctx} {p : Pos} {g : Nat} {r : Resume} {s s' : Shared} {res : GenResult} (h : Wakes M Γ p g r s res s') : s.toks ≤ s'.toks := by
  unfold Wakes at h
  split at h
  · exact h.elim
  · split at h
    · obtain ⟨e₁, s₁, h1, _, _, e⟩ := h
      have := runs_toks h1
      rw [e]
      exact this
    · obtain ⟨_, e⟩ := h; rw [e]; exact Nat.le_refl _
    · obtain ⟨_, e⟩ := h; rw [e]; exact Nat.le_refl _
  · obtain ⟨e₁, s₁, h1, _, _, e⟩ := h
    have := runs_toks h1
    rw [e]
    exact this
  all_goals (obtain ⟨_, e⟩ := h; rw [e]; exact Nat.le_refl _)

theorem wp_toks {α : Type} {M : Model} {Γ : Ctx} (n : Nat) : ∀ (t : Sem α) {Q : α → Pos → Shared → Prop} {E : Value → Pos → Shared → Prop} {p : Pos} {s : Shared}, n ≤ s.toks → Sem.wp M Γ t Q E p s →
    Sem.wp M Γ t (fun a p' s' => n ≤ s'.toks ∧ Q a p' s') (fun e p' s' => n ≤ s'.toks ∧ E e p' s') p s := by
  intro t
  induction t with
  | «pure» a => intro Q E p s hn h; exact ⟨hn, h⟩
  | «raise» e => intro Q E p s hn h; exact ⟨hn, h⟩
  | «unsupported» w => intro Q E p s hn h; exact h
  | «finish» e => intro Q E p s hn h; exact h
  | «rule» t k ih => intro Q E p s hn h; exact ih () hn h
  | «at» q k ih => intro Q E p s hn h; exact ih () hn h
  | «load» a q k ih => intro Q E p s hn h; obtain ⟨o, h1, h2⟩ := h; exact ⟨o, h1, ih o hn h2⟩
  | «update» a q f k ih => intro Q E p s hn h; obtain ⟨h1, h2⟩ := h; exact ⟨h1, ih () hn h2⟩
  | «alloc» o k ih => intro Q E p s hn h; exact ih _ hn h
  | «loadIfAlive» a k ih => intro Q E p s hn h; exact ih _ hn h
  | «point» l k ih => intro Q E p s hn h; exact ih () hn h
  | «register» a k ih => intro Q E p s hn h; exact h
  | «fresh» k ih => intro Q E p s hn h; exact ih _ (Nat.le_succ_of_le hn) h
  | «ask» k ih => intro Q E p s hn h; exact ih _ hn h
  | «choose» src m k ih => intro Q E p s hn h; obtain ⟨h1, h2⟩ := h; exact ⟨h1, ih _ hn h2⟩
  | «os» q l k ih => intro Q E p s hn h; exact ih _ hn h
  | «call» c hd g l k ih =>
    intro Q E p s hn h
    obtain ⟨r, s', h1, h2⟩ := h
    exact ⟨r, s', h1, ih r (Nat.le_trans hn (runs_toks h1)) h2⟩
  | «handled» own k ih => intro Q E p s hn h; exact ih _ hn h
  | «newGen» c k ih => intro Q E p s hn h; exact ih _ hn h
  | «genState» g k ih => intro Q E p s hn h; obtain ⟨st, h1, h2⟩ := h; exact ⟨st, h1, ih _ hn h2⟩
  | «resume» g r l k ih => intro Q E p s hn h; obtain ⟨res, s', h1, h2⟩ := h; exact ⟨res, s', h1, ih _ (Nat.le_trans hn (wakes_toks h1)) h2⟩
  | «yield» v g l k ih => intro Q E p s hn h; exact h
  | «stack» k ih => intro Q E p s hn h; exact ih _ hn h
  | «fork» c k ih => intro Q E p s hn h; exact h
  | «thread» k ih => intro Q E p s hn h; exact ih _ hn h
  | «await» a tk tm l k ih => intro Q E p s hn h; exact h

theorem wpAny_toks {α : Type} {M : Model} {A : Around} {t : Sem α} {Q : α → Shared → Prop} {E : Value → Shared → Prop} {s : Shared} (h : wpAny M A t Q E s) :
    wpAny M A t (fun a s' => s.toks ≤ s'.toks ∧ Q a s') (fun e s' => s.toks ≤ s'.toks ∧ E e s') s :=
  fun Γ p hΓ => wp_toks s.toks t (Nat.le_refl _) (h Γ p hΓ)

/-- to use it: the end may lean on the tokens not having fallen -/
theorem wpAny_up {α : Type} {M : Model} {A : Around} {t : Sem α} {Q Q' : α → Shared → Prop} {E : Value → Shared → Prop} {s : Shared} (h : wpAny M A t Q' E s) (hq : ∀ a s', s.toks ≤ s'.toks → Q' a s' → Q a s') : wpAny M A t Q E s :=
  wpAny_mono (wpAny_toks h) (fun a s' x => hq a s' x.1 x.2) fun e s' x => x.2

theorem specV_up {w : World} {n : Nat} {f : Addr} {news : Led} {pre : Prop} {vs : List Value} {kw : List (Str × Value)} {post : Value → Prop} (S : SpecV w n f news pre vs kw post)
    {loose : List Str} {mean : ExcName → Option Value} {mg mb : Str → Option Value} {dp un : Nat} {gd : Option (List Code)} {cn : Str} {cs : Scope} {a : Addr} {ccd : Value} {cl : List (Str × Addr)} {outer : List Env} {A₀ : Around} {base h₀ : Heap} {L : Addr} {m : Str → Option Value} {s : Shared} {Q E : Value → Shared → Prop}
    (B : Below A₀ base outer h₀) (F : Fr h₀ L s.heap m) (X : (hd.heap_39 w.params).In h₀) (N : News h₀ L s.heap news) (T : Top hd.view_39 loose mean mg mb h₀) (hk : cs.kind = .function) (hd : dp + n < recursionLimit) (hu : un + 8 * n < cLine) (hp : pre)
    (ret : ∀ r h' tk', s.toks ≤ tk' → Fr h₀ L h' m → News h₀ L h' news → post r → Q r { s with heap := h', toks := tk' }) :
    wpAny (model Challenge.rw_ep5033_01.row.prog w) (ktrTop dp un gd cn cs L a ccd cl outer) (call (.ref f) vs kw) Q E s :=
  wpAny_up (specV_use S (Q := fun r s' => ∃ h' tk', s' = { s with heap := h', toks := tk' } ∧ Fr h₀ L h' m ∧ News h₀ L h' news ∧ post r) B F X N T hk hd hu hp fun r h' tk' F N p => ⟨h', tk', rfl, F, N, p⟩)
    fun r s' le ⟨h', tk', e, F, N, p⟩ => by subst e; exact ret r h' tk' le F N p
end Mine
end

/-! MPure -/
section
open PySem PySem.W PyProof.Rows
namespace Mine

/-- written with each blank as a plus -/
def plL (ps : List Nat) : List Nat := ps.flatMap fun p => if p = 32 then [43] else wrL [] [p]
def sub (c d : Nat) (k : Nat) : Nat := if k = c then d else k

theorem sub_free (c d : Nat) (l : List Nat) (h : c ∉ l) : l.map (sub c d) = l := by
  induction l with
  | nil => rfl
  | cons a r ih =>
    rw [List.map_cons, ih (fun m => h (List.mem_cons_of_mem _ m))]
    unfold sub
    rw [if_neg (fun (e : a = c) => h (by rw [e]; exact List.mem_cons_self))]
theorem sub_join (c d : Nat) : ∀ parts : List Str, (∀ p ∈ parts, c ∉ p.cps.toList) → (Str.join ⟨#[c]⟩ parts).cps.toList.map (sub c d) = (Str.join ⟨#[d]⟩ parts).cps.toList
  | [], _ => rfl
  | [p], h => sub_free c d _ (h p (List.mem_singleton.mpr rfl))
  | p :: q :: r, h => by
    have ih := sub_join c d (q :: r) fun a ha => h a (List.mem_cons_of_mem _ ha)
    show (p ++ ⟨#[c]⟩ ++ Str.join ⟨#[c]⟩ (q :: r)).cps.toList.map (sub c d) = (p ++ ⟨#[d]⟩ ++ Str.join ⟨#[d]⟩ (q :: r)).cps.toList
    simp only [Str.cps_append, Array.toList_append, List.map_append]
    rw [ih, sub_free c d _ (h p (List.mem_cons_self ..))]
    show p.cps.toList ++ [sub c d c] ++ _ = _
    unfold sub
    rw [if_pos rfl]
theorem replace_sub (l : List Nat) (c d : Nat) : Txt.replace (T l) ⟨#[c]⟩ ⟨#[d]⟩ = T (l.map (sub c d)) := by
  have h : (Txt.replace (T l) ⟨#[c]⟩ ⟨#[d]⟩).cps.toList = l.map (sub c d) := by
    rw [StrLaws.replace_one, ← sub_join c d _ (StrLaws.split_free (T l) c), StrLaws.join_split]
    rfl
  have e : (Txt.replace (T l) ⟨#[c]⟩ ⟨#[d]⟩).cps = (l.map (sub c d)).toArray := by rw [← h]
  exact congrArg Str.mk e
theorem replace_none (l : List Nat) (c : Nat) : Txt.replace (T l) ⟨#[c]⟩ ⟨#[]⟩ = T (l.filter (· != c)) := by
  have h := PyProof.Rows.replace_strikes (T l) c
  have e : (Txt.replace (T l) ⟨#[c]⟩ ⟨#[]⟩).cps = (l.filter (· != c)).toArray := by
    have h' : (Txt.replace (T l) ⟨#[c]⟩ ⟨#[]⟩).cps.toList = l.filter (· != c) := h
    rw [← h']
  exact congrArg Str.mk e

theorem wrL_len (may ps : List Nat) : (wrL may ps).length ≤ 12 * ps.length := by
  have h1 := octs_len ps
  have h2 : ∀ l : List Nat, (l.flatMap (wrO may)).length ≤ 3 * l.length := by
    intro l
    induction l with
    | nil => simp
    | cons a r ih => have := wrO_len (may := may) a; simp at ih ⊢; omega
  have h3 := h2 (ps.flatMap octN)
  unfold wrL
  omega
theorem wrL_each (may ps : List Nat) : wrL may ps = ps.flatMap fun p => wrL may [p] := by
  unfold wrL
  rw [List.flatMap_assoc]
  simp
theorem hex_ne : ∀ d : Nat, d < 16 → hexN d ≠ 32 ∧ hexN d ≠ 43 ∧ hexN d ≠ 37 ∧ hexN d < 128 := by decide
theorem free_ne : ∀ o : Nat, o < 256 → freeN o = true → o ≠ 32 ∧ o ≠ 43 ∧ o ≠ 37 ∧ o < 128 := by decide
theorem pl_one {o : Nat} (ho : o < 256) (h : o ≠ 32) : (wrO [32] o).map (sub 32 43) = wrO [] o := by
  have e : wrO [32] o = wrO [] o := by
    unfold wrO
    have : ([32] : List Nat).contains o = false := by simpa using h
    rw [this]
    simp
  rw [e]
  refine sub_free _ _ _ ?_
  unfold wrO
  have h1 := hex_ne (o / 16) (by omega)
  have h2 := hex_ne (o % 16) (by omega)
  have h3 := free_ne o ho
  split
  · simp [Ne.symm h]
  · simp [Ne.symm h1.1, Ne.symm h2.1]
theorem oct_32 {p : Nat} (h : p ≠ 32) : ∀ o ∈ octN p, o ≠ 32 := by
  unfold octN
  repeat' split
  all_goals (intro o ho; simp at ho; omega)
theorem map_flat {l : List Nat} {f g : Nat → List Nat} {k : Nat → Nat} (h : ∀ a ∈ l, (f a).map k = g a) : (l.flatMap f).map k = l.flatMap g := by
  induction l with
  | nil => rfl
  | cons a r ih =>
    rw [List.flatMap_cons, List.map_append, List.flatMap_cons, h a List.mem_cons_self, ih fun b hb => h b (List.mem_cons_of_mem _ hb)]
theorem plus_law (ps : List Nat) (hp : ∀ p ∈ ps, p < 1114112) : (wrL [32] ps).map (sub 32 43) = plL ps := by
  rw [wrL_each]
  unfold plL
  refine map_flat fun p hpm => ?_
  by_cases h : p = 32
  · subst h; decide
  · rw [if_neg h]
    unfold wrL
    refine map_flat fun o ho => ?_
    have ho' : o ∈ octN p := by simpa using ho
    exact pl_one (oct_lt (hp p hpm) o ho') (oct_32 h o ho')
end Mine
end

/-! MRep -/
section
open PySem PySem.W PyProof.Rows PySem.Calls
namespace Mine
section
variable {prog : Program} {w : World} {A : Around} {E : Value → Shared → Prop} {s : Shared} {t u v : Tok} {Q : Value → Shared → Prop}
theorem rep_up {x y z r : Str} (e : Txt.replace x y z = r) (hu : u ≠ 0) (hv : v ≠ 0) (huv : u ≠ v) (hyz : (y == z) = false) (hx : x.length ≤ 1048576) (hz : z.length ≤ 14)
    (hq : ∀ t' k, s.toks ≤ k → Q (.str r t') { s with toks := k }) : wpAny (model prog w) A (call (.builtin "str.replace") [.str x t, .str y u, .str z v]) Q E s := by
  subst e
  exact wpAny_up (SC.replaceW (Q := fun r' s' => ∃ t' k, r' = .str (Txt.replace x y z) t' ∧ s' = { s with toks := k }) hu hv huv hyz hx hz fun t' k => ⟨t', k, rfl, rfl⟩)
    fun r' s' le ⟨t', k, e1, e2⟩ => by subst e1; subst e2; exact hq t' k le
theorem rep_plus {l : List Nat} (hu : u ≠ 0) (hv : v ≠ 0) (huv : u ≠ v) (hx : l.length ≤ 1048576) (hq : ∀ t' k, s.toks ≤ k → Q (.str (T (l.map (sub 43 32))) t') { s with toks := k }) :
    wpAny (model prog w) A (call (.builtin "str.replace") [.str (T l) t, .str (Str.ofString "+") u, .str (Str.ofString " ") v]) Q E s :=
  rep_up (by rw [show Str.ofString " " = ⟨#[32]⟩ from by decide, show Str.ofString "+" = ⟨#[43]⟩ from by decide, replace_sub]) hu hv huv (by decide) (by rw [T_len]; exact hx) (by decide) hq
theorem rep_blank {l : List Nat} (hu : u ≠ 0) (hv : v ≠ 0) (huv : u ≠ v) (hx : l.length ≤ 1048576) (hq : ∀ t' k, s.toks ≤ k → Q (.str (T (l.map (sub 32 43))) t') { s with toks := k }) :
    wpAny (model prog w) A (call (.builtin "str.replace") [.str (T l) t, .str (Str.ofString " ") u, .str (Str.ofString "+") v]) Q E s :=
  rep_up (by rw [show Str.ofString " " = ⟨#[32]⟩ from by decide, show Str.ofString "+" = ⟨#[43]⟩ from by decide, replace_sub]) hu hv huv (by decide) (by rw [T_len]; exact hx) (by decide) hq
theorem rep_pct {l : List Nat} (hu : u ≠ 0) (hv : v ≠ 0) (huv : u ≠ v) (hx : l.length ≤ 1048576) (hq : ∀ t' k, s.toks ≤ k → Q (.str (T (l.filter (· != 37))) t') { s with toks := k }) :
    wpAny (model prog w) A (call (.builtin "str.replace") [.str (T l) t, .str (Str.ofString "%") u, .str (Str.ofString "") v]) Q E s :=
  rep_up (by rw [show Str.ofString "%" = ⟨#[37]⟩ from by decide, show Str.ofString "" = ⟨#[]⟩ from by decide, replace_none]) hu hv huv (by decide) (by rw [T_len]; exact hx) (by decide) hq
theorem ne_same {x : Str} (h : Q (.bool false) s) : wpAny (model prog w) A (compareOp .NotEq (.str x t) (.str x u)) Q E s := P.ne_str (by simpa using h)
theorem eq_same {x : Str} (h : Q (.bool true) s) : wpAny (model prog w) A (compareOp .Eq (.str x t) (.str x u)) Q E s := P.eq_str (by simpa using h)
theorem add_TT {a b : List Nat} (hz : a.length + b.length ≤ 100000) (h : ∀ t' k, Q (.str (T (a ++ b)) t') { s with toks := k }) : wpAny (model prog w) A (binaryOp .Add (.str (T a) t) (.str (T b) u)) Q E s :=
  SB.add (fun t' k => by rw [app_T]; exact h t' k) (by rw [T_len, T_len, PySem.sizeLine_eq]; omega)
end

end Mine
end

/-! MQuote -/
section
open PySem PySem.W PyProof.Rows
namespace Mine
section
local macro_rules | `(tactic| walk_at "eval ListComp") => `(tactic| (k_here; k_dflt (refine comp_bytes (by with_unfolding_all rfl) (by decide) (by rfl) (by decide) (by rfl) (by k_asm) ?_)))
local macro_rules | `(tactic| walk_at "getMethod str") => `(tactic| (k_here; (with_reducible refine enc_method ?_)))
local macro_rules | `(tactic| walk_at "call builtin:str.encode") => `(tactic| (k_here; (with_reducible show wpAny _ _ (call (Value.builtin "str.encode") [Value.str _ _, Value.str _ _]) _ _ _); (refine enc_call (by assumption) (by assumption) ?_); intro _ _))
local macro_rules | `(tactic| walk_at "formatField int") => `(tactic| (k_here; (with_reducible show wpAny _ _ (formatField (Value.int _ _) _) _ _ _); (refine field_X (by assumption) (by assumption) (by kxf_eq) ?_); intro _ _))
local macro_rules | `(tactic| walk_at "call builtin:str.join") => `(tactic| (k_here; (with_reducible show wpAny _ _ (call (Value.builtin "str.join") [Value.str _ _, Value.ref _]) _ _ _); (refine KT.join_B 3 (by first | exact News.isList (by k_asm) (by k_mem)) (by assumption) (by assumption) (by assumption) (by decide) ?_); intro _ _))

theorem quote_spec (w : World) (ps may : List Nat) (t u : Tok) (hp : ∀ p ∈ ps, ScalarN p) (hlen : ps.length ≤ 1000) (hm : ∀ p ∈ may, p < 128) (news : Led) :
   SpecV w 10 19 news True [.str (T ps) t, .str (T may) u] [] (fun r => ∃ v, r = .str (T (wrL may ps)) v) := by
  delta SpecV; k_fill; w_top off
  intro loose mean mg mb dp un gd cn cs a ccd cl outer A₀ base h₀ L m s Q E B F X N Tp hk hdp hun hpre hret
  refine wpAny_call ?_
  k_dflt (refine' code_defC ?k1 ?k2 ?k3 ?k4 ?k5 ?kA ?kF ?kK ?k6 ?k7 ?k8 ?k9 ?kB ?kD ?_ ?c2 ?c3 ?c4; (case kA => exact rfl); (case kF => exact rfl); (case kK => assumption); (case k1 => k_asm); (case k2 => k_asm); (case k3 => k_asm); (case k4 => k_asm); (case k5 => k_asm); (case k6 => k_is); (case k7 => k_is); (case k8 => ktr_room); (case k9 => exact BindsTo.of_eq rfl); (case kB => exact rfl); (case kD => decide +kernel); (case c2 => exact rfl); (case c3 => exact rfl); (case c4 => exact rfl); k_whole; intro g' L' h' tk' cells' FG' F' N' Y' B' X' T' l1; (try k_lt l1); k_cells Y'; (try simp only [List.cons_append, List.nil_append] at N'); (try dsimp only); (try k_lift B'); (try k_fold))
  have hc : ∀ c ∈ (T ps).cps.toList, Str.isSurrogate c = false := by
    intro c hcm
    have h1 := hp c (by simpa [T] using hcm)
    unfold ScalarN at h1
    unfold Str.isSurrogate
    simp
    omega
  have hsz : (encOf (T ps)).size ≤ sizeLine := by
    rw [enc_list, encB_size, sizeLine_eq]
    have := octs_len ps
    simp only [T] at this ⊢
    omega
  k_steps
  refine ⟨_, _, _, rfl, rfl, by k_asm, by k_asm, hsz, fun g'' => ?_⟩
  have hlt : ∀ o ∈ ps.flatMap octN, o < 256 := octs_lt fun p h => (hp p h).1
  have hB : ∀ a ∈ (ps.flatMap octN).map (fun o => ((o : Nat) : Int)), (Mine.T (wrO may a.toNat)).length ≤ 3 := fun a _ => by rw [T_len]; exact wrO_len _
  have hn : ((ps.flatMap octN).map (fun o => ((o : Nat) : Int))).length ≤ 1048576 := by
    have := octs_len ps
    rw [List.length_map]
    omega
  refine kct_rest (ks := (ps.flatMap octN).map fun o => ((o : Nat) : Int)) (fun k => Mine.T (wrO may k.toNat)) ?_ ?_ (fun k t I oI C oC D m₂ ys h tk E' hk hC hx F' N' off ne mk => ?_) ?_
  · rw [enc_list, encB_size, List.length_map]
    rfl
  · rintro i v hi ⟨c, u, hc, rfl⟩
    have hb : encOf (T ps) = encB ps := enc_list (T ps)
    rw [hb] at hc
    have hc2 : ((ps.flatMap octN).map fun o => o.toUInt8)[i]? = some c := by simpa [encB] using hc
    rw [List.getElem?_map] at hc2
    obtain ⟨o, ho, rfl⟩ := Option.map_eq_some_iff.mp hc2
    refine ⟨(o : Int), u, by rw [List.getElem?_map, ho]; rfl, ?_⟩
    rw [toU8 (hlt o (List.mem_of_getElem? ho))]
  · have hk0 : 0 ≤ k ∧ k < 256 := by
      obtain ⟨o, ho, rfl⟩ := List.mem_map.mp hk
      have := hlt o ho
      omega
    obtain ⟨hk0, hk1⟩ := hk0
    have hk2 : k.toNat < 256 := by omega
    have off' := off
    simp only [LCg.Off3] at off'
    k_steps
    all_goals (refine LCg.CompEnd.intro (by k_asm) (by k_asm) _ (fun _ h => h) off trivial (kct_el ?_ rfl rfl))
    all_goals first | exact q_plain hk2 (by assumption) | exact q_may hm (by assumption) | exact q_pct hk2 (by assumption) (by assumption)
  · intro ys hys hl
    k_steps
    all_goals (refine hret _ _ _ (by k_asm) (by first | k_asm | (refine' cb_drop ?cN ?cS; (case cN => k_asm); (case cS => (intro p h; repeat (first | exact h | refine List.mem_cons_of_mem _ ?_))))) ⟨_, congrArg (fun x => Value.str x _) ?_⟩)
    have e := join_T ((ps.flatMap octN).map (wrO may))
    rw [List.map_map] at e
    rw [List.map_map]
    refine e.trans (congrArg Mine.T ?_)
    unfold wrL
    rw [List.flatMap_def (f := wrO may)]
end
end Mine
end

/-! MQuoteKw -/
section
open PySem PySem.W PyProof.Rows
namespace Mine
section
local macro_rules | `(tactic| walk_at "eval ListComp") => `(tactic| (k_here; k_dflt (refine comp_bytes (by with_unfolding_all rfl) (by decide) (by rfl) (by decide) (by rfl) (by k_asm) ?_)))
local macro_rules | `(tactic| walk_at "getMethod str") => `(tactic| (k_here; (with_reducible refine enc_method ?_)))
local macro_rules | `(tactic| walk_at "call builtin:str.encode") => `(tactic| (k_here; (with_reducible show wpAny _ _ (call (Value.builtin "str.encode") [Value.str _ _, Value.str _ _]) _ _ _); (refine enc_call (by assumption) (by assumption) ?_); intro _ _))
local macro_rules | `(tactic| walk_at "formatField int") => `(tactic| (k_here; (with_reducible show wpAny _ _ (formatField (Value.int _ _) _) _ _ _); (refine field_X (by assumption) (by assumption) (by kxf_eq) ?_); intro _ _))
local macro_rules | `(tactic| walk_at "call builtin:str.join") => `(tactic| (k_here; (with_reducible show wpAny _ _ (call (Value.builtin "str.join") [Value.str _ _, Value.ref _]) _ _ _); (refine KT.join_B 3 (by first | exact News.isList (by k_asm) (by k_mem)) (by assumption) (by assumption) (by assumption) (by decide) ?_); intro _ _))
local macro_rules | `(tactic| walk_at "dummy") => `(tactic| skip)

theorem quote_kw (w : World) (ps may : List Nat) (t u : Tok) (hp : ∀ p ∈ ps, ScalarN p) (hlen : ps.length ≤ 1000) (hm : ∀ p ∈ may, p < 128) (news : Led) :
   SpecV w 10 19 news True [.str (T ps) t] [(Str.ofString "safe", .str (T may) u)] (fun r => ∃ v, r = .str (T (wrL may ps)) v) := by
  delta SpecV; k_fill; w_top off
  intro loose mean mg mb dp un gd cn cs a ccd cl outer A₀ base h₀ L m s Q E B F X N Tp hk hdp hun hpre hret
  refine wpAny_call ?_
  k_dflt (refine' code_defC ?k1 ?k2 ?k3 ?k4 ?k5 ?kA ?kF ?kK ?k6 ?k7 ?k8 ?k9 ?kB ?kD ?_ ?c2 ?c3 ?c4; (case kA => exact rfl); (case kF => exact rfl); (case kK => assumption); (case k1 => k_asm); (case k2 => k_asm); (case k3 => k_asm); (case k4 => k_asm); (case k5 => k_asm); (case k6 => k_is); (case k7 => k_is); (case k8 => ktr_room); (case k9 => first | exact BindsTo.of_eq rfl | exact binds_K (by k_in) rfl (by k_is) rfl rfl rfl); (case kB => exact rfl); (case kD => decide +kernel); (case c2 => exact rfl); (case c3 => exact rfl); (case c4 => exact rfl); k_whole; intro g' L' h' tk' cells' FG' F' N' Y' B' X' T' l1; (try k_lt l1); k_cells Y'; (try simp only [List.cons_append, List.nil_append] at N'); (try dsimp only); (try k_lift B'); (try k_fold))
  have hc : ∀ c ∈ (T ps).cps.toList, Str.isSurrogate c = false := by
    intro c hcm
    have h1 := hp c (by simpa [T] using hcm)
    unfold ScalarN at h1
    unfold Str.isSurrogate
    simp
    omega
  have hsz : (encOf (T ps)).size ≤ sizeLine := by
    rw [enc_list, encB_size, sizeLine_eq]
    have := octs_len ps
    simp only [T] at this ⊢
    omega
  k_steps
  refine ⟨_, _, _, rfl, rfl, by k_asm, by k_asm, hsz, fun g'' => ?_⟩
  have hlt : ∀ o ∈ ps.flatMap octN, o < 256 := octs_lt fun p h => (hp p h).1
  have hB : ∀ a ∈ (ps.flatMap octN).map (fun o => ((o : Nat) : Int)), (Mine.T (wrO may a.toNat)).length ≤ 3 := fun a _ => by rw [T_len]; exact wrO_len _
  have hn : ((ps.flatMap octN).map (fun o => ((o : Nat) : Int))).length ≤ 1048576 := by
    have := octs_len ps
    rw [List.length_map]
    omega
  refine kct_rest (ks := (ps.flatMap octN).map fun o => ((o : Nat) : Int)) (fun k => Mine.T (wrO may k.toNat)) ?_ ?_ (fun k t I oI C oC D m₂ ys h tk E' hk hC hx F' N' off ne mk => ?_) ?_
  · rw [enc_list, encB_size, List.length_map]
    rfl
  · rintro i v hi ⟨c, u, hc, rfl⟩
    have hb : encOf (T ps) = encB ps := enc_list (T ps)
    rw [hb] at hc
    have hc2 : ((ps.flatMap octN).map fun o => o.toUInt8)[i]? = some c := by simpa [encB] using hc
    rw [List.getElem?_map] at hc2
    obtain ⟨o, ho, rfl⟩ := Option.map_eq_some_iff.mp hc2
    refine ⟨(o : Int), u, by rw [List.getElem?_map, ho]; rfl, ?_⟩
    rw [toU8 (hlt o (List.mem_of_getElem? ho))]
  · have hk0 : 0 ≤ k ∧ k < 256 := by
      obtain ⟨o, ho, rfl⟩ := List.mem_map.mp hk
      have := hlt o ho
      omega
    obtain ⟨hk0, hk1⟩ := hk0
    have hk2 : k.toNat < 256 := by omega
    have off' := off
    simp only [LCg.Off3] at off'
    k_steps
    all_goals (refine LCg.CompEnd.intro (by k_asm) (by k_asm) _ (fun _ h => h) off trivial (kct_el ?_ rfl rfl))
    all_goals first | exact q_plain hk2 (by assumption) | exact q_may hm (by assumption) | exact q_pct hk2 (by assumption) (by assumption)
  · intro ys hys hl
    k_steps
    all_goals (refine hret _ _ _ (by k_asm) (by first | k_asm | (refine' cb_drop ?cN ?cS; (case cN => k_asm); (case cS => (intro p h; repeat (first | exact h | refine List.mem_cons_of_mem _ ?_))))) ⟨_, congrArg (fun x => Value.str x _) ?_⟩)
    have e := join_T ((ps.flatMap octN).map (wrO may))
    rw [List.map_map] at e
    rw [List.map_map]
    refine e.trans (congrArg Mine.T ?_)
    unfold wrL
    rw [List.flatMap_def (f := wrO may)]
end
end Mine
end

/-! MTxt -/
section
open PySem PySem.W PyProof.Rows
namespace Mine
open PySem.Builtin PySem.Builtin.Str

theorem seqIx {k n : Nat} (h : k < n) : seqIndex? (k : Int) n = some k := by
  unfold seqIndex?
  simp
  omega
theorem item_at {l : List Nat} {k c : Nat} (h : l[k]? = some c) : Txt.item (T l) (k : Int) = T [c] := by
  have hk : k < l.length := by
    rcases Nat.lt_or_ge k l.length with h1 | h1
    · exact h1
    · rw [List.getElem?_eq_none h1] at h; cases h
  have e : Txt.charAt (T l) (k : Int) = some c := by
    unfold Txt.charAt
    rw [T_len, seqIx hk]
    show (T l).cps[k]? = _
    simpa [T] using h
  unfold Txt.item
  rw [e]
  rfl
theorem slice_idx {k n : Nat} (h : k + 2 ≤ n) : strSliceIndices (some (k : Int)) (some ((k : Int) + 2)) 1 n = [k, k + 1] := by
  unfold strSliceIndices
  simp only [show ((1 : Int) > 0) = True from by simp, if_true]
  have e1 : (if (k : Int) < 0 then (k : Int) + n else k) = k := by rw [if_neg (by omega)]
  have e2 : (if (k : Int) + 2 < 0 then (k : Int) + 2 + n else k + 2) = k + 2 := by rw [if_neg (by omega)]
  rw [e1, e2]
  have e3 : max 0 (min (k : Int) n) = k := by omega
  have e4 : max 0 (min ((k : Int) + 2) n) = k + 2 := by omega
  rw [e3, e4]
  unfold sliceRange
  simp only [show ((1 : Int) > 0) = True from by simp, if_true]
  rw [if_pos (by omega)]
  have e5 : (((k : Int) + 2 - k + 1 - 1) / 1).toNat = 2 := by rw [Int.ediv_one]; omega
  rw [e5]
  have e6 : List.range 2 = [0, 1] := rfl
  rw [e6]
  simp
theorem slice_two {l : List Nat} {k a b : Nat} (ha : l[k]? = some a) (hb : l[k + 1]? = some b) : Txt.slice (T l) (some (k : Int)) (some ((k : Int) + 2)) = T [a, b] := by
  have hk : k + 2 ≤ l.length := by
    rcases Nat.lt_or_ge (k + 1) l.length with h1 | h1
    · omega
    · rw [List.getElem?_eq_none h1] at hb; cases hb
  unfold Txt.slice
  rw [T_len, slice_idx hk]
  split
  · rename_i h
    simp at h
    match l, h with
    | [x, y], _ =>
      have : k = 0 := by simp at hk; omega
      subst this
      simp at ha hb
      rw [ha, hb]
  · simp [T, ha, hb]

section
variable {prog : Program} {w : World} {A : Around} {E : Value → Shared → Prop} {s : Shared} {value slice : PySem.Expr} {t u : Tok} {Q : Value → Shared → Prop}
theorem sub_at {l : List Nat} {i : Int} {c : Nat} (h0 : 0 ≤ i) (hc : l[i.toNat]? = some c) (hl : l.length ≤ 1000000) (h : Q (.str (T [c]) s.toks) { s with toks := s.toks + 1 })
    (hs : subscripted slice false (.str (T l) t) (.int i u) = operate [.str (T l) t, .int i u] (getItem (.str (T l) t) (.int i u)) := by with_unfolding_all rfl)
    (ht : ∀ r, letTemporaryGo value (.str (T l) t) r = pure () := by intro _; with_unfolding_all rfl) :
    wpAny (model prog w) A (subscriptTail value slice (.str (T l) t) (.int i u)) Q E s := by
  obtain ⟨k, rfl⟩ := Int.eq_ofNat_of_zero_le h0
  have hk : k < l.length := by
    rcases Nat.lt_or_ge k l.length with h1 | h1
    · exact h1
    · rw [show ((k : Nat) : Int).toNat = k from by simp, List.getElem?_eq_none h1] at hc; cases hc
  refine KXi.item (n := l.length) (T_len l) (by omega) (by omega) (by omega) (fun _ => ?_) hs ht
  rw [item_at (c := c) (by simpa using hc)]
  exact h
theorem len_T {l : List Nat} (hl : l.length ≤ 1000000) (h : Q (.int (l.length : Int) (s.toks + 1)) { s with toks := s.toks + 1 + 1 }) : wpAny (model prog w) A (call (.builtin "len") [.str (T l) t]) Q E s :=
  P.len_str (by rw [T_len]; omega) (by rw [T_len]; exact h)
theorem eq_at {x y : Str} {b : Bool} (e : (x == y) = b) (h : Q (.bool b) s) : wpAny (model prog w) A (compareOp .Eq (.str x t) (.str y u)) Q E s := PyProof.Rows.eq_str (by rw [e]; exact h)
theorem in_at {x y : Str} {b : Bool} (e : (!(occurrences x y 0 x.length 1).isEmpty) = b) (h : Q (.bool b) s) : wpAny (model prog w) A (compareOp .In (.str y u) (.str x t)) Q E s := P.in_str (by rw [e]; exact h)
theorem hex_call {x : Str} {i j : Nat} {u b : Tok} (e : x = T [hexN i, hexN j]) (hi : i < 16) (hj : j < 16) (h : Q (.int ((16 * i + j : Nat) : Int) s.toks) { s with toks := s.toks + 1 }) :
    wpAny (model prog w) A (call (.type "int") [.str x u, .int 16 b]) Q E s := by
  subst e
  exact call_hex hi hj h
theorem ord_T {c : Nat} (h : Q (.int (c : Int) s.toks) { s with toks := s.toks + 1 }) : wpAny (model prog w) A (call (.builtin "ord") [.str (T [c]) t]) Q E s := P.ord_of_char (c := c) h
end
theorem T_one_eq {a : Nat} {x : Str} {c : Nat} (hx : x = ⟨#[c]⟩) : (T [a] == x) = decide (a = c) := by
  subst hx
  rw [Bool.eq_iff_iff]
  simp [T]
theorem hex_in : ∀ d : Nat, d < 16 → hexN d ∈ (Str.ofString "0123456789ABCDEFabcdef").cps.toList := by decide +kernel
theorem hex_occ {d : Nat} (h : d < 16) : (!(occurrences (Str.ofString "0123456789ABCDEFabcdef") (T [hexN d]) 0 (Str.ofString "0123456789ABCDEFabcdef").length 1).isEmpty) = true := by
  have e := StrLaws.found_one (Str.ofString "0123456789ABCDEFabcdef") (hexN d)
  exact e.trans (decide_eq_true (hex_in d h))
theorem mid_0 {pre post l : List Nat} {a : Nat} (h : pre ++ a :: post = l) : l[(pre.length : Int).toNat]? = some a := by subst h; simp
theorem mid_1 {pre post l : List Nat} {a b : Nat} (h : pre ++ a :: b :: post = l) : l[((pre.length : Int) + 1).toNat]? = some b := by
  subst h
  have : ((pre.length : Int) + 1).toNat = pre.length + 1 := by omega
  rw [this, List.getElem?_append_right (by omega)]
  simp
theorem mid_2 {pre post l : List Nat} {a b c : Nat} (h : pre ++ a :: b :: c :: post = l) : l[((pre.length : Int) + 2).toNat]? = some c := by
  subst h
  have : ((pre.length : Int) + 2).toNat = pre.length + 2 := by omega
  rw [this, List.getElem?_append_right (by omega)]
  simp
theorem mid_s {pre post l : List Nat} {a b c : Nat} (h : pre ++ a :: b :: c :: post = l) : Txt.slice (T l) (some ((pre.length : Int) + 1)) (some ((pre.length : Int) + 3)) = T [b, c] := by
  have h1 := mid_1 h
  have h2 := mid_2 h
  have e1 : ((pre.length : Int) + 1).toNat = pre.length + 1 := by omega
  have e2 : ((pre.length : Int) + 2).toNat = pre.length + 1 + 1 := by omega
  rw [e1] at h1
  rw [e2] at h2
  have e := slice_two h1 h2
  rw [show (((pre.length + 1 : Nat) : Int)) = (pre.length : Int) + 1 from by omega] at e
  rw [show (pre.length : Int) + 3 = (pre.length : Int) + 1 + 2 from by omega]
  exact e
end Mine
end

/-! MUnq -/
section
open PySem PySem.W PyProof.Rows
namespace Mine

/-- octets and how they stand written: a sign below 128 that is no percent for itself, or a percent and two figures -/
inductive Wr : List Nat → List Nat → Prop
  | nil : Wr [] []
  | one {o : Nat} {os l : List Nat} : o < 128 → o ≠ 37 → Wr os l → Wr (o :: os) (o :: l)
  | pct {i j : Nat} {os l : List Nat} : i < 16 → j < 16 → Wr os l → Wr ((16 * i + j) :: os) (37 :: hexN i :: hexN j :: l)

def Hold (P : Prop) : Prop := P
theorem hold_of {P : Prop} (h : Hold P) : P := h

abbrev M3 (t1 : Tok) (b : Array UInt8) (t2 : Tok) (k : Int) (t3 : Tok) (m : Str → Option Value) : Str → Option Value := fun y => if y = Str.ofString "k" then some (.int k t3) else if y = Str.ofString "octets" then some (.bytes b t2) else if y = Str.ofString "told" then some (.str (Str.ofString "") t1) else m y

theorem m3_of {g h : Heap} {L : Addr} {t1 t2 t3 : Tok} {b : Array UInt8} {k : Int} {m : Str → Option Value} {v : Value} (F : Fr g L h (fun y => if y = Str.ofString "k" then some (.int k t3) else if y = Str.ofString "octets" then some (.bytes b t2) else if y = Str.ofString "told" then some (.str (Str.ofString "") t1) else m y)) (e : m (Str.ofString "text") = some v) :
    ∃ b0 : Str → Option Value, b0 (Str.ofString "text") = some v ∧ Fr g L h (M3 t1 b t2 k t3 b0) := ⟨m, e, F⟩

def byt (os : List Nat) : Array UInt8 := (os.map fun o => o.toUInt8).toArray

theorem dec_at {prog : Program} {w : World} {A : Around} {E : Value → Shared → Prop} {s : Shared} {ps : List Nat} {b : Array UInt8} {t u v : Tok} {Q : Value → Shared → Prop} (e : b = encB ps) (hp : ∀ p ∈ ps, ScalarN p) (hlen : ps.length ≤ 1000) (h : ∀ t' k, Q (.str (Mine.T ps) t') { s with toks := k }) :
    wpAny (model prog w) A (call (.builtin "bytes.decode") [.bytes b t, .str (Str.ofString "utf-8") u, .str (Str.ofString "replace") v]) Q E s := by
  subst e
  exact dec_call hp (by omega) h
theorem empty_T (l : List Nat) : Str.ofString "" ++ T l = T l := by
  rw [show Str.ofString "" = T [] from by decide, app_T]
  rfl
theorem badd {prog : Program} {w : World} {A : Around} {E : Value → Shared → Prop} {s : Shared} {d : List Nat} {o : Nat} {x : Int} {t u : Tok} {Q : Value → Shared → Prop} (hz : d.length ≤ 1000000) (e : x.toNat = o) (h : ∀ t' k, Q (.bytes (byt (d ++ [o])) t') { s with toks := k }) :
    wpAny (model prog w) A (binaryOp .Add (.bytes (byt d) t) (.bytes #[x.toNat.toUInt8] u)) Q E s := by
  subst e
  refine KBa.add_K rfl rfl (by rw [KBw.ints_length, KBw.ints_length]; simp [byt]; omega) ?_
  intro t' k _
  have e : byt d ++ #[x.toNat.toUInt8] = byt (d ++ [x.toNat]) := by simp [byt]
  rw [e]
  exact h t' k
theorem add_E {prog : Program} {w : World} {A : Around} {E : Value → Shared → Prop} {s : Shared} {l : List Nat} {t u : Tok} {Q : Value → Shared → Prop} (hz : l.length ≤ 1000) (h : ∀ t' k, Q (.str (T l) t') { s with toks := k }) :
    wpAny (model prog w) A (binaryOp .Add (.str (Str.ofString "") t) (.str (T l) u)) Q E s :=
  SB.add (fun t' k => by rw [empty_T]; exact h t' k) (by rw [T_len, show (Str.ofString "").length = 0 from by decide, PySem.sizeLine_eq]; omega)
theorem k_ne_octets : ¬ (Str.ofString "k" = Str.ofString "octets") := by decide
theorem m3_set (t1 t2 t3 u2 u3 : Tok) (b c : Array UInt8) (k i : Int) (m : Str → Option Value) :
    (fun y => if y = Str.ofString "octets" then some (.bytes b t2) else if y = Str.ofString "k" then some (.int k t3) else M3 t1 c u2 i u3 m y) = M3 t1 b t2 k t3 m := by
  funext y
  unfold M3
  by_cases h1 : y = Str.ofString "k"
  · subst h1
    simp only [if_true, if_neg k_ne_octets]
  · by_cases h2 : y = Str.ofString "octets"
    · simp only [h2, if_true, if_neg (Ne.symm k_ne_octets)]
    · simp only [h1, h2, if_false]
theorem turn_end {h₀ h' : Heap} {L : Addr} {s : Shared} {nw nw' : Led} {os l : List Nat} {b0 : Str → Option Value} {n tk : Nat} {d r pre post : List Nat} {t1 t2 t3 u2 u3 : Tok} {c : Array UInt8} {i k : Int} {m : Str → Option Value}
    (F : Fr h₀ L h' m) (hm : m = fun y => if y = Str.ofString "octets" then some (.bytes (byt d) t2) else if y = Str.ofString "k" then some (.int k t3) else M3 t1 c u2 i u3 b0 y) (N : News h₀ L h' nw') (hs : ∀ p ∈ nw, p ∈ nw')
    (hk : k = (pre.length : Int)) (h1 : pre ++ post = l) (h2 : d ++ r = os) (h3 : Wr r post) (hn : post.length < n) :
    WhileStep h₀ L s (fun n m₁ nw1 => nw1 = nw ∧ ∃ (d r pre post : List Nat) (t1 t2 t3 : Tok), m₁ = M3 t1 (byt d) t2 (pre.length : Int) t3 b0 ∧ pre ++ post = l ∧ d ++ r = os ∧ Wr r post ∧ n = post.length) n .next { s with heap := h', toks := tk } := by
  subst hk
  rw [m3_set] at hm
  subst hm
  exact WhileStep.intro F (cb_drop N hs) hn ⟨rfl, d, r, pre, post, t1, t2, t3, rfl, h1, h2, h3, rfl⟩
theorem byt_snoc (d : List Nat) (o : Nat) : byt d ++ #[o.toUInt8] = byt (d ++ [o]) := by simp [byt]

section
local macro_rules | `(tactic| walk_at "exec") => `(tactic| ((with_reducible show wpAny _ _ (exec (Stmt.While _ _ _ _) _) _ _ _); (refine hold_of ?_)))

local macro_rules | `(tactic| walk_at "eval Name") => `(tactic| (k_here; (rename (@Eq (Option PySem.Value) _ (some (Value.str (T _) _)) ) => hB9); k_dflt (refine' nameX_L ?F ?v ?_ ?a ?b; (case F => k_asm); (case a => rfl); (case b => rfl); (case v => exact hB9); k_whole)))
local macro_rules | `(tactic| walk_at "call builtin:len") => `(tactic| (k_here; (with_reducible show wpAny _ _ (call (Value.builtin "len") [Value.str (T _) _]) _ _ _); (refine len_T (by assumption) ?_)))
local macro_rules | `(tactic| walk_at "binaryOp Add bytes bytes") => `(tactic| (k_here; (refine badd (by omega) (by assumption) ?_); intro _ _))
local macro_rules | `(tactic| walk_at "subscriptTail Name Slice str ref") => `(tactic| (k_here; (refine' slice_strN_ss (hsz := ?hsz) (s := ⟨_, _, _, _, _⟩) ?kF ?kN ?_); (case hsz => (rw [T_len, PySem.sizeLine_eq]; omega)); (case kF => k_asm); (case kN => k_asm); intro _ _ _ _ _))
local macro_rules | `(tactic| walk_at "subscriptTail Name BinOp str int") => `(tactic| (k_here; (with_reducible show wpAny _ _ (subscriptTail _ _ (Value.str (T _) _) (Value.int _ _)) _ _ _); (refine sub_at (by omega) (by first | exact mid_0 (by assumption) | exact mid_1 (by assumption) | exact mid_2 (by assumption)) (by assumption) ?_)))
local macro_rules | `(tactic| walk_at "subscriptTail Name Name str int") => `(tactic| (k_here; (with_reducible show wpAny _ _ (subscriptTail _ _ (Value.str (T _) _) (Value.int _ _)) _ _ _); (refine sub_at (by omega) (by first | exact mid_0 (by assumption) | exact mid_1 (by assumption) | exact mid_2 (by assumption)) (by assumption) ?_)))
local macro_rules | `(tactic| walk_at "compareOp Eq str str") => `(tactic| (k_here; (refine eq_at (by assumption) ?_)))
local macro_rules | `(tactic| walk_at "compareOp In str str") => `(tactic| (k_here; (refine in_at (by assumption) ?_)))
local macro_rules | `(tactic| walk_at "call builtin:ord") => `(tactic| (k_here; (refine ord_T ?_)))
local macro_rules | `(tactic| walk_at "call type:int") => `(tactic| (k_here; (refine hex_call (by first | assumption | exact mid_s (by assumption)) (by assumption) (by assumption) ?_)))
local macro_rules | `(tactic| walk_at "call builtin:bytes.decode") => `(tactic| (k_here; (with_reducible show wpAny _ _ (call (Value.builtin "bytes.decode") [Value.bytes _ _, Value.str _ _, Value.str _ _]) _ _ _); (refine dec_at (by assumption) (by assumption) (by assumption) ?_); intro _ _))
local macro_rules | `(tactic| walk_at "binaryOp Add str str") => `(tactic| (k_here; (refine add_E (by assumption) ?_); intro _ _))

theorem unq_spec (w : World) (os l : List Nat) (ps : List Nat) (t : Tok) (hW : Wr os l) (he : ps.flatMap octN = os) (hp : ∀ p ∈ ps, ScalarN p) (hlen : ps.length ≤ 1000) (news : Led) :
   SpecV w 10 33 news True [.str (T l) t] [] (fun r => ∃ v, r = .str (T ps) v) := by
  delta SpecV; k_fill; w_top off
  intro loose mean mg mb dp un gd cn cs a ccd cl outer A₀ base h₀ L m s Q E B F X N Tp hk hdp hun hpre hret
  refine wpAny_call ?_
  k_dflt cell_enter
  k_steps
  delta Hold
  (with_reducible rename Fr _ _ _ _ => Fk)
  (with_reducible rename News _ _ _ _ => Nk)
  obtain ⟨b0, hb, F1⟩ := m3_of Fk rfl
  clear Fk
  refine While_inv (fun n m₁ nw => nw = news ∧ ∃ (d r pre post : List Nat) (t1 t2 t3 : Tok), m₁ = M3 t1 (byt d) t2 (pre.length : Int) t3 b0 ∧ pre ++ post = l ∧ d ++ r = os ∧ Wr r post ∧ n = post.length) (n₀ := l.length) F1 (cb_drop Nk (fun p h => by repeat (first | exact h | refine List.mem_cons_of_mem _ ?_))) ⟨rfl, [], os, [], l, _, _, _, rfl, rfl, rfl, hW, rfl⟩ ?_
  clear F1 Nk
  intro n m₁ nw h₁ tk₁ F₂ N₂ hJ
  obtain ⟨hnw, d, r, pre, post, t1, t2, t3, hm₁, hl1, ho, hWr, hn⟩ := hJ
  subst hnw
  subst hm₁
  have hlz : l.length ≤ 1000000 := by
    have h1 : ∀ {os l : List Nat}, Wr os l → l.length ≤ 3 * os.length := by
      intro os l h
      induction h with
      | nil => simp
      | one _ _ _ ih => simp; omega
      | pct _ _ _ ih => simp; omega
    have h2 := h1 hW
    have h3 := octs_len ps
    rw [he] at h3
    omega
  have hz3 : d.length ≤ 1000000 := by
    have h2 := congrArg List.length ho
    have h3 := octs_len ps
    rw [he] at h3
    rw [List.length_append] at h2
    omega
  have hL := congrArg List.length hl1
  rw [List.length_append] at hL
  cases hWr with
  | nil =>
    simp only [List.length_nil] at hL
    have hbd : byt d = encB ps := by
      rw [List.append_nil] at ho
      rw [ho, ← he]
      rfl
    k_steps
    all_goals (refine hret _ _ _ (by k_asm) (by first | k_asm | (refine' cb_drop ?cN ?cS; (case cN => k_asm); (case cS => (intro p h; repeat (first | exact h | refine List.mem_cons_of_mem _ ?_))))) ⟨_, rfl⟩)
  | @one o os' post' h1 h2 h3 =>
    simp only [List.length_cons] at hL hn
    have f1 : (T [o] == Str.ofString "%") = false := by
      rw [T_one_eq (c := 37) (by decide)]
      exact decide_eq_false h2
    have f5 : ((o : Nat) : Int).toNat = o := by simp
    k_steps
    all_goals (refine turn_end (pre := pre ++ [o]) (post := post') (d := d ++ [o]) (r := os') (by k_asm) rfl (by k_asm) (fun p h => by repeat (first | exact h | refine List.mem_cons_of_mem _ ?_)) (by simp) (by simpa using hl1) (by simpa using ho) h3 (by omega))
  | @pct i j os' post' h1 h2 h3 =>
    simp only [List.length_cons] at hL hn
    have f1 : (T [37] == Str.ofString "%") = true := by decide
    have f2 := hex_occ h1
    have f3 := hex_occ h2
    have f5 : ((16 * i + j : Nat) : Int).toNat = 16 * i + j := Int.toNat_natCast _
    k_steps
    all_goals (refine turn_end (pre := pre ++ [37, hexN i, hexN j]) (post := post') (d := d ++ [16 * i + j]) (r := os') (by k_asm) rfl (by k_asm) (fun p h => by repeat (first | exact h | refine List.mem_cons_of_mem _ ?_)) (by simp) (by simpa using hl1) (by simpa using ho) h3 (by omega))
end
end Mine
end

/-! MPlus -/
section
open PySem PySem.W PyProof.Rows
namespace Mine
theorem quote_sp (w : World) (ps : List Nat) (t u : Tok) (hp : ∀ p ∈ ps, ScalarN p) (hlen : ps.length ≤ 1000) (news : Led) :
   SpecV w 10 19 news True [.str (T ps) t, .str (Str.ofString " ") u] [] (fun r => ∃ v, r = .str (T (wrL [32] ps)) v) := by
  rw [show Str.ofString " " = T [32] from by decide]
  exact quote_spec w ps [32] t u hp hlen (by decide) news
section
local macro_rules | `(tactic| walk_at "call ref") => `(tactic| (k_here; k_dflt (refine' specV_up (quote_sp _ _ _ _ (by assumption) (by assumption) _) ?k1 ?k2 ?k3 ?k4 ?k5 ?kK ?kd ?ku True.intro ?_; (case k1 => k_asm); (case k2 => k_asm); (case k3 => k_asm); (case k4 => k_asm); (case k5 => k_asm); (case kK => first | exact rfl | assumption); (case kd => ktr_room); (case ku => ktr_units); intro r9 h9 tk9 le9 F9 N9 hp9; (try dsimp only at le9); (obtain ⟨u9, e9⟩ := hp9); subst e9)))
local macro_rules | `(tactic| walk_at "call builtin:str.replace") => `(tactic| (k_here; (refine rep_blank (by (show @Ne Nat _ _); omega) (by (show @Ne Nat _ _); omega) (by (show @Ne Nat _ _); omega) (by assumption) ?_); intro _ _ leR; (try dsimp only at leR)))

/-- quote_plus; behind it a token has been given out -/
theorem plus_pos {w : World} {ps : List Nat} {t : Tok} (hp : ∀ p ∈ ps, ScalarN p) (hlen : ps.length ≤ 1000) {news : Led}
    {loose : List Str} {mean : ExcName → Option Value} {mg mb : Str → Option Value} {dp un : Nat} {gd : Option (List Code)} {cn : Str} {cs : Scope} {a : Addr} {ccd : Value} {cl : List (Str × Addr)} {outer : List Env} {A₀ : Around} {base h₀ : Heap} {L : Addr} {m : Str → Option Value} {s : Shared} {Q E : Value → Shared → Prop} :
    Below A₀ base outer h₀ → Fr h₀ L s.heap m → (hd.heap_39 w.params).In h₀ → News h₀ L s.heap news → Top hd.view_39 loose mean mg mb h₀ → cs.kind = .function → dp + 20 < recursionLimit → un + 8 * 20 < cLine →
    (∀ v h' tk', 0 < tk' → Fr h₀ L h' m → News h₀ L h' news → Q (.str (T (plL ps)) v) { s with heap := h', toks := tk' }) →
    wpAny (model Challenge.rw_ep5033_01.row.prog w) (ktrTop dp un gd cn cs L a ccd cl outer) (call (.ref 26) [.str (T ps) t]) Q E s := by
  k_fill; w_top off
  intro B F X N Tp hk hdp hun hret
  refine wpAny_call ?_
  k_dflt cell_enter
  have hsz : (wrL [32] ps).length ≤ 1048576 := by
    have := wrL_len [32] ps
    omega
  rw [← plus_law ps fun p h => (hp p h).1] at hret
  k_steps
  all_goals (refine hret _ _ _ (by omega) (by k_asm) (by first | k_asm | (refine' cb_drop ?cN ?cS; (case cN => k_asm); (case cS => (intro p h; repeat (first | exact h | refine List.mem_cons_of_mem _ ?_))))))
end
end Mine
end

/-! MWrit -/
section
open PySem PySem.W PyProof.Rows
namespace Mine

theorem freeF_nat (o : Nat) : freeF (o : Int) = freeN o := by
  unfold freeF freeN
  rw [Bool.eq_iff_iff]
  simp
  omega
theorem octF_nat (p : Nat) : octF (p : Int) = (octN p).map fun (o : Nat) => (o : Int) := by
  unfold octF octN
  by_cases c1 : p < 128
  · rw [if_pos (by omega), if_pos c1]; rfl
  · rw [if_neg (by omega), if_neg c1]
    by_cases c2 : p < 2048
    · rw [if_pos (by omega), if_pos c2]; simp
    · rw [if_neg (by omega), if_neg c2]
      by_cases c3 : p < 65536
      · rw [if_pos (by omega), if_pos c3]; simp
      · rw [if_neg (by omega), if_neg c3]; simp
theorem dig_item : ∀ d : Nat, d < 16 → Txt.item (Str.ofString "0123456789ABCDEF") (d : Int) = T [hexN d] := by decide +kernel
theorem dig_at {prog : Program} {w : World} {A : Around} {E : Value → Shared → Prop} {s : Shared} {value slice : PySem.Expr} {t u : Tok} {Q : Value → Shared → Prop} {i : Int} {d : Nat} (e : i = (d : Int)) (h1 : d < 16) (h : Q (.str (T [hexN d]) s.toks) { s with toks := s.toks + 1 })
    (hs : subscripted slice false (.str (Str.ofString "0123456789ABCDEF") t) (.int i u) = operate [.str (Str.ofString "0123456789ABCDEF") t, .int i u] (getItem (.str (Str.ofString "0123456789ABCDEF") t) (.int i u)) := by with_unfolding_all rfl)
    (ht : ∀ r, letTemporaryGo value (.str (Str.ofString "0123456789ABCDEF") t) r = pure () := by intro _; with_unfolding_all rfl) :
    wpAny (model prog w) A (subscriptTail value slice (.str (Str.ofString "0123456789ABCDEF") t) (.int i u)) Q E s := by
  subst e
  refine KXi.item (n := 16) (by decide) (by omega) (by omega) (by omega) (fun _ => ?_) hs ht
  rw [dig_item d h1]
  exact h

section
open PySem.Builtin.Str
variable {acc may : List Nat} {o : Nat}
theorem w_free (h : freeN o = true) : T acc ++ ⟨#[((o : Nat) : Int).toNat]⟩ = T (acc ++ wrO may o) := by
  have e : wrO may o = [o] := by unfold wrO; rw [if_pos (by rw [h]; rfl)]
  rw [e, ← app_T]
  simp [T]
theorem w_may (h2 : ((o : Nat) : Int) < 128) (h3 : (occurrences (T may) ⟨#[((o : Nat) : Int).toNat]⟩ 0 (T may).length 1).isEmpty = false) : T acc ++ ⟨#[((o : Nat) : Int).toNat]⟩ = T (acc ++ wrO may o) := by
  have hm : o ∈ may := in_yes (by simpa using h3)
  have hl : o < 128 := by omega
  have e : wrO may o = [o] := by unfold wrO; rw [if_pos (by simp [hm, hl])]
  rw [e, ← app_T]
  simp [T]
theorem w_pct (h1 : freeN o = false) (h2 : ¬ (o < 128 ∧ o ∈ may)) : T acc ++ Str.ofString "%" ++ T [hexN (o / 16)] ++ T [hexN (o % 16)] = T (acc ++ wrO may o) := by
  have e : wrO may o = [37, hexN (o / 16), hexN (o % 16)] := by
    unfold wrO
    rw [if_neg]
    rw [h1]
    simpa using h2
  rw [e, show Str.ofString "%" = T [37] from by decide, app_T, app_T, app_T]
  simp
theorem w_no (h1 : freeN o = false) (h3 : (occurrences (T may) ⟨#[((o : Nat) : Int).toNat]⟩ 0 (T may).length 1).isEmpty = true) : T acc ++ Str.ofString "%" ++ T [hexN (o / 16)] ++ T [hexN (o % 16)] = T (acc ++ wrO may o) :=
  w_pct h1 fun h => in_no (x := T may) (c := o) (by simpa using h3) h.2
theorem w_hi (h1 : freeN o = false) (h2 : ¬ ((o : Nat) : Int) < 128) : T acc ++ Str.ofString "%" ++ T [hexN (o / 16)] ++ T [hexN (o % 16)] = T (acc ++ wrO may o) :=
  w_pct h1 fun h => h2 (by omega)
end

def AtTold (m : Str → Option Value) (v : Value) : Prop := m (Str.ofString "told") = some v
def AtMay (m : Str → Option Value) (v : Value) : Prop := m (Str.ofString "may") = some v

section
open PySem.Calls PyProof.V PySem.Spec
variable {prog : Program} {w : World} {A : Around} {E : Value → Shared → Prop} {s : Shared} {env : Env} {h₀ : Heap} {x : Str} {body : List Stmt} {Q : Flow → Shared → Prop}
/-- a loop over a list of the ledger whose ledger stays -/
theorem iter_keep {l : Addr} {vs : List Value} {ns : List Int} {nn : Nat} {m₀ : Str → Option Value} {news : Led} (J : Nat → (Str → Option Value) → Prop)
    (hh : A.handled = none) (hl : (l, PySem.W.listOf vs.toArray nn) ∈ news) (hi : IntsAre vs ns) (F : Fr h₀ env.locals s.heap m₀) (N : News h₀ env.locals s.heap news) (hj : J 0 m₀)
    (turn : ∀ i n t m₁ h tk own, ns[i]? = some n → J i m₁ → Fr h₀ env.locals h (fun y => if y = x then some (.int n t) else m₁ y) → News h₀ env.locals h (news ++ own) →
      wpAny (model prog w) A (execs body env) (InvPostN h₀ env.locals (fun m' nx => (l, PySem.W.listOf vs.toArray nn) ∈ nx ∧ nx = news ∧ J (i + 1) m') own (news.map (·.1)) { s with heap := h, toks := tk } Q) E { s with heap := h, toks := tk })
    (done : ∀ m₁ h tk, J ns.length m₁ → Fr h₀ env.locals h m₁ → News h₀ env.locals h news → Q .next { s with heap := h, toks := tk }) :
    wpAny (model prog w) A (pyIter (.ref l)) (fun it s₂ => LoopAtV prog w A h₀ env x body Q E it s₂) E s :=
  iter_invNL (fun i m nx => nx = news ∧ J i m) hh hl hi F N ⟨rfl, hj⟩
    (fun i n t m₁ news₁ h tk own hx _ _ _ hJ F' N' => by
      obtain ⟨e, hJ⟩ := hJ
      rw [e] at N'
      exact turn i n t m₁ h tk own hx hJ F' N')
    (fun m₁ news₁ h tk _ hJ F' N' => by
      obtain ⟨e, hJ⟩ := hJ
      rw [e] at N'
      exact done m₁ h tk hJ F' N')
theorem keep_end {l : Addr} {o : Obj} {L : Addr} {news own news' : Led} {h' : Heap} {m' : Str → Option Value} {tk : Nat} {J : (Str → Option Value) → Prop} (F : Fr h₀ L h' m') (N : News h₀ L h' news') (hn : ∀ p ∈ news ++ own, p ∈ news') (hl : (l, o) ∈ news) (hj : J m') :
    InvEndN h₀ L (fun m' nx => (l, o) ∈ nx ∧ nx = news ∧ J m') own (news.map (·.1)) s { s with heap := h', toks := tk } :=
  ⟨h', tk, m', news', news, rfl, F, N, fun p hp => hn p (List.mem_append.mpr (.inl hp)), fun p hp => hn p (List.mem_append.mpr (.inr hp)), rfl, hl, rfl, hj⟩
end
theorem one_len (c : Nat) : (⟨#[c]⟩ : Str).length = 1 := rfl
theorem pct_len : (Str.ofString "%").length = 1 := by decide

theorem told_is {m : Str → Option Value} {x y : Str} {v : Tok} (e : m (Str.ofString "told") = some (.str x v)) (h : x = y) : AtTold m (.str y v) := by subst h; exact e

section
local macro_rules | `(tactic| walk_at "exec For") => `(tactic| (k_here; (rename Fr _ _ _ _ => lF'); (with_unfolding_all refine' For_invVF lF' ?k1 ?k2 ?_; (case k1 => exact rfl); (case k2 => exact rfl); k_whole)))
local macro_rules | `(tactic| walk_at "pyIter ref") => `(tactic| ((with_reducible show wpAny _ _ (pyIter (Value.ref _)) (fun it s₂ => LoopAtV _ _ _ _ _ _ _ _ _ it s₂) _ _); (refine hold_of ?_)))
local macro_rules | `(tactic| walk_at "call ref") => `(tactic| (k_here; k_dflt (first
  | (refine' specV_use (free_spec _ _ _ _) ?k1 ?k2 ?k3 ?k4 ?k5 ?kK ?kd ?ku True.intro ?_; (case k1 => k_asm); (case k2 => k_asm); (case k3 => k_asm); (case k4 => k_asm); (case k5 => k_asm); (case kK => first | exact rfl | assumption); (case kd => ktr_room); (case ku => ktr_units); intro r9 h9 tk9 F9 N9 hp9; subst hp9; (rw [freeF_nat]))
  | (refine' specL_use (oct_spec _ _ _ _) ?k1 ?k2 ?k3 ?k4 ?k5 ?kK ?kd ?ku True.intro ?_; (case k1 => k_asm); (case k2 => k_asm); (case k3 => k_asm); (case k4 => k_asm); (case k5 => k_asm); (case kK => first | exact rfl | assumption); (case kd => ktr_room); (case ku => ktr_units); intro D9 us9 c9 h9 tk9 F9 N9 lt9 hp9))))
local macro_rules | `(tactic| walk_at "eval Name") => `(tactic| (k_here; (with_reducible show wpAny _ _ (eval (Expr.Name (PySem.Str.ofString "told") _) _) _ _ _); (rename AtTold _ _ => hB9); k_dflt (refine' nameX_L ?F ?v ?_ ?a ?b; (case F => k_asm); (case a => rfl); (case b => rfl); (case v => exact hB9); k_whole)))
local macro_rules | `(tactic| walk_at "eval Name") => `(tactic| (k_here; (with_reducible show wpAny _ _ (eval (Expr.Name (PySem.Str.ofString "may") _) _) _ _ _); (rename AtMay _ _ => hB9); k_dflt (refine' nameX_L ?F ?v ?_ ?a ?b; (case F => k_asm); (case a => rfl); (case b => rfl); (case v => exact hB9); k_whole)))
local macro_rules | `(tactic| walk_at "subscriptTail Name BinOp str int") => `(tactic| (k_here; (refine dig_at (by assumption) (by assumption) ?_)))
local macro_rules | `(tactic| walk_at "subscriptTail") => `(tactic| (k_here; (refine dig_at (by assumption) (by assumption) ?_)))
local macro_rules | `(tactic| walk_at "binaryOp Add str str") => `(tactic| (k_here; (refine SB.add ?_ (by (rw [PySem.sizeLine_eq]; simp only [PySem.Str.length_append, T_len, one_len, pct_len, List.length_cons, List.length_nil]; omega))); intro _ _))

theorem writ_spec (w : World) (l : Addr) (vs : List Value) (c : Nat) (ps may : List Nat) (u : Tok) (hi : IntsAre vs (ps.map fun (p : Nat) => (p : Int))) (hp : ∀ p ∈ ps, p < 1114112) (hlen : ps.length ≤ 1000) (news : Led) (hm : (l, PySem.W.listOf vs.toArray c) ∈ news) :
   SpecV w 20 55 news True [.ref l, .str (T may) u] [] (fun r => ∃ v, r = .str (T (wrL may ps)) v) := by
  delta SpecV; k_fill; w_top off
  intro loose mean mg mb dp un gd cn cs a ccd cl outer A₀ base h₀ L m s Q E B F X N Tp hk hdp hun hpre hret
  refine wpAny_call ?_
  k_dflt cell_enter
  k_steps
  delta Hold
  (with_reducible rename Fr _ _ _ _ => Fk)
  (with_reducible rename News _ _ _ _ => Nk)
  (with_reducible rename IntsAre _ _ => hi)
  have acc_len : ∀ k, ((ps.take k).flatMap fun p => (octN p).flatMap (wrO may)).length ≤ 12000 := by
    intro k
    have e : ((ps.take k).flatMap fun p => (octN p).flatMap (wrO may)) = wrL may (ps.take k) := by
      rw [wrL_each]; unfold wrL; simp
    rw [e]
    have h1 := wrL_len may (ps.take k)
    have h2 : (ps.take k).length ≤ ps.length := by rw [List.length_take]; omega
    omega
  refine iter_keep (fun k m₁ => (∃ v, AtTold m₁ (.str (T ((ps.take k).flatMap fun p => (octN p).flatMap (wrO may))) v)) ∧ AtMay m₁ (.str (T may) u)) rfl hm hi Fk Nk ⟨⟨_, rfl⟩, rfl⟩ ?_ ?_
  · intro i n t m₁ h tk own hx hJ F2 N2
    obtain ⟨⟨v, hT⟩, hM⟩ := hJ
    rw [List.getElem?_map] at hx
    obtain ⟨p, hpx, rfl⟩ := Option.map_eq_some_iff.mp hx
    clear hx
    have hps : p < 1114112 := hp p (List.mem_of_getElem? hpx)
    have hal := acc_len i
    have hnext : ((ps.take (i + 1)).flatMap fun p => (octN p).flatMap (wrO may)) = ((ps.take i).flatMap fun p => (octN p).flatMap (wrO may)) ++ (octN p).flatMap (wrO may) := by
      rw [List.take_add_one, hpx]; simp
    rw [hnext]
    generalize ((ps.take i).flatMap fun p => (octN p).flatMap (wrO may)) = acc at hT hal
    k_steps
    delta Hold
    (with_reducible rename IntsAre _ _ => hi2)
    rw [octF_nat] at hi2
    refine' iter_keep (fun k m₁ => (∃ v, AtTold m₁ (.str (T (acc ++ ((octN p).take k).flatMap (wrO may))) v)) ∧ AtMay m₁ (.str (T may) u)) rfl ?hl hi2 ?hF ?hN ?hj ?_ ?_
    case hF => k_asm
    case hN => k_asm
    case hl => exact List.mem_cons_self
    case hj => exact ⟨⟨v, by rw [List.take_zero, List.flatMap_nil, List.append_nil]; exact hT⟩, hM⟩
    · intro j n2 t2 m2 h2 tk2 own2 hx2 hJ2 F3 N3
      obtain ⟨⟨v2, hT2⟩, hM2⟩ := hJ2
      rw [List.getElem?_map] at hx2
      obtain ⟨o, hox, rfl⟩ := Option.map_eq_some_iff.mp hx2
      clear hx2
      have ho : o < 256 := oct_lt hps o (List.mem_of_getElem? hox)
      have hl4 := oct_len4 p
      have hnext2 : ((octN p).take (j + 1)).flatMap (wrO may) = ((octN p).take j).flatMap (wrO may) ++ wrO may o := by
        rw [List.take_add_one, hox]; simp
      have hal2 : (acc ++ ((octN p).take j).flatMap (wrO may)).length ≤ 13000 := by
        have e : ((octN p).take j).flatMap (wrO may) = (((octN p).take j).map fun o => wrO may o).flatten := by rw [List.flatMap_def]
        have h3 : ∀ l : List Nat, (l.flatMap (wrO may)).length ≤ 3 * l.length := by
          intro l
          induction l with
          | nil => simp
          | cons a r ih => have := wrO_len (may := may) a; simp at ih ⊢; omega
        have h4 := h3 ((octN p).take j)
        have h5 : ((octN p).take j).length ≤ 4 := by rw [List.length_take]; omega
        rw [List.length_append]
        omega
      rw [hnext2, ← List.append_assoc]
      generalize acc ++ ((octN p).take j).flatMap (wrO may) = acc2 at hT2 hal2
      clear hT hM
      have q1 : ((o : Nat) : Int).fdiv 16 = ((o / 16 : Nat) : Int) := by rw [Int.fdiv_eq_ediv_of_nonneg _ (by decide)]; omega
      have q2 : ((o : Nat) : Int).fmod 16 = ((o % 16 : Nat) : Int) := by rw [Int.fmod_eq_emod_of_nonneg _ (by decide)]; omega
      have q3 : o / 16 < 16 := by omega
      have q4 : o % 16 < 16 := by omega
      k_steps
      all_goals (with_reducible rename AtMay _ _ => hM2)
      all_goals (refine' keep_end ?kF ?kN (fun _ h => h) List.mem_cons_self ?kJ; (case kF => k_asm); (case kN => k_asm); (case kJ => exact ⟨⟨_, told_is rfl (by first | exact w_free (by assumption) | exact w_may (by assumption) (by assumption) | exact w_no (by assumption) (by assumption) | exact w_hi (by assumption) (by assumption))⟩, hM2⟩))
    · intro m2 h2 tk2 hJ2 F3 N3
      obtain ⟨⟨v2, hT2⟩, hM2⟩ := hJ2
      rw [List.length_map, List.take_length] at hT2
      k_steps
      all_goals (refine' keep_end ?kF ?kN ?kH hm ?kJ; (case kF => k_asm); (case kN => k_asm); (case kH => exact (fun _ h => List.mem_cons_of_mem _ h)); (case kJ => exact ⟨⟨v2, hT2⟩, hM2⟩))
  · intro m₁ h tk hJ F2 N2
    obtain ⟨⟨v, hT⟩, hM⟩ := hJ
    rw [List.length_map, List.take_length] at hT
    k_steps
    all_goals (refine hret _ _ _ (by k_asm) (by k_asm) ⟨v, ?_⟩)
    rw [wrL_each]; unfold wrL; simp
end
end Mine
end

/-! MPlusL -/
section
open PySem PySem.W PyProof.Rows
namespace Mine

theorem writ_nil (w : World) (l : Addr) (vs : List Value) (c : Nat) (p : Nat) (u : Tok) (hi : IntsAre vs [(p : Int)]) (hp : p < 1114112) (news : Led) (hm : (l, PySem.W.listOf vs.toArray c) ∈ news) :
   SpecV w 20 55 news True [.ref l, .str (Str.ofString "") u] [] (fun r => ∃ v, r = .str (T (wrL [] [p])) v) := by
  rw [show Str.ofString "" = T [] from by decide]
  exact writ_spec w l vs c [p] [] u hi (by intro q hq; rw [List.mem_singleton.mp hq]; exact hp) (by simp) news hm
theorem plus_len : (Str.ofString "+").length = 1 := by decide
theorem pl_yes {acc : List Nat} {p : Nat} (h : ((p : Nat) : Int) = 32) : T acc ++ Str.ofString "+" = T (acc ++ if p = 32 then [43] else wrL [] [p]) := by
  rw [if_pos (by omega), show Str.ofString "+" = T [43] from by decide, app_T]
theorem pl_no {acc : List Nat} {p : Nat} (h : ¬ ((p : Nat) : Int) = 32) : T acc ++ T (wrL [] [p]) = T (acc ++ if p = 32 then [43] else wrL [] [p]) := by
  rw [if_neg (by omega), app_T]

section
local macro_rules | `(tactic| walk_at "exec For") => `(tactic| (k_here; (rename Fr _ _ _ _ => lF'); (with_unfolding_all refine' For_invVF lF' ?k1 ?k2 ?_; (case k1 => exact rfl); (case k2 => exact rfl); k_whole)))
local macro_rules | `(tactic| walk_at "pyIter ref") => `(tactic| ((with_reducible show wpAny _ _ (pyIter (Value.ref _)) (fun it s₂ => LoopAtV _ _ _ _ _ _ _ _ _ it s₂) _ _); (refine hold_of ?_)))
local macro_rules | `(tactic| walk_at "call ref") => `(tactic| (k_here; k_dflt (
  (refine' specV_use (writ_nil _ _ _ _ _ _ (.cons _ _ .nil) (by assumption) _ List.mem_cons_self) ?k1 ?k2 ?k3 ?k4 ?k5 ?kK ?kd ?ku True.intro ?_; (case k1 => k_asm); (case k2 => k_asm); (case k3 => k_asm); (case k4 => k_asm); (case k5 => k_asm); (case kK => first | exact rfl | assumption); (case kd => ktr_room); (case ku => ktr_units); intro r9 h9 tk9 F9 N9 hp9; (obtain ⟨u9, e9⟩ := hp9); subst e9))))
local macro_rules | `(tactic| walk_at "eval Name") => `(tactic| (k_here; (with_reducible show wpAny _ _ (eval (Expr.Name (PySem.Str.ofString "told") _) _) _ _ _); (rename AtTold _ _ => hB9); k_dflt (refine' nameX_L ?F ?v ?_ ?a ?b; (case F => k_asm); (case a => rfl); (case b => rfl); (case v => exact hB9); k_whole)))
local macro_rules | `(tactic| walk_at "binaryOp Add str str") => `(tactic| (k_here; (refine SB.add ?_ (by (rw [PySem.sizeLine_eq]; simp only [PySem.Str.length_append, T_len, plus_len]; omega))); intro _ _))

theorem plusl_spec (w : World) (l : Addr) (vs : List Value) (c : Nat) (ps : List Nat) (hi : IntsAre vs (ps.map fun (p : Nat) => (p : Int))) (hp : ∀ p ∈ ps, p < 1114112) (hlen : ps.length ≤ 1000) (news : Led) (hm : (l, PySem.W.listOf vs.toArray c) ∈ news) :
   SpecV w 30 62 news True [.ref l] [] (fun r => ∃ v, r = .str (T (plL ps)) v) := by
  delta SpecV; k_fill; w_top off
  intro loose mean mg mb dp un gd cn cs a ccd cl outer A₀ base h₀ L m s Q E B F X N Tp hk hdp hun hpre hret
  refine wpAny_call ?_
  k_dflt cell_enter
  k_steps
  delta Hold
  (with_reducible rename Fr _ _ _ _ => Fk)
  (with_reducible rename News _ _ _ _ => Nk)
  (with_reducible rename IntsAre _ _ => hi)
  have acc_len : ∀ k, (plL (ps.take k)).length ≤ 12000 := by
    intro k
    have h1 : ∀ l : List Nat, (plL l).length ≤ 12 * l.length := by
      intro l
      unfold plL
      induction l with
      | nil => simp
      | cons a r ih =>
        have h2 := wrL_len [] [a]
        rw [List.flatMap_cons, List.length_append, List.length_cons]
        have h3 : (if a = 32 then [43] else wrL [] [a]).length ≤ 12 := by
          split
          · decide
          · simpa using h2
        omega
    have h2 := h1 (ps.take k)
    have h3 : (ps.take k).length ≤ ps.length := by rw [List.length_take]; omega
    omega
  refine iter_keep (fun k m₁ => (∃ v, AtTold m₁ (.str (T (plL (ps.take k))) v))) rfl hm hi Fk Nk ⟨_, rfl⟩ ?_ ?_
  · intro i n t m₁ h tk own hx hJ F2 N2
    obtain ⟨v, hT⟩ := hJ
    rw [List.getElem?_map] at hx
    obtain ⟨p, hpx, rfl⟩ := Option.map_eq_some_iff.mp hx
    clear hx
    have hps : p < 1114112 := hp p (List.mem_of_getElem? hpx)
    have hal := acc_len i
    have hwl := wrL_len [] [p]
    rw [List.length_singleton] at hwl
    have hnext : plL (ps.take (i + 1)) = plL (ps.take i) ++ (if p = 32 then [43] else wrL [] [p]) := by
      unfold plL
      rw [List.take_add_one, hpx]; simp
    rw [hnext]
    generalize plL (ps.take i) = acc at hT hal
    k_steps
    all_goals (refine' keep_end ?kF ?kN ?kH hm ?kJ; (case kF => k_asm); (case kN => k_asm); (case kH => (intro p h; repeat (first | exact h | refine List.mem_cons_of_mem _ ?_))); (case kJ => exact ⟨_, told_is rfl (by first | exact pl_yes (by assumption) | exact pl_no (by assumption))⟩))
  · intro m₁ h tk hJ F2 N2
    obtain ⟨v, hT⟩ := hJ
    rw [List.length_map, List.take_length] at hT
    k_steps
    all_goals (refine hret _ _ _ (by k_asm) (by k_asm) ⟨v, rfl⟩)
end
end Mine
end

/-! MLawA -/
section
open PySem PySem.W PyProof.Rows PySem.Calls
namespace Mine
abbrev castL (l : List Nat) : List Int := l.map fun (p : Nat) => (p : Int)
theorem castL_app (a b : List Nat) : castL (a ++ b) = castL a ++ castL b := List.map_append

section
variable {prog : Program} {w : World} {A : Around} {h₀ : Heap} {L : Addr} {m : Str → Option Value} {env : Env} {ct elt : Expr} {x : Str} {scope : Scope} {cl : List (Str × Addr)} {s : Shared} {S : Led → Prop} {P : Nat → Value → Prop} {Fin : List Value → Led → Prop} {news : Led}

/-- what a turn of a comprehension of numbers ends in -/
def NEl (news : Led) (ok : Nat → Prop) (y : Value) (news' : Led) : Prop := news' = news ∧ ∃ (q : Nat) (t : Tok), ok q ∧ y = .int (q : Int) t
theorem ints_snoc {y : Int} {t : Tok} : ∀ {vs : List Value} {ys : List Int}, IntsAre vs ys → IntsAre (vs ++ [.int y t]) (ys ++ [y])
  | _, _, .nil => .cons y t .nil
  | _, _, .cons z u r => .cons z u (ints_snoc r)
theorem comp_nats {n : Nat} (ok : Nat → Nat → Prop)
    (turn : ∀ i v I oI C oC D m₂ ys h tk (E' : Value → Shared → Prop), i < n → P i v → LCg.NsObj oC m₂ → m₂ x = some v → Fr h₀ L h m → News h₀ L h ((I, oI) :: (C, oC) :: (D, LCg.lst ys) :: news) → LCg.Off3 I C D news → ((@Ne Nat I C) ∧ (@Ne Nat I D) ∧ (@Ne Nat C D)) →
      wpAny (model prog w) A (eval elt (compEnvC scope cl C env)) (LCg.CompEnd h₀ L m { s with heap := h, toks := tk } I oI C oC D (LCg.lst ys) S (NEl news (ok i))) E' { s with heap := h, toks := tk })
    (fin : ∀ ys (qs : List Nat), IntsAre ys (castL qs) → qs.length = n → (∀ (i q : Nat), qs[i]? = some q → ok i q) → Fin ys news) : LCg.CompRest prog w A h₀ L m env elt x scope cl s S P Fin n 0 [] news := by
  have key : ∀ (j i : Nat) (ys : List Value) (qs : List Nat), i + j = n → IntsAre ys (castL qs) → qs.length = i → (∀ (k q : Nat), qs[k]? = some q → ok k q) → LCg.CompRest prog w A h₀ L m env elt x scope cl s S P Fin j i ys news := by
    intro j
    induction j with
    | zero =>
      intro i ys qs hi hy hl hq
      exact LCg.CompRest.zero (fin ys qs hy (by omega) hq)
    | succ j ih =>
      intro i ys qs hi hy hl hq
      refine LCg.CompRest.succ ?_
      intro v I oI C oC D m₂ h tk E' hv hC hx F N off ne
      refine wpAny_mono (turn i v I oI C oC D m₂ ys h tk E' (by omega) hv hC hx F N off ne) (fun y s₂ hq2 => ?_) fun _ _ e => e
      obtain ⟨h', tk', nw, e, F', N', off', hS, hn, q, t', hok, hy'⟩ := hq2
      rw [hn] at N' off' hS
      refine ⟨h', tk', news, e, F', N', off', hS, ?_⟩
      rw [hy']
      refine ih (i + 1) _ (qs ++ [q]) (by omega) ?_ (by simp [hl]) ?_
      · rw [castL_app]; exact ints_snoc hy
      · intro k r hk
        by_cases hkl : k < qs.length
        · rw [List.getElem?_append_left hkl] at hk; exact hq k r hk
        · rw [List.getElem?_append_right (by omega)] at hk
          have hk0 : k - qs.length = 0 := by
            rcases Nat.eq_zero_or_pos (k - qs.length) with h | h
            · exact h
            · rw [List.getElem?_eq_none (by simp; omega)] at hk; cases hk
          rw [hk0] at hk
          simp at hk
          have : k = i := by omega
          rw [this, ← hk]; exact hok
  exact key n 0 [] [] (by omega) .nil rfl (by simp)

/-- a turn of a comprehension with a test, of texts of one sign -/
def TEl (news : Led) (ok : Nat → Prop) (y : Value) (news' : Led) : Prop := news' = news ∧ ∃ (q : Nat) (t : Tok), ok q ∧ y = .str (T [q]) t
theorem comp_signs {n : Nat} (ok : Nat → Prop)
    (turn : ∀ i v I oI C oC D m₂ ys h tk (E' : Value → Shared → Prop), i < n → P i v → LCg.NsObj oC m₂ → m₂ x = some v → Fr h₀ L h m → News h₀ L h ((I, oI) :: (C, oC) :: (D, LCg.lst ys) :: news) → LCg.Off3 I C D news → ((@Ne Nat I C) ∧ (@Ne Nat I D) ∧ (@Ne Nat C D)) →
      wpAny (model prog w) A (isTrue ct (compEnvC scope cl C env) (eval ct (compEnvC scope cl C env))) (fun b s' => if b = true then
        wpAny (model prog w) A (eval elt (compEnvC scope cl C env)) (LCg.CompEnd h₀ L m { s with heap := h, toks := tk } I oI C oC D (LCg.lst ys) S (TEl news ok)) E' s'
        else LCg.CompEnd h₀ L m { s with heap := h, toks := tk } I oI C oC D (LCg.lst ys) S (fun _ news' => news' = news) Value.none s') E' { s with heap := h, toks := tk })
    (fin : ∀ ys (qs : List Nat), CarriedAll ys (qs.map fun q => PyData.str (T [q])) → qs.length ≤ n → (∀ q ∈ qs, ok q) → Fin ys news) : LCt.CompRestT prog w A h₀ L m env ct elt x scope cl s S P Fin n 0 [] news := by
  have key : ∀ (j i : Nat) (ys : List Value) (qs : List Nat), i + j = n → StrsAre ys (qs.map fun q => T [q]) → qs.length ≤ i → (∀ q ∈ qs, ok q) → LCt.CompRestT prog w A h₀ L m env ct elt x scope cl s S P Fin j i ys news := by
    intro j
    induction j with
    | zero =>
      intro i ys qs hi hy hl hq
      have hc := hy.carried
      rw [List.map_map] at hc
      exact LCt.CompRestT.zero (fin ys qs hc (by omega) hq)
    | succ j ih =>
      intro i ys qs hi hy hl hq
      refine LCt.CompRestT.succ ?_
      intro v I oI C oC D m₂ h tk E' hv hC hx F N off ne
      refine wpAny_mono (turn i v I oI C oC D m₂ ys h tk E' (by omega) hv hC hx F N off ne) (fun b s₂ hb => ?_) fun _ _ e => e
      cases b with
      | true =>
        simp only [if_true] at hb ⊢
        refine wpAny_mono hb (fun y s₃ hq2 => ?_) fun _ _ e => e
        obtain ⟨h', tk', nw, e, F', N', off', hS, hn, q, t', hok, hy'⟩ := hq2
        rw [hn] at N' off' hS
        refine ⟨h', tk', news, e, F', N', off', hS, ?_⟩
        rw [hy']
        refine ih (i + 1) _ (qs ++ [q]) (by omega) ?_ (by simp; omega) ?_
        · rw [List.map_append]; exact kct_snoc hy
        · intro r hr
          rcases List.mem_append.mp hr with hr | hr
          · exact hq r hr
          · rw [List.mem_singleton.mp hr]; exact hok
      | false =>
        simp only [Bool.false_eq_true, if_false] at hb ⊢
        obtain ⟨h', tk', nw, e, F', N', off', hS, hn⟩ := hb
        rw [hn] at N' off' hS
        exact ⟨h', tk', news, e, F', N', off', hS, ih (i + 1) _ qs (by omega) hy (by omega) hq⟩
  exact key n 0 [] [] (by omega) .nil (by simp) (by simp)
end

theorem text_nat (w : World) (l : Addr) (vs : List Value) (c : Nat) (qs : List Nat) (news : Led) (hi : IntsAre vs (castL qs)) (hn : ∀ q ∈ qs, q < 1114112) (hlen : qs.length ≤ 1000) (hm : (l, PySem.W.listOf vs.toArray c) ∈ news) :
   SpecV w 10 74 news True [.ref l] [] (fun r => ∃ u, r = .str (T qs) u) := by
  have h := text_spec w l vs c (castL qs) news hi (by
    intro n hn2
    obtain ⟨q, hq, rfl⟩ := List.mem_map.mp hn2
    have := hn q hq
    omega) (by rw [List.length_map]; exact hlen) hm
  have e : (castL qs).map Int.toNat = qs := by
    rw [List.map_map]
    have : (Int.toNat ∘ fun (p : Nat) => (p : Int)) = id := by funext p; simp
    rw [this, List.map_id]
  rw [e] at h
  exact h
theorem drawn_nat (w : World) (o : Int) (t : Tok) (news : Led) : SpecV w 10 69 news True [.int o t] [] (fun r => ∃ (q : Nat) (u : Tok), ScalarN q ∧ r = .int (q : Int) u) := by
  intro loose mean mg mb dp un gd cn cs a ccd cl outer A₀ base h₀ L m s Q E B F X N T hk hd hu hp ret
  refine drawn_spec w o t news _ _ _ _ _ _ _ _ _ _ _ _ _ _ _ _ _ _ _ _ _ B F X N T hk hd hu hp ?_
  rintro r h' tk' F' N' ⟨n, u, rfl, h1, h2, h3⟩
  refine ret _ h' tk' F' N' ⟨n.toNat, u, ⟨by omega, by omega⟩, ?_⟩
  congr 1
  omega
theorem cat_nat {prog : Program} {w : World} {A : Around} {E : Value → Shared → Prop} {s : Shared} {h₀ : Heap} {L a b : Addr} {m : Str → Option Value} {news : Led} {vs ws : List Value} {ps qs : List Nat} {Q : Value → Shared → Prop}
    (F : Fr h₀ L s.heap m) (N : News h₀ L s.heap news) (ha : s.heap.IsList a vs.toArray) (hb : s.heap.IsList b ws.toArray) (hi : IntsAre vs (castL ps)) (hj : IntsAre ws (castL qs)) (hz : ps.length + qs.length ≤ 2000)
    (h : ∀ D us h', Fr h₀ L h' m → News h₀ L h' ((D, PySem.W.listOf (List.toArray us) 0) :: news) → (∀ p ∈ news, p.1 < D) → IntsAre us (castL (ps ++ qs)) → Q (.ref D) { s with heap := h' }) :
    wpAny (model prog w) A (binaryOp .Add (.ref a) (.ref b)) Q E s :=
  kmk_add_ints F N ha hb hi hj (fun D us h' F' N' l1 hI => h D us h' F' N' l1 (by rw [castL_app]; exact hI)) (by rw [List.length_map, List.length_map, PySem.sizeLine_eq]; omega)
end Mine
end

/-! MLawB -/
section
open PySem PySem.W PyProof.Rows PySem.Calls
namespace Mine

theorem wr_app {a b l k : List Nat} (h1 : Wr a l) (h2 : Wr b k) : Wr (a ++ b) (l ++ k) := by
  induction h1 with
  | nil => exact h2
  | one h h' _ ih => exact .one h h' ih
  | pct h h' _ ih => exact .pct h h' ih
theorem wr_flat {os : List Nat} {f : Nat → List Nat} (h : ∀ o ∈ os, Wr [o] (f o)) : Wr os (os.flatMap f) := by
  induction os with
  | nil => exact .nil
  | cons a r ih => exact wr_app (h a List.mem_cons_self) (ih fun o ho => h o (List.mem_cons_of_mem _ ho))
theorem wr_oct {may : List Nat} {o : Nat} (ho : o < 256) (hm : 37 ∉ may) : Wr [o] (wrO may o) := by
  unfold wrO
  split
  · rename_i h
    rw [Bool.or_eq_true, Bool.and_eq_true] at h
    rcases h with h | h
    · have := free_ne o ho h
      exact .one this.2.2.2 this.2.2.1 .nil
    · have h1 : o < 128 := of_decide_eq_true h.1
      have h2 : o ∈ may := by simpa using h.2
      exact .one h1 (fun e => hm (e ▸ h2)) .nil
  · have e : [o] = [16 * (o / 16) + o % 16] := by congr 1; omega
    rw [e]
    have e2 : o / 16 = o / 16 := rfl
    exact Wr.pct (i := o / 16) (j := o % 16) (by omega) (by omega) .nil |> fun h => by
      have e3 : (16 * (o / 16) + o % 16) = o := by omega
      rw [e3] at h ⊢
      exact h
theorem wr_bare {may ps : List Nat} (hp : ∀ p ∈ ps, p < 1114112) (hm : 37 ∉ may) : Wr (ps.flatMap octN) (wrL may ps) := wr_flat fun o ho => wr_oct (octs_lt hp o ho) hm
theorem wr_each {ps : List Nat} {f : Nat → List Nat} (h : ∀ p ∈ ps, Wr (octN p) (f p)) : Wr (ps.flatMap octN) (ps.flatMap f) := by
  induction ps with
  | nil => exact .nil
  | cons a r ih => exact wr_app (h a List.mem_cons_self) (ih fun o ho => h o (List.mem_cons_of_mem _ ho))
theorem map_flat2 (l : List Nat) (f : Nat → List Nat) (k : Nat → Nat) : (l.flatMap f).map k = l.flatMap fun a => (f a).map k := map_flat fun _ _ => rfl
theorem no_plus {o : Nat} (ho : o < 256) : 43 ∉ wrO [] o := by
  unfold wrO
  have h1 := hex_ne (o / 16) (by omega)
  have h2 := hex_ne (o % 16) (by omega)
  split
  · rename_i h
    have h3 : freeN o = true := by simpa using h
    have h4 := free_ne o ho h3
    simpa using Ne.symm h4.2.1
  · simp [Ne.symm h1.2.1, Ne.symm h2.2.1]
theorem wr_plus {ps : List Nat} (hp : ∀ p ∈ ps, p < 1114112) : Wr (ps.flatMap octN) ((plL ps).map (sub 43 32)) := by
  unfold plL
  rw [map_flat2]
  refine wr_each fun p hpm => ?_
  by_cases h : p = 32
  · subst h
    rw [if_pos rfl]
    exact .one (by decide) (by decide) .nil
  · rw [if_neg h]
    have e : (wrL [] [p]).map (sub 43 32) = wrL [] [p] := by
      refine sub_free _ _ _ ?_
      unfold wrL
      intro hm
      obtain ⟨o, h1, h2⟩ := List.mem_flatMap.mp hm
      exact no_plus (octs_lt (ps := [p]) (by intro q hq; rw [List.mem_singleton.mp hq]; exact hp p hpm) o h1) h2
    rw [e]
    have h3 := wr_bare (may := []) (ps := [p]) (by intro q hq; rw [List.mem_singleton.mp hq]; exact hp p hpm) (by simp)
    simpa using h3

end Mine
end

/-! MLaw -/
section
open PySem PySem.W PyProof.Rows PySem.Calls
namespace Mine
def JPost (s : Shared) (v : Value) (s' : Shared) : Prop := ∃ n u tk, v = .int n u ∧ s' = { s with toks := tk }
theorem join_int {M : Model} {A : Around} {t : Sem Value} {Q : Value → Shared → Prop} {E : Value → Shared → Prop} {s : Shared} (h1 : wpAny M A t (JPost s) E s) (h2 : ∀ n u tk, Q (.int n u) { s with toks := tk }) : wpAny M A t Q E s :=
  wpAny_mono h1 (fun v s' ⟨n, u, tk, e1, e2⟩ => by rw [e1, e2]; exact h2 n u tk) fun _ _ e => e
theorem stay_item : ∀ d : Nat, d < 12 → ∃ q : Nat, q < 128 ∧ Txt.item (Str.ofString " +/:@?=&%#[]") (d : Int) = T [q] := by
  have h : ∀ d : Nat, d < 12 → ((Txt.item (Str.ofString " +/:@?=&%#[]") (d : Int)).cps.getD 0 0 < 128 ∧ Txt.item (Str.ofString " +/:@?=&%#[]") (d : Int) = T [(Txt.item (Str.ofString " +/:@?=&%#[]") (d : Int)).cps.getD 0 0]) := by decide +kernel
  intro d hd
  exact ⟨_, h d hd⟩
theorem stay_at {prog : Program} {w : World} {A : Around} {E : Value → Shared → Prop} {s : Shared} {value slice : PySem.Expr} {t u : Tok} {Q : Value → Shared → Prop} {i : Int} (h0 : 0 ≤ i) (h1 : i < 12) (h : ∀ q, q < 128 → Q (.str (T [q]) s.toks) { s with toks := s.toks + 1 })
    (hs : subscripted slice false (.str (Str.ofString " +/:@?=&%#[]") t) (.int i u) = operate [.str (Str.ofString " +/:@?=&%#[]") t, .int i u] (getItem (.str (Str.ofString " +/:@?=&%#[]") t) (.int i u)) := by with_unfolding_all rfl)
    (ht : ∀ r, letTemporaryGo value (.str (Str.ofString " +/:@?=&%#[]") t) r = pure () := by intro _; with_unfolding_all rfl) :
    wpAny (model prog w) A (subscriptTail value slice (.str (Str.ofString " +/:@?=&%#[]") t) (.int i u)) Q E s := by
  obtain ⟨k, rfl⟩ := Int.eq_ofNat_of_zero_le h0
  refine KXi.item (n := 12) (by decide) (by omega) (by omega) (by omega) (fun _ => ?_) hs ht
  obtain ⟨q, hq, e⟩ := stay_item k (by omega)
  rw [e]
  exact h q hq
theorem join_signs {prog : Program} {w : World} {A : Around} {E : Value → Shared → Prop} {s : Shared} {t : Tok} {Q : Value → Shared → Prop} {D : Addr} {ys : List Value} {qs : List Nat} (hl : s.heap.IsList D ys.toArray) (hc : CarriedAll ys (qs.map fun q => PyData.str (T [q]))) (hn : qs.length ≤ 1048576)
    (h : ∀ t' k, Q (.str (T qs) t') { s with toks := k }) : wpAny (model prog w) A (call (.builtin "str.join") [.str (Str.ofString "") t, .ref D]) Q E s :=
  KT.join_B (g := fun q => T [q]) 1 hl hc (fun a _ => by rw [T_len]; exact Nat.le_refl _) hn (by decide) fun t' k => by
    have e := join_T (qs.map fun q => [q])
    rw [List.map_map] at e
    have e2 : Txt.join (Str.ofString "") (qs.map fun q => T [q]) = T qs := e.trans (congrArg T (flat_ones qs))
    rw [e2]
    exact h t' k
section
local macro_rules | `(tactic| walk_at "call builtin:str.join") => `(tactic| (k_here; (with_reducible show wpAny _ _ (call (Value.builtin "str.join") [Value.str _ _, Value.ref _]) _ _ _); (refine join_signs (by first | exact News.isList (by k_asm) (by k_mem)) (by assumption) (by assumption) ?_); intro _ _))
local macro_rules | `(tactic| walk_at "subscriptTail Name Name str int") => `(tactic| (k_here; (refine stay_at (by assumption) (by assumption) ?_); intro _ _))
local macro_rules | `(tactic| walk_at "call ref") => `(tactic| (k_here; (with_reducible show wpAny _ _ (call (Value.ref 69) _ _) _ _ _); k_dflt (refine' specV_up (drawn_nat _ _ _ _) ?k1 ?k2 ?k3 ?k4 ?k5 ?kK ?kd ?ku True.intro ?_; (case k1 => k_asm); (case k2 => k_asm); (case k3 => k_asm); (case k4 => k_asm); (case k5 => k_asm); (case kK => first | exact rfl | assumption); (case kd => ktr_room); (case ku => ktr_units); intro r9 h9 tk9 le9 F9 N9 hp9; clear le9; (obtain ⟨q9, u9, hq9, e9⟩ := hp9); subst e9)))
local macro_rules | `(tactic| walk_at "call ref") => `(tactic| (k_here; (with_reducible show wpAny _ _ (call (Value.ref 74) _ _) _ _ _); k_dflt (refine' specV_up (text_nat _ _ _ _ _ _ ?hi ?hn ?hl ?hm) ?k1 ?k2 ?k3 ?k4 ?k5 ?kK ?kd ?ku True.intro ?_; (case k4 => k_asm); (case hm => k_mem); (case hi => assumption); (case hn => assumption); (case hl => assumption); (case k1 => k_asm); (case k2 => k_asm); (case k3 => k_asm); (case k5 => k_asm); (case kK => first | exact rfl | assumption); (case kd => ktr_room); (case ku => ktr_units); intro r9 h9 tk9 le9 F9 N9 hp9; (try dsimp only at le9); (obtain ⟨u9, e9⟩ := hp9); subst e9)))
local macro_rules | `(tactic| walk_at "call ref") => `(tactic| (k_here; (with_reducible show wpAny _ _ (call (Value.ref 55) _ _) _ _ _); k_dflt (refine' specV_up (writ_spec _ _ _ _ _ _ _ ?hi ?hn ?hl _ ?hm) ?k1 ?k2 ?k3 ?k4 ?k5 ?kK ?kd ?ku True.intro ?_; (case k4 => k_asm); (case hm => k_mem); (case hi => assumption); (case hn => assumption); (case hl => assumption); (case k1 => k_asm); (case k2 => k_asm); (case k3 => k_asm); (case k5 => k_asm); (case kK => first | exact rfl | assumption); (case kd => ktr_room); (case ku => ktr_units); intro r9 h9 tk9 le9 F9 N9 hp9; (try dsimp only at le9); (obtain ⟨u9, e9⟩ := hp9); subst e9)))
local macro_rules | `(tactic| walk_at "call ref") => `(tactic| (k_here; (with_reducible show wpAny _ _ (call (Value.ref 62) _ _) _ _ _); k_dflt (refine' specV_up (plusl_spec _ _ _ _ _ ?hi ?hn ?hl _ ?hm) ?k1 ?k2 ?k3 ?k4 ?k5 ?kK ?kd ?ku True.intro ?_; (case k4 => k_asm); (case hm => k_mem); (case hi => assumption); (case hn => assumption); (case hl => assumption); (case k1 => k_asm); (case k2 => k_asm); (case k3 => k_asm); (case k5 => k_asm); (case kK => first | exact rfl | assumption); (case kd => ktr_room); (case ku => ktr_units); intro r9 h9 tk9 le9 F9 N9 hp9; (try dsimp only at le9); (obtain ⟨u9, e9⟩ := hp9); subst e9)))
local macro_rules | `(tactic| walk_at "call ref") => `(tactic| (k_here; (with_reducible show wpAny _ _ (call (Value.ref 19) _ _) _ _ _); k_dflt (first | (refine' specV_up (quote_spec _ _ _ _ _ ?hn ?hl ?hm _) ?k1 ?k2 ?k3 ?k4 ?k5 ?kK ?kd ?ku True.intro ?_; (case hn => assumption); (case hl => assumption); (case hm => assumption); (case k1 => k_asm); (case k2 => k_asm); (case k3 => k_asm); (case k4 => k_asm); (case k5 => k_asm); (case kK => first | exact rfl | assumption); (case kd => ktr_room); (case ku => ktr_units); intro r9 h9 tk9 le9 F9 N9 hp9; (try dsimp only at le9); (obtain ⟨u9, e9⟩ := hp9); subst e9) | (refine' specV_up (quote_kw _ _ _ _ _ ?hn ?hl ?hm _) ?k1 ?k2 ?k3 ?k4 ?k5 ?kK ?kd ?ku True.intro ?_; (case hn => assumption); (case hl => assumption); (case hm => assumption); (case k1 => k_asm); (case k2 => k_asm); (case k3 => k_asm); (case k4 => k_asm); (case k5 => k_asm); (case kK => first | exact rfl | assumption); (case kd => ktr_room); (case ku => ktr_units); intro r9 h9 tk9 le9 F9 N9 hp9; (try dsimp only at le9); (obtain ⟨u9, e9⟩ := hp9); subst e9))))
local macro_rules | `(tactic| walk_at "call ref") => `(tactic| (k_here; (with_reducible show wpAny _ _ (call (Value.ref 26) _ _) _ _ _); k_dflt (refine' plus_pos ?hn ?hl ?k1 ?k2 ?k3 ?k4 ?k5 ?kK ?kd ?ku ?_; (case hn => assumption); (case hl => assumption); (case k1 => k_asm); (case k2 => k_asm); (case k3 => k_asm); (case k4 => k_asm); (case k5 => k_asm); (case kK => first | exact rfl | assumption); (case kd => ktr_room); (case ku => ktr_units); intro u9 h9 tk9 le9 F9 N9)))
local macro_rules | `(tactic| walk_at "call ref") => `(tactic| (k_here; (with_reducible show wpAny _ _ (call (Value.ref 33) _ _) _ _ _); k_dflt (refine' specV_up (unq_spec _ _ _ _ _ ?hW rfl ?hn ?hl _) ?k1 ?k2 ?k3 ?k4 ?k5 ?kK ?kd ?ku True.intro ?_; (case hW => assumption); (case hn => assumption); (case hl => assumption); (case k1 => k_asm); (case k2 => k_asm); (case k3 => k_asm); (case k4 => k_asm); (case k5 => k_asm); (case kK => first | exact rfl | assumption); (case kd => ktr_room); (case ku => ktr_units); intro r9 h9 tk9 le9 F9 N9 hp9; (try dsimp only at le9); (obtain ⟨u9, e9⟩ := hp9); subst e9)))
local macro_rules | `(tactic| walk_at "call builtin:str.replace") => `(tactic| (k_here; (first | refine rep_plus (by (show @Ne Nat _ _); omega) (by (show @Ne Nat _ _); omega) (by (show @Ne Nat _ _); omega) (by assumption) ?_ | refine rep_pct (by (show @Ne Nat _ _); omega) (by (show @Ne Nat _ _); omega) (by (show @Ne Nat _ _); omega) (by assumption) ?_); intro _ _ leR; (try dsimp only at leR)))
local macro_rules | `(tactic| walk_at "compareOp NotEq str str") => `(tactic| (k_here; (refine ne_same ?_)))
local macro_rules | `(tactic| walk_at "compareOp Eq str str") => `(tactic| (k_here; (refine eq_same ?_)))
local macro_rules | `(tactic| walk_at "binaryOp Add str str") => `(tactic| (k_here; (with_reducible show wpAny _ _ (binaryOp Operator.Add (Value.str (T _) _) (Value.str (T _) _)) _ _ _); (refine add_TT (by omega) ?_); intro _ _))
local macro_rules | `(tactic| walk_at "binaryOp Add ref ref") => `(tactic| (k_here; k_dflt (refine' cat_nat ?F ?N ?a ?b ?i ?j ?z ?_; (case F => k_asm); (case N => k_asm); (case a => exact News.isList (by k_asm) (by k_mem)); (case b => exact News.isList (by k_asm) (by k_mem)); (case i => assumption); (case j => assumption); (case z => omega)); intro D9 us9 h9 F9 N9 lt9 hI9; (try k_lt lt9); (try k_sweep)))
local macro_rules | `(tactic| walk_at "CompSrcT") => `(tactic| (refine hold_of ?_))
local macro_rules | `(tactic| walk_at "CompSrc") => `(tactic| (refine hold_of ?_))
local macro_rules | `(tactic| walk_at "eval ListComp") => `(tactic| (refine hold_of ?_))
local macro_rules | `(tactic| walk_at "exec Assign cons ListComp") => `(tactic| (k_here; k_dflt (refine LCg.Assign_ListComp_U (F₀ := by k_asm) (by rfl) (by with_unfolding_all rfl) (by with_unfolding_all rfl) (by decide) (by rfl) (by decide) (by rfl) (by rfl) (by rfl) ?_)))
local macro_rules | `(tactic| walk_at "eval IfExp") => `(tactic| ((fail_if_success (with_reducible show wpAny _ _ _ (JPost _) _ _)); (refine hold_of ?_)))
theorem law_holds : PySem.Challenge.rw_ep5033_01.Holds := hd (by
  k_go0
  all_goals try k_fold
  k_steps
  delta Hold
  refine join_int ?_ (fun n u tk => ?_)
  · k_steps
    all_goals (exact ⟨_, _, _, rfl, rfl⟩)
  (try k_fold)
  iterate 25 (try (first | (k_unfold; (try dsimp only)) | (k_end; wrow_close) | walk1 | (dsimp only; walk1) | (leave1; walk_say "STEP leave1"; try dsimp only)))
  delta Hold
  k_dflt (refine LCt.ListComp_T (F₀ := by k_asm) (by with_unfolding_all rfl) (by decide) (by rfl) (by decide) (by rfl) ?_)
  k_steps
  delta Hold
  refine LCt.CompSrcT.range (by rfl) (by k_asm) (by k_asm) (by assumption) (by decide) (n := 12) (by rfl) (by exact Nat.le_of_ble_eq_true rfl) ?_
  intro g'
  refine comp_signs (fun q => q < 128) (fun i v I oI C oC D m₂ ys h tk E' hi hv hC hx F' N' off ne => ?_) (fun ys may hys hl hmay => ?_)
  · obtain ⟨tv, hv⟩ := hv
    subst hv
    have hi0 : 0 ≤ (0 : Int) + (i : Int) := by omega
    have hi1 : (0 : Int) + (i : Int) < 12 := by omega
    have off' := off
    simp only [LCg.Off3] at off'
    k_steps
    all_goals (exact ⟨rfl, _, _, by assumption, rfl⟩)
  have hml : may.length ≤ 1048576 := by omega
  k_steps
  delta Hold
  (with_reducible rename IntsAre _ _ => hI2)
  have hI2l := hI2.length
  (with_reducible rename (List.length _ = min _ _) => hI2m)
  refine LCg.CompSrc.ledger (by rfl) (by k_asm) (by k_asm) (by k_mem) (by rw [List.size_toArray, hI2l, PySem.sizeLine_eq]; omega) ?_
  intro g2
  refine comp_nats (fun _ q => ScalarN q) (fun i v I oI C oC D m₂ ys h tk E' hi hv hC hx F' N' off ne => ?_) (fun ys ps hps hl2 hps2 => ?_)
  · obtain ⟨k, tv, hv2, _⟩ := IntsAre.at hI2 i v (by simpa using hv)
    subst hv2
    have off' := off
    simp only [LCg.Off3] at off'
    k_steps
    all_goals (exact ⟨rfl, _, _, by assumption, rfl⟩)
  k_steps
  delta Hold
  refine LCg.CompSrc.range (by rfl) (by k_asm) (by k_asm) (by assumption) (by decide) (n := 128) (by rfl) (by exact Nat.le_of_ble_eq_true rfl) ?_
  intro g3
  refine comp_nats (fun i q => q = i) (fun i v I oI C oC D m₂ ys h tk E' hi hv hC hx F' N' off ne => ?_) (fun ys sw hsw hl3 hsw2 => ?_)
  · obtain ⟨tv, hv⟩ := hv
    subst hv
    have off' := off
    simp only [LCg.Off3] at off'
    k_steps
    all_goals (exact ⟨rfl, i, tv, rfl, by rw [Int.zero_add]⟩)
  have s1 : ∀ q ∈ ps, ScalarN q := fun q hq => by
    obtain ⟨k, hk⟩ := List.getElem?_of_mem hq
    exact hps2 k q hk
  have s2 : ∀ q ∈ sw, ScalarN q := fun q hq => by
    obtain ⟨k, hk⟩ := List.getElem?_of_mem hq
    have e := hsw2 k q hk
    have h1 : k < sw.length := by
      rcases Nat.lt_or_ge k sw.length with h1 | h1
      · exact h1
      · rw [List.getElem?_eq_none h1] at hk; cases hk
    unfold ScalarN
    omega
  have s3 : ∀ q ∈ ps ++ sw, ScalarN q := fun q hq => (List.mem_append.mp hq).elim (s1 q) (s2 q)
  have n1 : ∀ q ∈ ps, q < 1114112 := fun q hq => (s1 q hq).1
  have n2 : ∀ q ∈ sw, q < 1114112 := fun q hq => (s2 q hq).1
  have n3 : ∀ q ∈ ps ++ sw, q < 1114112 := fun q hq => (s3 q hq).1
  have z1 : ps.length ≤ 24 := by
    rw [hl2, List.size_toArray, hI2l]; omega
  have z2 : ps.length ≤ 1000 := by omega
  have z3 : sw.length ≤ 1000 := by omega
  have z4 : (ps ++ sw).length ≤ 1000 := by rw [List.length_append]; omega
  have hbm : ∀ q ∈ may.filter (· != 37), q < 128 := fun q hq => hmay q (List.mem_filter.mp hq).1
  have hb37 : 37 ∉ may.filter (· != 37) := fun h => by
    have := (List.mem_filter.mp h).2
    simp at this
  have wb := wr_bare n1 hb37
  have wp := wr_plus n1
  have zp : (plL ps).length ≤ 1048576 := by
    rw [← plus_law ps n1, List.length_map]
    have := wrL_len [32] ps
    omega
  clear hsw2 hps2
  k_steps)
end
end Mine
end

theorem PySem.Challenge.cw_ep5033_01_holds : PySem.Challenge.rw_ep5033_01.Holds := by
  exact Mine.law_holds

