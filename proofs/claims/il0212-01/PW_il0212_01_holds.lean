import PyProof.Rows.All
import Wide.All
import OpenK.AllK
import Wide.FinOn
import PySem.Challenge.RW_il0212_01
open PySem PySem.W PyProof.Rows
set_option Elab.async false
set_option maxRecDepth 100000
set_option maxHeartbeats 8000000
set_option linter.unusedVariables false
namespace Mine
open_top hd for PySem.Challenge.rw_il0212_01

/- part Base -/
abbrev pr : Program := PySem.Challenge.rw_il0212_01.row.prog
def Tells (w : World) (mean : ExcName → Option Value) (mg mb : Str → Option Value) (f : Addr) (news : List (Addr × Obj)) (vs : List Value) (R : Tok → Value) : Prop :=
  ∀ (dp un : Nat) (gd : Option (List Code)) (cn : Str) (cs : Scope) (a : Addr) (ccd : Value) (cl : List (Str × Addr)) (outer : List Env) (A₀ : Around) (base h₀ : Heap) (L : Addr) (m : Str → Option Value) (s : Shared) (Q E : Value → Shared → Prop),
    Below A₀ base outer h₀ → Fr h₀ L s.heap m → (hd.heap_39 w.params).In h₀ → News h₀ L s.heap news → Top hd.view_39 (looseW hd.view_39 []) mean mg mb h₀ → cs.kind = .function →
    dp + 8 < recursionLimit → un + 80 < cLine → CbRet h₀ L m news s Q R →
      wpAny (model pr w) (ktrTop dp un gd cn cs L a ccd cl outer) (call (.ref f) vs) Q E s

def subN (x y : Nat) : Int := if x = y then 0 else if Txt.lower ⟨#[x]⟩ = Txt.lower ⟨#[y]⟩ then 1 else 2
theorem Tells.use {w : World} {mean : ExcName → Option Value} {mg mb : Str → Option Value} {f : Addr} {news : List (Addr × Obj)} {vs : List Value} {R : Tok → Value} (C : Tells w mean mg mb f news vs R)
    {dp un : Nat} {gd : Option (List Code)} {cn : Str} {cs : Scope} {a : Addr} {ccd : Value} {cl : List (Str × Addr)} {outer : List Env} {A₀ : Around} {base h₀ : Heap} {L : Addr} {m : Str → Option Value} {s : Shared} {Q E : Value → Shared → Prop}
    (B : Below A₀ base outer h₀) (F : Fr h₀ L s.heap m) (X : (hd.heap_39 w.params).In h₀) (N : News h₀ L s.heap news) (T : Top hd.view_39 (looseW hd.view_39 []) mean mg mb h₀) (hk : cs.kind = .function)
    (hd' : dp + 8 < recursionLimit) (hu : un + 80 < cLine) (ret : ∀ (t : Tok) (h' : Heap) (tk' : Nat), Fr h₀ L h' m → News h₀ L h' news → Q (R t) { s with heap := h', toks := tk' }) :
      wpAny (model pr w) (ktrTop dp un gd cn cs L a ccd cl outer) (call (.ref f) vs) Q E s :=
  C _ _ _ _ _ _ _ _ _ _ _ _ _ _ _ _ _ B F X N T hk hd' hu ret
/-- the same, two frames deep less -/
def TellsD (k : Nat) (w : World) (mean : ExcName → Option Value) (mg mb : Str → Option Value) (f : Addr) (news : List (Addr × Obj)) (vs : List Value) (R : Tok → Value) : Prop :=
  ∀ (dp un : Nat) (gd : Option (List Code)) (cn : Str) (cs : Scope) (a : Addr) (ccd : Value) (cl : List (Str × Addr)) (outer : List Env) (A₀ : Around) (base h₀ : Heap) (L : Addr) (m : Str → Option Value) (s : Shared) (Q E : Value → Shared → Prop),
    Below A₀ base outer h₀ → Fr h₀ L s.heap m → (hd.heap_39 w.params).In h₀ → News h₀ L s.heap news → Top hd.view_39 (looseW hd.view_39 []) mean mg mb h₀ → cs.kind = .function →
    dp + k < recursionLimit → un + 8 * k < cLine → CbRet h₀ L m news s Q R →
      wpAny (model pr w) (ktrTop dp un gd cn cs L a ccd cl outer) (call (.ref f) vs) Q E s
theorem TellsD.use {k : Nat} {w : World} {mean : ExcName → Option Value} {mg mb : Str → Option Value} {f : Addr} {news : List (Addr × Obj)} {vs : List Value} {R : Tok → Value} (C : TellsD k w mean mg mb f news vs R)
    {dp un : Nat} {gd : Option (List Code)} {cn : Str} {cs : Scope} {a : Addr} {ccd : Value} {cl : List (Str × Addr)} {outer : List Env} {A₀ : Around} {base h₀ : Heap} {L : Addr} {m : Str → Option Value} {s : Shared} {Q E : Value → Shared → Prop}
    (B : Below A₀ base outer h₀) (F : Fr h₀ L s.heap m) (X : (hd.heap_39 w.params).In h₀) (N : News h₀ L s.heap news) (T : Top hd.view_39 (looseW hd.view_39 []) mean mg mb h₀) (hk : cs.kind = .function)
    (hd' : dp + k < recursionLimit) (hu : un + 8 * k < cLine) (ret : ∀ (t : Tok) (h' : Heap) (tk' : Nat), Fr h₀ L h' m → News h₀ L h' news → Q (R t) { s with heap := h', toks := tk' }) :
      wpAny (model pr w) (ktrTop dp un gd cn cs L a ccd cl outer) (call (.ref f) vs) Q E s :=
  C _ _ _ _ _ _ _ _ _ _ _ _ _ _ _ _ _ B F X N T hk hd' hu ret

/- part A2 -/
theorem ctoi_s (w : World) (mean : ExcName → Option Value) (mg mb : Str → Option Value) (news : List (Addr × Obj)) (n : Nat) (t : Tok) :
    TellsD 2 w mean mg mb 35 news [.str ⟨#[n]⟩ t] (fun t => .int n t) := by
  unfold TellsD pr; k_fill
  intros; rename_i hret
  refine wpAny_call ?_
  k_dflt cell_enter
  k_steps
  all_goals cb_end hret

theorem ctoi_i (w : World) (mean : ExcName → Option Value) (mg mb : Str → Option Value) (news : List (Addr × Obj)) (n : Int) (t : Tok) :
    TellsD 2 w mean mg mb 35 news [.int n t] (fun t => .int n t) := by
  unfold TellsD pr; k_fill
  intros; rename_i hret
  refine wpAny_call ?_
  k_dflt cell_enter
  k_steps
  all_goals cb_end hret

local macro_rules | `(tactic| walk_at "call builtin:str.lower") => `(tactic| (k_here; (with_unfolding_all show wpAny _ _ (call (Value.builtin "str.lower") [Value.str _ _]) _ _ _); (refine SCL.lower (Nat.le_of_ble_eq_true rfl) ?_); intro _))

theorem beq_str_one {x y : Nat} : (({ cps := #[x] } : Str) == { cps := #[y] }) = decide (x = y) := by
  rw [Bool.eq_iff_iff, beq_iff_eq, decide_eq_true_eq]
  constructor
  · intro h; simpa using congrArg Str.cps h
  · intro h; rw [h]

theorem sub_1 {x y : Nat} (h : (({ cps := #[x] } : Str) == { cps := #[y] }) = true) : (0 : Int) = subN x y := by
  rw [beq_str_one, decide_eq_true_eq] at h
  simp [subN, h]
theorem sub_2 {x y : Nat} (h : (({ cps := #[x] } : Str) == { cps := #[y] }) = false) (h2 : (Txt.lower { cps := #[x] } == Txt.lower { cps := #[y] }) = true) : (1 : Int) = subN x y := by
  rw [beq_str_one, decide_eq_false_iff_not] at h
  rw [beq_iff_eq] at h2
  simp [subN, h, h2]
theorem sub_3 {x y : Nat} (h : (({ cps := #[x] } : Str) == { cps := #[y] }) = false) (h2 : (Txt.lower { cps := #[x] } == Txt.lower { cps := #[y] }) = false) : (2 : Int) = subN x y := by
  rw [beq_str_one, decide_eq_false_iff_not] at h
  have h2 : ¬ Txt.lower { cps := #[x] } = Txt.lower { cps := #[y] } := by
    intro e; rw [e, beq_self_eq_true] at h2; cases h2
  simp [subN, h, h2]

theorem sub_tells (w : World) (mean : ExcName → Option Value) (mg mb : Str → Option Value) (news : List (Addr × Obj)) (x y : Nat) (t u : Tok) :
    TellsD 2 w mean mg mb 21 news [.str ⟨#[x]⟩ t, .str ⟨#[y]⟩ u] (fun t => .int (subN x y) t) := by
  unfold TellsD pr; k_fill
  intros; rename_i hret
  refine wpAny_call ?_
  k_dflt cell_enter
  k_steps
  · refine cb_retI hret (sub_1 (by assumption)) (by k_asm) (by k_asm)
  · refine cb_retI hret (sub_2 (by assumption) (by assumption)) (by k_asm) (by k_asm)
  · refine cb_retI hret (sub_3 (by assumption) (by assumption)) (by k_asm) (by k_asm)

local macro_rules | `(tactic| walk_at "call ref") => `(tactic| (k_here; (with_reducible show wpAny _ _ (call (Value.ref 35) _) _ _ _); (first | (k_dflt refine' TellsD.use (ctoi_s _ _ _ _ _ _ _) ?k1 ?k2 ?k3 ?k4 ?k5 ?k6 ?kd ?ku ?_) | (k_dflt refine' TellsD.use (ctoi_i _ _ _ _ _ _ _) ?k1 ?k2 ?k3 ?k4 ?k5 ?k6 ?kd ?ku ?_)); (case k1 => k_asm); (case k2 => k_asm); (case k3 => k_asm); (case k4 => k_asm); (case k5 => k_asm); (case k6 => first | exact rfl | assumption); (case kd => ktr_room); (case ku => ktr_units); intro t9 h9 tk9 F9 N9; (try dsimp only); (try k_fold)))

theorem pr_1 {n : Int} (h : 32 ≤ n) : decide (n ≤ 126) = (decide (32 ≤ n) && decide (n ≤ 126)) := by simp [h]
theorem pr_2 {n : Int} (h : ¬ 32 ≤ n) : decide (32 ≤ n) = (decide (32 ≤ n) && decide (n ≤ 126)) := by simp [h]
theorem isprint_i (w : World) (mean : ExcName → Option Value) (mg mb : Str → Option Value) (news : List (Addr × Obj)) (n : Int) (t : Tok) :
    TellsD 4 w mean mg mb 42 news [.int n t] (fun _ => .bool (decide (32 ≤ n) && decide (n ≤ 126))) := by
  unfold TellsD pr; k_fill
  intros; rename_i hret
  refine wpAny_call ?_
  k_dflt cell_enter
  k_steps
  · refine cb_retB hret (pr_1 (by assumption)) (by k_asm) (by k_asm)
  · refine cb_retB hret (pr_2 (by assumption)) (by k_asm) (by k_asm)

/-- the seven low bits -/
def low (n : Nat) : Int := Builtin.bitAnd (n : Int) 127
def ctl (n : Nat) : Int := Builtin.bitOr (low n) 32 + 32
theorem low_all : ∀ n, n < 255 → 0 ≤ low n ∧ low n ≤ 1114111 ∧ 0 ≤ ctl n ∧ ctl n ≤ 1114111 := by decide +kernel
theorem low_lo {n : Nat} (h : n < 255) : 0 ≤ Builtin.bitAnd (n : Int) 127 := (low_all n h).1
theorem low_hi {n : Nat} (h : n < 255) : Builtin.bitAnd (n : Int) 127 ≤ 1114111 := (low_all n h).2.1
theorem ctl_lo {n : Nat} (h : n < 255) : 0 ≤ Builtin.bitOr (Builtin.bitAnd (n : Int) 127) 32 + 32 := (low_all n h).2.2.1
theorem ctl_hi {n : Nat} (h : n < 255) : Builtin.bitOr (Builtin.bitAnd (n : Int) 127) 32 + 32 ≤ 1114111 := (low_all n h).2.2.2
local macro_rules | `(tactic| walk_at "call builtin:chr") => `(tactic| (k_here; (with_reducible show wpAny _ _ (call (Value.builtin "chr") [Value.int _ _]) _ _ _); first | (refine chr_of_range (low_lo (by assumption)) (low_hi (by assumption)) ?_) | (refine chr_of_range (ctl_lo (by assumption)) (ctl_hi (by assumption)) ?_)))

theorem bare_tells (w : World) (mean : ExcName → Option Value) (mg mb : Str → Option Value) (news : List (Addr × Obj)) (n : Nat) (hn : n < 255) (t : Tok) :
    TellsD 4 w mean mg mb 49 news [.str ⟨#[n]⟩ t] (fun t => .str ⟨#[(low n).toNat]⟩ t) := by
  unfold TellsD pr; k_fill
  intros; rename_i hret
  refine wpAny_call ?_
  k_dflt cell_enter
  k_steps
  · exact cb_retS hret rfl (by k_asm) (by k_asm)
local macro_rules | `(tactic| walk_at "call ref") => `(tactic| (k_here; (with_reducible show wpAny _ _ (call (Value.ref 42) _) _ _ _); (k_dflt refine' TellsD.use (isprint_i _ _ _ _ _ _ _) ?k1 ?k2 ?k3 ?k4 ?k5 ?k6 ?kd ?ku ?_); (case k1 => k_asm); (case k2 => k_asm); (case k3 => k_asm); (case k4 => k_asm); (case k5 => k_asm); (case k6 => first | exact rfl | assumption); (case kd => ktr_room); (case ku => ktr_units); intro t9 h9 tk9 F9 N9; (try dsimp only); (try k_fold)))

def rep (n : Nat) : Str := if (n : Int) = 127 then Str.ofString "^?" else if (decide (32 ≤ Builtin.bitAnd (n : Int) 127) && decide (Builtin.bitAnd (n : Int) 127 ≤ 126)) = true then ⟨#[(Builtin.bitAnd (n : Int) 127).toNat]⟩ else Str.ofString "^" ++ ⟨#[(Builtin.bitOr (Builtin.bitAnd (n : Int) 127) 32 + 32).toNat]⟩
def unS (n : Nat) : Str := if Builtin.bitAnd (n : Int) 128 = 0 then rep n else Str.ofString "!" ++ rep n
theorem un_1 {n : Nat} (h : (n : Int) = 127) (h8 : Builtin.bitAnd (n : Int) 128 ≠ 0) : Str.ofString "!" ++ Str.ofString "^?" = unS n := by unfold unS rep; rw [if_neg h8, if_pos h]
theorem un_2 {n : Nat} (h : (n : Int) = 127) (h8 : Builtin.bitAnd (n : Int) 128 = 0) : Str.ofString "^?" = unS n := by unfold unS rep; rw [if_pos h8, if_pos h]
theorem un_3 {n : Nat} (h : (n : Int) ≠ 127) (hp : (decide (32 ≤ Builtin.bitAnd (n : Int) 127) && decide (Builtin.bitAnd (n : Int) 127 ≤ 126)) = true) (h8 : Builtin.bitAnd (n : Int) 128 ≠ 0) :
    Str.ofString "!" ++ { cps := #[(Builtin.bitAnd (n : Int) 127).toNat] } = unS n := by unfold unS rep; rw [if_neg h8, if_neg h, if_pos hp]
theorem un_4 {n : Nat} (h : (n : Int) ≠ 127) (hp : (decide (32 ≤ Builtin.bitAnd (n : Int) 127) && decide (Builtin.bitAnd (n : Int) 127 ≤ 126)) = true) (h8 : Builtin.bitAnd (n : Int) 128 = 0) :
    { cps := #[(Builtin.bitAnd (n : Int) 127).toNat] } = unS n := by unfold unS rep; rw [if_pos h8, if_neg h, if_pos hp]
theorem un_5 {n : Nat} (h : (n : Int) ≠ 127) (hp : (decide (32 ≤ Builtin.bitAnd (n : Int) 127) && decide (Builtin.bitAnd (n : Int) 127 ≤ 126)) = false) (h8 : Builtin.bitAnd (n : Int) 128 ≠ 0) :
    Str.ofString "!" ++ (Str.ofString "^" ++ { cps := #[(Builtin.bitOr (Builtin.bitAnd (n : Int) 127) 32 + 32).toNat] }) = unS n := by unfold unS rep; rw [if_neg h8, if_neg h, if_neg (by rw [hp]; exact Bool.false_ne_true)]
theorem un_6 {n : Nat} (h : (n : Int) ≠ 127) (hp : (decide (32 ≤ Builtin.bitAnd (n : Int) 127) && decide (Builtin.bitAnd (n : Int) 127 ≤ 126)) = false) (h8 : Builtin.bitAnd (n : Int) 128 = 0) :
    Str.ofString "^" ++ { cps := #[(Builtin.bitOr (Builtin.bitAnd (n : Int) 127) 32 + 32).toNat] } = unS n := by unfold unS rep; rw [if_pos h8, if_neg h, if_neg (by rw [hp]; exact Bool.false_ne_true)]

theorem unctrl_tells (w : World) (mean : ExcName → Option Value) (mg mb : Str → Option Value) (news : List (Addr × Obj)) (n : Nat) (hn : n < 255) (t : Tok) :
    TellsD 6 w mean mg mb 56 news [.str ⟨#[n]⟩ t] (fun t => .str (unS n) t) := by
  unfold TellsD pr; k_fill
  intros; rename_i hret
  refine wpAny_call ?_
  k_dflt cell_enter
  k_steps
  · exact cb_retS hret (un_1 (by assumption) (by assumption)) (by k_asm) (by k_asm)
  · exact cb_retS hret (un_2 (by assumption) (by assumption)) (by k_asm) (by k_asm)
  · exact cb_retS hret (un_3 (by assumption) (by assumption) (by assumption)) (by k_asm) (by k_asm)
  · exact cb_retS hret (un_4 (by assumption) (by assumption) (by assumption)) (by k_asm) (by k_asm)
  · exact cb_retS hret (un_5 (by assumption) (by assumption) (by assumption)) (by k_asm) (by k_asm)
  · exact cb_retS hret (un_6 (by assumption) (by assumption) (by assumption)) (by k_asm) (by k_asm)

/- part Seg -/
/-- a text by its codes -/
def S (l : List Nat) : Str := ⟨l.toArray⟩
theorem S_len (l : List Nat) : (S l).length = l.length := by simp [S, Str.length]
theorem S_inj {x y : List Nat} (h : S x = S y) : x = y := by
  have := congrArg (fun s => s.cps.toList) h
  simpa [S] using this
def mp (l : List (Str × Value)) : Str → Option Value := fun y => List.lookup y l
theorem mp_cons (x : Str) (v : Value) (l : List (Str × Value)) : (fun y => if y = x then some v else mp l y) = mp ((x, v) :: l) := by
  funext y
  unfold mp
  rw [List.lookup_cons]
  by_cases h : y = x
  · rw [if_pos h, h, beq_self_eq_true]
  · rw [if_neg h, beq_false_of_ne h]
theorem fr_eqm {h₀ h : Heap} {L : Addr} {m m' : Str → Option Value} (F : Fr h₀ L h m') (e : ∀ y, m' y = m y) : Fr h₀ L h m := by
  have : m' = m := funext e
  rw [← this]; exact F

def levBody : List Stmt := match (pr.main.body[5]? : Option Stmt) with
  | some (Stmt.FunctionDef _ _ body _ _ _ _ _ _ _) => body
  | _ => []
def levScope : Scope := match (pr.main.body[5]? : Option Stmt) with
  | some (Stmt.FunctionDef _ _ _ _ _ _ scope _ _ _) => scope
  | _ => { kind := .function, names := [], isGenerator := false, isCoroutine := false }



def WiEnd (h₀ : Heap) (L : Addr) (s : Shared) (x : Str) (rest : List (Str × Value)) (news : List (Addr × Obj)) (P : Int → Prop) (μ : Int → Nat) (k : Int) (s₂ : Shared) : Prop :=
  ∃ k' t' h' tk', s₂ = { s with heap := h', toks := tk' } ∧ Fr h₀ L h' (mp ((x, .int k' t') :: rest)) ∧ News h₀ L h' news ∧ P k' ∧ μ k' < μ k
def WiPost (h₀ : Heap) (L : Addr) (s : Shared) (x : Str) (rest : List (Str × Value)) (news : List (Addr × Obj)) (P : Int → Prop) (μ : Int → Nat) (k : Int) (f : Flow) (s₂ : Shared) : Prop :=
  f = .next ∧ WiEnd h₀ L s x rest news P μ k s₂
theorem WiPost.intro {h₀ : Heap} {L : Addr} {s : Shared} {x : Str} {rest : List (Str × Value)} {news : List (Addr × Obj)} {P : Int → Prop} {μ : Int → Nat} {k k' : Int} {t' : Tok} {h' : Heap} {tk' : Nat} {m' : Str → Option Value}
    (F : Fr h₀ L h' m') (N : News h₀ L h' news) (e : ∀ y, m' y = mp ((x, .int k' t') :: rest) y) (hp : P k') (hm : μ k' < μ k) : WiPost h₀ L s x rest news P μ k .next { s with heap := h', toks := tk' } :=
  ⟨rfl, k', t', h', tk', rfl, fr_eqm F e, N, hp, hm⟩
def WiDone (h₀ : Heap) (L : Addr) (s : Shared) (x : Str) (rest : List (Str × Value)) (news : List (Addr × Obj)) (R : Int → Prop) (s₂ : Shared) : Prop :=
  ∃ k' t' h' tk', s₂ = { s with heap := h', toks := tk' } ∧ Fr h₀ L h' (mp ((x, .int k' t') :: rest)) ∧ News h₀ L h' news ∧ R k'
section
variable {prog : Program} {w : World} {A : Around} {Q : Flow → Shared → Prop} {s : Shared} {env : Env} {h₀ : Heap} {L : Addr}
theorem while_int {test : Expr} {body : List Stmt} {pos : Pos} {x : Str} {rest : List (Str × Value)} {news : List (Addr × Obj)} (P : Int → Prop) (μ : Int → Nat) (R : Int → Prop) {k₀ : Int} {t₀ : Tok}
    (F : Fr h₀ L s.heap (mp ((x, .int k₀ t₀) :: rest))) (N : News h₀ L s.heap news) (hp : P k₀)
    (turn : ∀ k t h tk, P k → Fr h₀ L h (mp ((x, .int k t) :: rest)) → News h₀ L h news →
      wpAny (model prog w) A (isTrue test env (eval test env)) (fun b s₂ =>
        if b = true then wpAny (model prog w) A (execs body env) (WiPost h₀ L s x rest news P μ k) (fun _ _ => False) s₂ else WiDone h₀ L s x rest news R s₂) (fun _ _ => False) { s with heap := h, toks := tk })
    (done : ∀ k t h tk, R k → Fr h₀ L h (mp ((x, .int k t) :: rest)) → News h₀ L h news → Q .next { s with heap := h, toks := tk }) :
    wpAny (model prog w) A (exec (.While test body [] pos) env) Q (fun _ _ => False) s := by
  refine While_inv2 (fun n m nx => nx = news ∧ ∃ k t, m = mp ((x, .int k t) :: rest) ∧ P k ∧ μ k = n) F N ⟨rfl, k₀, t₀, rfl, hp, rfl⟩ ?_ PassesOwn.never
  rintro n m₁ nx h tk F₁ N₁ ⟨rfl, k, t, rfl, hk, rfl⟩
  refine wpAny_mono (turn k t h tk hk F₁ N₁) (fun b s₂ p => ?_) fun _ _ x => x
  cases b with
  | false =>
    simp only [Bool.false_eq_true, if_false] at p ⊢
    obtain ⟨k', t', h', tk', rfl, F', N', r⟩ := p
    exact done k' t' h' tk' r F' N'
  | true =>
    simp only [if_true] at p ⊢
    refine wpAny_mono p (fun f s₃ q => ?_) fun _ _ x => x
    obtain ⟨rfl, k', t', h', tk', rfl, F', N', hp', hm⟩ := q
    exact ⟨h', tk', _, _, μ k', rfl, F', N', hm, rfl, k', t', rfl, hp', rfl⟩
end

/- part SL -/
theorem item_S {l : List Nat} {k : Int} (h0 : 0 ≤ k) (h1 : k < l.length) : Txt.item (S l) k = ⟨#[l.getD k.toNat 0]⟩ := by
  unfold Txt.item Txt.charAt seqIndex?
  have e : (S l).length = l.length := S_len l
  have hlt : k.toNat < l.length := by omega
  have hn : ¬ k < 0 := by omega
  simp only [e, hn, if_false]
  have hc : (decide (0 ≤ k) && decide (k < (l.length : Int))) = true := by simp [h0, h1]
  simp [h0, h1, S, List.getD_eq_getElem?_getD]
theorem item_Sn {l : List Nat} {k : Int} (h0 : k < 0) (h1 : 0 ≤ k + l.length) : Txt.item (S l) k = ⟨#[l.getD (k + l.length).toNat 0]⟩ := by
  unfold Txt.item Txt.charAt seqIndex?
  have e : (S l).length = l.length := S_len l
  have h2 : k + l.length < (l.length : Int) := by omega
  simp only [e, h0, if_true]
  simp [h1, h2, S, List.getD_eq_getElem?_getD]
theorem slice_S {l : List Nat} {k : Int} (h0 : 0 ≤ k) (h1 : k ≤ l.length) : Txt.slice (S l) (some k) none = S (l.drop k.toNat) := by
  have e : (S l).length = l.length := S_len l
  rw [slice_from_eq (b := (l.length : Int)) h0 (by rw [e]; exact h1) (by rw [e])]
  show S ((l.drop k.toNat).take _) = _
  rw [List.take_of_length_le]
  rw [List.length_drop]; omega
theorem slice_Sa {l : List Nat} : Txt.slice (S l) none none = S l := by
  have : Txt.slice (S l) none none = Txt.slice (S l) (some 0) none := by
    unfold Txt.slice
    congr 1
  rw [this, slice_S (Int.le_refl 0) (Int.natCast_nonneg _)]
  simp
theorem slice_Su {l : List Nat} {k : Int} (h0 : k < 0) (h1 : 0 ≤ k + l.length) : Txt.slice (S l) none (some k) = S (l.take (k + l.length).toNat) := by
  have e : (S l).length = l.length := S_len l
  rw [slice_to_neg h0, e]
  have h2 := slice_closes_to (x := S l) (j := max 0 ((l.length : Int) + k)) ⟨by omega, by show _ ≤ ((S l).cps.toList.length : Int); simp [S]; omega⟩
  rw [beq_iff_eq.mp h2]
  have h3 : (max 0 ((l.length : Int) + k) - 0).toNat = (k + l.length).toNat := by omega
  rw [h3]
  simp [S]

/- part S1 -/
section
variable {prog : Program} {w : World} {A : Around} {E : Value → Shared → Prop} {s : Shared} {Q : Value → Shared → Prop}
theorem tail_S {value slice : Expr} {l : List Nat} {k : Int} {t u : Tok} (h0 : 0 ≤ k) (h1 : k < (S l).length) (h63 : k < 2 ^ 62) (h : Q (.str ⟨#[l.getD k.toNat 0]⟩ s.toks) { s with toks := s.toks + 1 })
    (hs : subscripted slice false (.str (S l) t) (.int k u) = operate [.str (S l) t, .int k u] (getItem (.str (S l) t) (.int k u)) := by with_unfolding_all rfl)
    (ht : ∀ r, letTemporaryGo value (.str (S l) t) r = pure () := by intro _; with_unfolding_all rfl) : wpAny (model prog w) A (subscriptTail value slice (.str (S l) t) (.int k u)) Q E s :=
  item_str (fitsSsize_of (N := 9223372036854775808) (by omega) (by omega) (Int.le_refl _)) (by omega) h1 (fun _ => by rw [item_S h0 (by rw [S_len] at h1; exact h1)]; exact h) hs ht
theorem tail_Sn {value slice : Expr} {l : List Nat} {k : Int} {t u : Tok} (h0 : k < 0) (h1 : 0 ≤ k + (S l).length) (h63 : -(2 ^ 62) < k) (h : Q (.str ⟨#[l.getD (k + l.length).toNat 0]⟩ s.toks) { s with toks := s.toks + 1 })
    (hs : subscripted slice false (.str (S l) t) (.int k u) = operate [.str (S l) t, .int k u] (getItem (.str (S l) t) (.int k u)) := by with_unfolding_all rfl)
    (ht : ∀ r, letTemporaryGo value (.str (S l) t) r = pure () := by intro _; with_unfolding_all rfl) : wpAny (model prog w) A (subscriptTail value slice (.str (S l) t) (.int k u)) Q E s :=
  item_str (fitsSsize_of (N := 9223372036854775808) (by omega) (by omega) (Int.le_refl _)) (by omega) (by omega) (fun _ => by rw [item_Sn h0 (by rw [S_len] at h1; exact h1)]; exact h) hs ht
end
def lcp : List Nat → List Nat → Nat
  | x :: xs, y :: ys => if x = y then lcp xs ys + 1 else 0
  | _, _ => 0
theorem mp_set (x : Str) (v v' : Value) (rest : List (Str × Value)) : ∀ y, (if y = x then some v else mp ((x, v') :: rest) y) = mp ((x, v) :: rest) y := by
  intro y
  unfold mp
  rw [List.lookup_cons, List.lookup_cons]
  by_cases h : y = x
  · rw [if_pos h, h, beq_self_eq_true]
  · rw [if_neg h, beq_false_of_ne h]
theorem lcp_a : ∀ as bs, lcp as bs ≤ as.length
  | [], _ => by simp [lcp]
  | _ :: _, [] => by simp [lcp]
  | x :: xs, y :: ys => by
    unfold lcp; split
    · have := lcp_a xs ys; simp; omega
    · omega
theorem lcp_b : ∀ as bs, lcp as bs ≤ bs.length
  | [], _ => by simp [lcp]
  | _ :: _, [] => by simp [lcp]
  | x :: xs, y :: ys => by
    unfold lcp; split
    · have := lcp_b xs ys; simp; omega
    · omega
theorem lcp_eq : ∀ as bs (i : Nat), i < lcp as bs → as.getD i 0 = bs.getD i 0
  | [], _, _, h => by simp [lcp] at h
  | _ :: _, [], _, h => by simp [lcp] at h
  | x :: xs, y :: ys, i, h => by
    unfold lcp at h; split at h
    · cases i with
      | zero => simpa
      | succ i => simpa using lcp_eq xs ys i (by omega)
    · omega
theorem lcp_ne : ∀ as bs (i : Nat), i = lcp as bs → i < as.length → i < bs.length → as.getD i 0 ≠ bs.getD i 0
  | [], _, _, _, h, _ => by simp at h
  | _ :: _, [], _, _, _, h => by simp at h
  | x :: xs, y :: ys, i, h, ha, hb => by
    unfold lcp at h; split at h
    · subst h
      simpa using lcp_ne xs ys _ rfl (by simpa using ha) (by simpa using hb)
    · subst h; simpa
def preP (as bs : List Nat) (k : Int) : Prop := 0 ≤ k ∧ k ≤ lcp as bs
def preMu (as : List Nat) (k : Int) : Nat := as.length - k.toNat
def preR (as bs : List Nat) (k : Int) : Prop := k = lcp as bs
theorem pre_go {as bs : List Nat} {k : Int} (h0 : 0 ≤ k) (hk : k ≤ lcp as bs) (ha : k < (S as).length) (hb : k < (S bs).length) (h : (({ cps := #[as.getD k.toNat 0] } : Str) == { cps := #[bs.getD k.toNat 0] }) = true) : preP as bs (k + 1) := by
  rw [beq_str_one, decide_eq_true_eq] at h
  rw [S_len] at ha hb
  refine ⟨by omega, ?_⟩
  by_cases e : k.toNat = lcp as bs
  · exact absurd h (lcp_ne as bs _ e (by omega) (by omega))
  · omega
theorem pre_stop {as bs : List Nat} {k : Int} (h0 : 0 ≤ k) (hk : k ≤ lcp as bs) (h : (({ cps := #[as.getD k.toNat 0] } : Str) == { cps := #[bs.getD k.toNat 0] }) = false) : preR as bs k := by
  rw [beq_str_one, decide_eq_false_iff_not] at h
  by_cases e : k.toNat < lcp as bs
  · exact absurd (lcp_eq as bs _ e) h
  · show k = _; omega
theorem pre_mu {as : List Nat} {k : Int} (h0 : 0 ≤ k) (ha : k < (S as).length) : preMu as (k + 1) < preMu as k := by
  rw [S_len] at ha
  unfold preMu; omega
theorem pre_full {as bs : List Nat} {k : Int} (h1 : k ≤ lcp as bs) (h : (lcp as bs : Int) ≤ k) : preR as bs k := by show k = _; omega

local macro_rules | `(tactic| walk_at "subscriptTail Name Name str int") => `(tactic| (k_here; (with_reducible show wpAny _ _ (subscriptTail _ _ (Value.str (S _) _) (Value.int _ _)) _ _ _); refine tail_S (by omega) (by omega) (by omega) ?_))
theorem seg1 {w : World} {mean : ExcName → Option Value} {mg mb : Str → Option Value} {news : List (Addr × Obj)} {as bs : List Nat} {mx : Int} (ha : (S as).length ≤ 40) (hb : (S bs).length ≤ 40) {ta tb tm tp : Tok}
    {dp un : Nat} {gd : Option (List Code)} {cn : Str} {cs : Scope} {a : Addr} {ccd : Value} {cl : List (Str × Addr)} {outer : List Env} {base g : Heap} {L Lc : Addr} {s : Shared} {Q : Flow → Shared → Prop}
    (B : Below (ktrTop dp un gd cn cs Lc a ccd cl outer) base (envX cn cs Lc a ccd cl :: outer) g) (F : Fr g L s.heap (mp [("pre", .int 0 tp), ("max_cost", .int mx tm), ("b", .str (S bs) tb), ("a", .str (S as) ta)]))
    (X : (hd.heap_39 w.params).In g) (N : News g L s.heap news) (T : Top hd.view_39 (looseW hd.view_39 []) mean mg mb g) (hdp : dp + 6 < recursionLimit) (hun : un + 48 < cLine)
    (done : ∀ k t h tk, preR as bs k → Fr g L h (mp [("pre", .int k t), ("max_cost", .int mx tm), ("b", .str (S bs) tb), ("a", .str (S as) ta)]) → News g L h news → Q .next { s with heap := h, toks := tk }) :
    wpAny (model pr w) ((ktrTop dp un gd cn cs Lc a ccd cl outer).deeper (envOf "_levenshtein_distance" levScope L 28 (.ref 27))) (exec (levBody.getD 2 (.Pass default)) (envOf "_levenshtein_distance" levScope L 28 (.ref 27))) Q (fun _ _ => False) s := by
  have hla : (lcp as bs : Int) ≤ (S as).length := by rw [S_len]; exact Int.ofNat_le.mpr (lcp_a as bs)
  have hlb : (lcp as bs : Int) ≤ (S bs).length := by rw [S_len]; exact Int.ofNat_le.mpr (lcp_b as bs)
  with_unfolding_all show wpAny _ (Around.deeper _ (envOf _ { kind := _, names := _, isGenerator := _, isCoroutine := _ } _ _ _)) (exec (Stmt.While _ _ [] _) (envOf _ { kind := _, names := _, isGenerator := _, isCoroutine := _ } _ _ _)) _ _ _
  refine while_int (preP as bs) (preMu as) (preR as bs) F N ⟨Int.le_refl 0, Int.natCast_nonneg _⟩ ?_ done
  clear F N done
  intro k t h tk hk F' N'
  obtain ⟨hk0, hk1⟩ := hk
  unfold pr; k_fill
  k_fold
  k_steps
  · exact WiPost.intro (by k_asm) (by k_asm) (mp_set _ _ _ _) (pre_go hk0 hk1 (by omega) (by omega) (by assumption)) (pre_mu hk0 (by omega))
  · exact ⟨k, t, _, _, rfl, by k_asm, by k_asm, pre_stop hk0 hk1 (by assumption)⟩
  · exact ⟨k, t, _, _, rfl, by k_asm, by k_asm, pre_full hk1 (by omega)⟩
  · exact ⟨k, t, _, _, rfl, by k_asm, by k_asm, pre_full hk1 (by omega)⟩

/- part S2 -/
def lcs (as bs : List Nat) : Nat := lcp as.reverse bs.reverse
theorem lcs_a (as bs) : lcs as bs ≤ as.length := by have := lcp_a as.reverse bs.reverse; simpa [lcs] using this
theorem lcs_b (as bs) : lcs as bs ≤ bs.length := by have := lcp_b as.reverse bs.reverse; simpa [lcs] using this
def posP (as bs : List Nat) (k : Int) : Prop := k ≤ 0 ∧ -k ≤ lcs as bs
def posMu (as : List Nat) (k : Int) : Nat := as.length - (-k).toNat
def posR (as bs : List Nat) (k : Int) : Prop := k = -(lcs as bs : Int)
section
variable {prog : Program} {w : World} {A : Around} {E : Value → Shared → Prop} {s : Shared} {value slice : Expr} {l : List Nat} {t : Tok} {h₀ : Heap} {L : Addr} {m : Str → Option Value} {news : List (Addr × Obj)} {Q : Value → Shared → Prop}
theorem cut_nn (hF : Fr h₀ L s.heap m) (hN : News h₀ L s.heap news) (h40 : (S l).length ≤ 40) (h : ∀ h' t' k, Fr h₀ L h' m → News h₀ L h' news → Q (.str (S l) t') { s with heap := h', toks := k })
    (hs : subscripted slice false (.str (S l) t) (.ref s.heap.objs.size) = operate [.ref s.heap.objs.size, .str (S l) t] (getItem (.str (S l) t) (.ref s.heap.objs.size)) := by with_unfolding_all rfl)
    (ht : ∀ r, letTemporaryGo value (.str (S l) t) r = pure () := by intro _; with_unfolding_all rfl) :
    wpAny (model prog w) A (subscriptTail value slice (.str (S l) t) (.ref s.heap.objs.size)) Q E { s with heap := s.heap.push { cls := .type "slice", data := .fields #[.none, .none, .none] } } :=
  slice_strN_nn hF hN (fun h' t' k F N => by rw [slice_Sa]; exact h h' t' k F N) hs ht (by rw [sizeLine_eq]; omega)
theorem cut_ns {j : Int} {uj : Tok} (hF : Fr h₀ L s.heap m) (hN : News h₀ L s.heap news) (h40 : (S l).length ≤ 40) (h0 : j < 0) (h1 : 0 ≤ j + (S l).length) (h : ∀ h' t' k, Fr h₀ L h' m → News h₀ L h' news → (((S (l.take (j + l.length).toNat)).length : Int) = j + (S l).length) → Q (.str (S (l.take (j + l.length).toNat)) t') { s with heap := h', toks := k })
    (hs : subscripted slice false (.str (S l) t) (.ref s.heap.objs.size) = operate [.ref s.heap.objs.size, .str (S l) t] (getItem (.str (S l) t) (.ref s.heap.objs.size)) := by with_unfolding_all rfl)
    (ht : ∀ r, letTemporaryGo value (.str (S l) t) r = pure () := by intro _; with_unfolding_all rfl) :
    wpAny (model prog w) A (subscriptTail value slice (.str (S l) t) (.ref s.heap.objs.size)) Q E { s with heap := s.heap.push { cls := .type "slice", data := .fields #[.none, .int j uj, .none] } } := by
  rw [S_len] at h1
  refine slice_strN_ns hF hN (fun h' t' k F N => ?_) hs ht (by rw [sizeLine_eq]; omega)
  rw [slice_Su h0 h1]
  refine h h' t' k F N ?_
  rw [S_len, S_len, List.length_take]; omega
end
theorem lcs_get (as bs : List Nat) (j : Nat) (ha : j < as.length) : as.reverse.getD j 0 = as.getD (as.length - 1 - j) 0 := by
  rw [List.getD_eq_getElem?_getD, List.getD_eq_getElem?_getD, List.getElem?_reverse ha]
theorem pos_ix {as : List Nat} {k : Int} (h0 : k ≤ 0) (ha : 0 < k + (S as).length) : as.getD (k - 1 + as.length).toNat 0 = as.reverse.getD (-k).toNat 0 := by
  rw [S_len] at ha
  rw [lcs_get as as _ (by omega)]
  congr 1; omega
theorem pos_go {as bs : List Nat} {k : Int} (h0 : k ≤ 0) (hk : -k ≤ lcs as bs) (ha : 0 < k + (S as).length) (hb : 0 < k + (S bs).length) (h : (({ cps := #[as.getD (k - 1 + as.length).toNat 0] } : Str) == { cps := #[bs.getD (k - 1 + bs.length).toNat 0] }) = true) : posP as bs (k - 1) := by
  rw [beq_str_one, decide_eq_true_eq, pos_ix h0 ha, pos_ix h0 hb] at h
  rw [S_len] at ha hb
  refine ⟨by omega, ?_⟩
  unfold lcs at hk ⊢
  by_cases e : (-k).toNat = lcp as.reverse bs.reverse
  · exact absurd h (lcp_ne _ _ _ e (by rw [List.length_reverse]; omega) (by rw [List.length_reverse]; omega))
  · omega
theorem pos_stop {as bs : List Nat} {k : Int} (h0 : k ≤ 0) (hk : -k ≤ lcs as bs) (ha : 0 < k + (S as).length) (hb : 0 < k + (S bs).length) (h : (({ cps := #[as.getD (k - 1 + as.length).toNat 0] } : Str) == { cps := #[bs.getD (k - 1 + bs.length).toNat 0] }) = false) : posR as bs k := by
  rw [beq_str_one, decide_eq_false_iff_not, pos_ix h0 ha, pos_ix h0 hb] at h
  show k = -((lcp as.reverse bs.reverse : Nat) : Int)
  unfold lcs at hk
  by_cases e : (-k).toNat < lcp as.reverse bs.reverse
  · exact absurd (lcp_eq _ _ _ e) h
  · omega
theorem pos_mu {as : List Nat} {k : Int} (h0 : k ≤ 0) (ha : 0 < k + (S as).length) : posMu as (k - 1) < posMu as k := by
  rw [S_len] at ha
  unfold posMu; omega
theorem pos_full {as bs : List Nat} {k : Int} (h1 : -k ≤ lcs as bs) (h : (lcs as bs : Int) ≤ -k) : posR as bs k := by show k = _; omega
local macro_rules | `(tactic| walk_at "subscriptTail Name Slice str ref") => `(tactic| (k_here; (with_reducible show wpAny _ _ (subscriptTail _ (Expr.Slice none _ none _) (Value.str (S _) _) _) _ _ _); (with_reducible rename Fr _ _ _ _ => F'); (with_reducible rename News _ _ _ _ => N'); first
  | (refine cut_nn (s := ⟨_, _, _, _, _⟩) F' N' (by omega) ?_; intro _ _ _ _ _)
  | (refine cut_ns (s := ⟨_, _, _, _, _⟩) F' N' (by omega) (by omega) (by omega) ?_; intro _ _ _ _ _ _)))
local macro_rules | `(tactic| walk_at "subscriptTail Name BinOp str int") => `(tactic| (k_here; (with_reducible show wpAny _ _ (subscriptTail _ _ (Value.str (S _) _) (Value.int _ _)) _ _ _); refine tail_Sn (by omega) (by omega) (by omega) ?_))
theorem seg2 {w : World} {mean : ExcName → Option Value} {mg mb : Str → Option Value} {news : List (Addr × Obj)} {as bs : List Nat} {mx kp : Int} (ha : (S as).length ≤ 40) (hb : (S bs).length ≤ 40) {ta tb tm tp tq : Tok}
    {dp un : Nat} {gd : Option (List Code)} {cn : Str} {cs : Scope} {a : Addr} {ccd : Value} {cl : List (Str × Addr)} {outer : List Env} {base g : Heap} {L Lc : Addr} {s : Shared} {Q : Flow → Shared → Prop}
    (B : Below (ktrTop dp un gd cn cs Lc a ccd cl outer) base (envX cn cs Lc a ccd cl :: outer) g) (F : Fr g L s.heap (mp [("post", .int 0 tp), ("pre", .int kp tq), ("max_cost", .int mx tm), ("b", .str (S bs) tb), ("a", .str (S as) ta)]))
    (X : (hd.heap_39 w.params).In g) (N : News g L s.heap news) (T : Top hd.view_39 (looseW hd.view_39 []) mean mg mb g) (hdp : dp + 6 < recursionLimit) (hun : un + 48 < cLine)
    (done : ∀ k t h tk, posR as bs k → Fr g L h (mp [("post", .int k t), ("pre", .int kp tq), ("max_cost", .int mx tm), ("b", .str (S bs) tb), ("a", .str (S as) ta)]) → News g L h news → Q .next { s with heap := h, toks := tk }) :
    wpAny (model pr w) ((ktrTop dp un gd cn cs Lc a ccd cl outer).deeper (envOf "_levenshtein_distance" levScope L 28 (.ref 27))) (exec (levBody.getD 6 (.Pass default)) (envOf "_levenshtein_distance" levScope L 28 (.ref 27))) Q (fun _ _ => False) s := by
  have hla : (lcs as bs : Int) ≤ (S as).length := by rw [S_len]; exact Int.ofNat_le.mpr (lcs_a as bs)
  have hlb : (lcs as bs : Int) ≤ (S bs).length := by rw [S_len]; exact Int.ofNat_le.mpr (lcs_b as bs)
  with_unfolding_all show wpAny _ (Around.deeper _ (envOf _ { kind := _, names := _, isGenerator := _, isCoroutine := _ } _ _ _)) (exec (Stmt.While _ _ [] _) (envOf _ { kind := _, names := _, isGenerator := _, isCoroutine := _ } _ _ _)) _ _ _
  refine while_int (posP as bs) (posMu as) (posR as bs) F N ⟨Int.le_refl 0, by omega⟩ ?_ done
  clear F N done
  intro k t h tk hk F' N'
  obtain ⟨hk0, hk1⟩ := hk
  unfold pr; k_fill
  k_fold
  k_steps
  all_goals first
    | (exfalso; omega)
    | exact WiPost.intro (by k_asm) (by k_asm) (mp_set _ _ _ _) (pos_go hk0 hk1 (by omega) (by omega) (by assumption)) (pos_mu hk0 (by omega))
    | exact ⟨k, t, _, _, rfl, by k_asm, by k_asm, pos_stop hk0 hk1 (by omega) (by omega) (by assumption)⟩
    | exact ⟨k, t, _, _, rfl, by k_asm, by k_asm, pos_full hk1 (by omega)⟩

/- part S3 -/
def row0 (n : Nat) : List Int := (List.range n).map fun (i : Nat) => 2 + (i : Int) * 2
theorem row0_length (n : Nat) : (row0 n).length = n := by simp [row0]
theorem ints_step : ∀ (vs : List Value) (a c : Int), (∀ (j : Nat) (v : Value), vs[j]? = some v → ∃ t, v = .int (a + j * c) t) → IntsAre vs ((List.range vs.length).map fun (i : Nat) => a + (i : Int) * c)
  | [], a, c, _ => IntsAre.nil
  | v :: r, a, c, h => by
    rw [List.length_cons, List.range_succ_eq_map, List.map_cons, List.map_map]
    obtain ⟨t, ht⟩ := h 0 v rfl
    have hv : v = .int (a + ((0 : Nat) : Int) * c) t := ht
    rw [hv]
    refine IntsAre.cons _ _ ?_
    have := ints_step r (a + c) c fun j v hj => by
      obtain ⟨t', ht'⟩ := h (j + 1) v hj
      refine ⟨t', ht'.trans ?_⟩
      congr 1
      have e : (((j + 1 : Nat) : Int)) = (j : Int) + 1 := by omega
      rw [e, Int.add_mul]; omega
    have e : (List.range r.length).map (fun (i : Nat) => a + c + (i : Int) * c) = (List.range r.length).map ((fun (i : Nat) => a + (i : Int) * c) ∘ Nat.succ) := by
      apply List.map_congr_left
      intro i _
      simp only [Function.comp]
      have e : (((Nat.succ i : Nat) : Int)) = (i : Int) + 1 := by omega
      rw [e, Int.add_mul]; omega
    rw [e] at this
    exact this
section
variable {prog : Program} {w : World} {A : Around} {E : Value → Shared → Prop} {s : Shared} {h₀ : Heap} {L r : Addr} {m : Str → Option Value} {news : List (Addr × Obj)} {t₀ u₀ v₀ : Tok} {n : Nat} {k : Int} {Q : Value → Shared → Prop}
theorem row_list (hh : A.handled = none) (F : Fr h₀ L s.heap m) (N : News h₀ L s.heap news) (hr : IsRange s.heap r 2 k 2 t₀ u₀ v₀) (hk : k = 2 * ((n : Int) + 1)) (hn : n ≤ 40)
    (h : ∀ D us c h' tk, Fr h₀ L h' m → News h₀ L h' ((D, listOf (List.toArray us) c) :: news) → (∀ p ∈ news, p.1 < D) → IntsAre us (row0 n) → Q (.ref D) { s with heap := h', toks := tk }) :
    wpAny (model prog w) A (call (.type "list") [.ref r]) Q E s := by
  have hs : Builtin.Range.rangeSize 2 k 2 = (n : Int) := by
    subst hk
    unfold Builtin.Range.rangeSize
    rw [if_pos (by decide)]
    split <;> omega
  have hsm : Builtin.Range.small 2 k 2 = true := by
    unfold Builtin.Range.small
    rw [hs]
    subst hk
    simp [Builtin.Range.rangeFitsLong]
    omega
  refine call_list_range hh hr hsm hs (by omega) fun h' tk acc c hk hD hI => ?_
  have hD' : h'.get? s.heap.objs.size = some (listOf (List.toArray acc.toList) c) := by
    rw [Array.toArray_toList]
    exact hD
  refine h _ acc.toList c h' tk (F.keeps hk) (news_pushed F N hk hD' rfl) (fun p hp => Heap.lt_size (N p hp).1) ?_
  have := ints_step acc.toList 2 2 fun j v hj => hI.2 j v (by rw [← hj, Array.getElem?_toList])
  rw [Array.length_toList, hI.1] at this
  exact this
end
local macro_rules | `(tactic| walk_at "call type:list") => `(tactic| (k_here; (with_reducible show wpAny _ _ (call (Value.type _) [Value.ref _]) _ _ _); (rename IsRange _ _ _ _ _ _ _ _ => rgX); (with_unfolding_all refine' row_list ?k0 ?k1 ?k2 ?k3 ?k4 ?k5 ?_; (case k0 => rfl); (case k1 => k_asm); (case k2 => k_asm); (case k3 => exact rgX); (case k4 => rfl); (case k5 => assumption); k_whole); intro D' vs' c' h' tk' F' N' l1 hI'; (try k_lt l1); (try k_sweep)))
abbrev In4 := Int × Int × Int × List Int
def inStep (as : List Nat) (c : Nat) (st : In4) (i : Int) : In4 :=
  let d := st.2.2.2.getD i.toNat 0
  let a := (if d < st.2.1 then d else st.2.1) + 2
  let b := st.1 + subN c (as.getD i.toNat 0)
  let res := if b < a then b else a
  (d, res, if res < st.2.2.1 then res else st.2.2.1, st.2.2.2.set i.toNat res)
def inner (as : List Nat) (c : Nat) (k : Int) (row : List Int) (is : List Int) : In4 := is.foldl (inStep as c) (k * 2, k * 2, 9223372036854775807, row)
def outStep (as bs : List Nat) (st : List Int × Int) (k : Int) : List Int × Int :=
  let r := inner as (bs.getD k.toNat 0) k st.1 (rangeKs 0 as.length)
  (r.2.2.2, r.2.1)
def outer (as bs : List Nat) (ks : List Int) : List Int × Int := ks.foldl (outStep as bs) (row0 as.length, 0)
def inW (bc a : Str) (bi : Int) (row : List Int) (pre : List Int) (d r m : Int) (rw : List Int) : Prop :=
  (d, r, m, rw) = inner a.cps.toList (bc.cps.toList.getD 0 0) bi row pre ∧ rw.length = a.length ∧ row.length = a.length
def outW (a b : Str) (pre : List Int) (rw : List Int) (r : Int) : Prop :=
  (rw, r) = outer a.cps.toList b.cps.toList pre ∧ rw.length = a.length ∧ pre = rangeKs 0 pre.length
def minAt (as bs : List Nat) (k : Nat) : Int := (inner as (bs.getD k 0) k (outer as bs (rangeKs 0 k)).1 (rangeKs 0 as.length)).2.2.1
def levRel (as bs : List Nat) (mx r : Int) : Prop := r = (outer as bs (rangeKs 0 bs.length)).2 ∨ ∃ k : Nat, k < bs.length ∧ mx < minAt as bs k
theorem S_codes (as : List Nat) : (S as).cps.toList = as := rfl
theorem inW_0 {bc a b : Str} {bi r : Int} {rw pre : List Int} (h : outW a b pre rw r) : inW bc a bi rw [] (bi * 2) (bi * 2) 9223372036854775807 rw := ⟨rfl, h.2.1, h.2.1⟩
theorem inW_1 {c : Nat} {as : List Nat} {bi : Int} {row pre : List Int} {d r m k : Int} {rw : List Int} (h : inW ⟨#[c]⟩ (S as) bi row pre d r m rw)
    (hlt : (if d + subN c (as.getD k.toNat 0) < (if rw.getD k.toNat 0 < r then rw.getD k.toNat 0 else r) + 2 then d + subN c (as.getD k.toNat 0) else (if rw.getD k.toNat 0 < r then rw.getD k.toNat 0 else r) + 2) < m) :
    inW ⟨#[c]⟩ (S as) bi row (pre ++ [k]) (rw.getD k.toNat 0)
      (if d + subN c (as.getD k.toNat 0) < (if rw.getD k.toNat 0 < r then rw.getD k.toNat 0 else r) + 2 then d + subN c (as.getD k.toNat 0) else (if rw.getD k.toNat 0 < r then rw.getD k.toNat 0 else r) + 2)
      (if d + subN c (as.getD k.toNat 0) < (if rw.getD k.toNat 0 < r then rw.getD k.toNat 0 else r) + 2 then d + subN c (as.getD k.toNat 0) else (if rw.getD k.toNat 0 < r then rw.getD k.toNat 0 else r) + 2)
      (rw.set k.toNat (if d + subN c (as.getD k.toNat 0) < (if rw.getD k.toNat 0 < r then rw.getD k.toNat 0 else r) + 2 then d + subN c (as.getD k.toNat 0) else (if rw.getD k.toNat 0 < r then rw.getD k.toNat 0 else r) + 2)) := by
  obtain ⟨h1, h2, h3⟩ := h
  refine ⟨?_, by rw [List.length_set]; exact h2, h3⟩
  have e : inner (S as).cps.toList ((⟨#[c]⟩ : Str).cps.toList.getD 0 0) bi row (pre ++ [k]) = inStep as c (inner (S as).cps.toList ((⟨#[c]⟩ : Str).cps.toList.getD 0 0) bi row pre) k := by
    unfold inner
    rw [List.foldl_append]
    rfl
  rw [e, ← h1]
  unfold inStep
  simp only [hlt, if_true]
theorem inW_2 {c : Nat} {as : List Nat} {bi : Int} {row pre : List Int} {d r m k : Int} {rw : List Int} (h : inW ⟨#[c]⟩ (S as) bi row pre d r m rw)
    (hlt : ¬ (if d + subN c (as.getD k.toNat 0) < (if rw.getD k.toNat 0 < r then rw.getD k.toNat 0 else r) + 2 then d + subN c (as.getD k.toNat 0) else (if rw.getD k.toNat 0 < r then rw.getD k.toNat 0 else r) + 2) < m) :
    inW ⟨#[c]⟩ (S as) bi row (pre ++ [k]) (rw.getD k.toNat 0)
      (if d + subN c (as.getD k.toNat 0) < (if rw.getD k.toNat 0 < r then rw.getD k.toNat 0 else r) + 2 then d + subN c (as.getD k.toNat 0) else (if rw.getD k.toNat 0 < r then rw.getD k.toNat 0 else r) + 2)
      m
      (rw.set k.toNat (if d + subN c (as.getD k.toNat 0) < (if rw.getD k.toNat 0 < r then rw.getD k.toNat 0 else r) + 2 then d + subN c (as.getD k.toNat 0) else (if rw.getD k.toNat 0 < r then rw.getD k.toNat 0 else r) + 2)) := by
  obtain ⟨h1, h2, h3⟩ := h
  refine ⟨?_, by rw [List.length_set]; exact h2, h3⟩
  have e : inner (S as).cps.toList ((⟨#[c]⟩ : Str).cps.toList.getD 0 0) bi row (pre ++ [k]) = inStep as c (inner (S as).cps.toList ((⟨#[c]⟩ : Str).cps.toList.getD 0 0) bi row pre) k := by
    unfold inner
    rw [List.foldl_append]
    rfl
  rw [e, ← h1]
  unfold inStep
  simp only [hlt, if_false]
theorem outW_0 {as bs : List Nat} : outW (S as) (S bs) [] (row0 (S as).length) 0 := by
  refine ⟨?_, row0_length _, rfl⟩
  rw [S_len]
  rfl
theorem range_snoc (n : Nat) : rangeKs 0 (n + 1) = rangeKs 0 n ++ [0 + (n : Int)] := by
  unfold rangeKs
  rw [List.range_succ, List.map_append]
  rfl
theorem range_len (as : List Nat) : (((S as).length : Int) - 0).toNat = as.length := by rw [S_len]; omega
theorem outW_1 {as bs : List Nat} {pre : List Int} {rw rw' : List Int} {r d' r' m' k : Int} (h : outW (S as) (S bs) pre rw r) (hk : k = 0 + (pre.length : Int))
    (hi : inW ⟨#[bs.getD k.toNat 0]⟩ (S as) k rw (rangeKs 0 (((S as).length : Int) - 0).toNat) d' r' m' rw') : outW (S as) (S bs) (pre ++ [k]) rw' r' := by
  obtain ⟨h1, h2, h3⟩ := h
  obtain ⟨i1, i2, i3⟩ := hi
  rw [range_len] at i1
  refine ⟨?_, i2, ?_⟩
  · unfold outer at h1 ⊢
    rw [List.foldl_append, ← h1]
    show (rw', r') = outStep as bs (rw, r) k
    unfold outStep
    have i1 : (d', r', m', rw') = inner as (bs.getD k.toNat 0) k rw (rangeKs 0 as.length) := i1
    rw [← i1]
  · rw [List.length_append, List.length_singleton, range_snoc, hk, ← h3]
theorem lev_stop {as bs : List Nat} {pre : List Int} {rw rw' : List Int} {mx r d' r' m' k : Int} (h : outW (S as) (S bs) pre rw r) (hk : k = 0 + (pre.length : Int)) (hl : pre.length < (((S bs).length : Int) - 0).toNat)
    (hi : inW ⟨#[bs.getD k.toNat 0]⟩ (S as) k rw (rangeKs 0 (((S as).length : Int) - 0).toNat) d' r' m' rw') (hm : mx < m') : levRel as bs mx (mx + 1) := by
  obtain ⟨h1, h2, h3⟩ := h
  obtain ⟨i1, i2, i3⟩ := hi
  rw [range_len] at i1 hl
  refine .inr ⟨pre.length, hl, ?_⟩
  have hkn : k.toNat = pre.length := by omega
  have i1 : (d', r', m', rw') = inner as (bs.getD k.toNat 0) k rw (rangeKs 0 as.length) := i1
  have e : minAt as bs pre.length = m' := by
    unfold minAt
    have h1 : (rw, r) = outer as bs pre := h1
    rw [← h3, ← h1]
    rw [hkn] at i1
    have hk' : k = (pre.length : Int) := by omega
    rw [hk'] at i1
    show (inner as _ _ rw _).2.2.1 = m'
    rw [← i1]
  rw [e]; exact hm
theorem lev_end {as bs : List Nat} {rw : List Int} {mx r : Int} (h : outW (S as) (S bs) (rangeKs 0 (((S bs).length : Int) - 0).toNat) rw r) : levRel as bs mx r := by
  obtain ⟨h1, h2, h3⟩ := h
  rw [range_len] at h1
  have h1 : (rw, r) = outer as bs (rangeKs 0 bs.length) := h1
  exact .inl (congrArg Prod.snd h1)
local macro_rules | `(tactic| walk_at "subscriptTail Name Name str int") => `(tactic| (k_here; (with_reducible show wpAny _ _ (subscriptTail _ _ (Value.str (S _) _) (Value.int _ _)) _ _ _); refine tail_S (by omega) (by omega) (by omega) ?_))
theorem inW_len {bc a : Str} {bi : Int} {row pre : List Int} {d r m : Int} {rw : List Int} (h : inW bc a bi row pre d r m rw) : rw.length = a.length := h.2.1
local macro_rules | `(tactic| walk_at "subscriptTail Name Name ref int") => `(tactic| (k_here; (with_reducible show wpAny _ _ (subscriptTail _ _ (Value.ref _) (Value.int _ _)) _ _ _); (with_reducible rename inW _ _ _ _ _ _ _ _ _ => hIW); (have hlW := inW_len hIW); k_dflt (refine' ksa_sub ?k1 ?k2 ?k3 ?k4 ?k5 ?k6 ?_ ?k7; (case k1 => k_asm); (case k2 => k_mem); (case k3 => with_reducible assumption); (case k4 => omega); (case k5 => omega); (case k6 => omega); (case k7 => with_unfolding_all rfl); k_whole); intro _))
local macro_rules | `(tactic| walk_at "setItem ref int") => `(tactic| (k_here; (with_reducible show wpAny _ _ (setItem (Value.ref _) (Value.int _ _) (Value.int _ _)) _ _ _); k_dflt (refine' ksa_set ?k1 ?k2 ?k3 ?k4 ?k5 ?k6 ?k7 ?_; (case k1 => k_asm); (case k2 => k_asm); (case k3 => k_upd); (case k4 => with_reducible assumption); (case k5 => omega); (case k6 => omega); (case k7 => omega); k_whole); intro h' F' N' hi' hl' hs'))
local macro_rules | `(tactic| walk_at "call ref") => `(tactic| (k_here; (with_reducible show wpAny _ _ (call (Value.ref 21) _) _ _ _); (k_dflt refine' TellsD.use (sub_tells _ _ _ _ _ _ _ _ _) ?k1 ?k2 ?k3 ?k4 ?k5 ?k6 ?kd ?ku ?_); (case k1 => k_asm); (case k2 => k_asm); (case k3 => k_asm); (case k4 => k_asm); (case k5 => k_asm); (case k6 => first | exact rfl | assumption); (case kd => ktr_room); (case ku => ktr_units); intro t9 h9 tk9 F9 N9; (try dsimp only); (try k_fold)))
theorem seg3 {w : World} {mean : ExcName → Option Value} {mg mb : Str → Option Value} {news : List (Addr × Obj)} {as bs : List Nat} {mx kp kq : Int} (ha : (S as).length ≤ 40) (hb : (S bs).length ≤ 40) (h0 : 0 ≤ mx) (hm : mx ≤ 1000) {ta tb tm tp tq : Tok}
    {dp un : Nat} {gd : Option (List Code)} {cn : Str} {cs : Scope} {a : Addr} {ccd : Value} {cl : List (Str × Addr)} {outer : List Env} {base g : Heap} {L Lc : Addr} {s : Shared} {Q : Flow → Shared → Prop}
    (B : Below (ktrTop dp un gd cn cs Lc a ccd cl outer) base (envX cn cs Lc a ccd cl :: outer) g) (F : Fr g L s.heap (mp [("post", .int kq tp), ("pre", .int kp tq), ("max_cost", .int mx tm), ("b", .str (S bs) tb), ("a", .str (S as) ta)]))
    (X : (hd.heap_39 w.params).In g) (N : News g L s.heap news) (T : Top hd.view_39 (looseW hd.view_39 []) mean mg mb g) (hdp : dp + 6 < recursionLimit) (hun : un + 48 < cLine)
    (done : ∀ r t h tk m', levRel as bs mx r → Fr g L h m' → News g L h news → Q (.ret (.int r t)) { s with heap := h, toks := tk }) :
    wpAny (model pr w) ((ktrTop dp un gd cn cs Lc a ccd cl outer).deeper (envOf "_levenshtein_distance" levScope L 28 (.ref 27))) (execs (levBody.drop 13) (envOf "_levenshtein_distance" levScope L 28 (.ref 27))) Q (fun _ _ => False) s := by
  with_unfolding_all show wpAny _ (Around.deeper _ (envOf _ { kind := _, names := _, isGenerator := _, isCoroutine := _ } _ _ _)) (execs [Stmt.Assign _ _ _, Stmt.Assign _ _ _, Stmt.For _ _ _ _ _, Stmt.Return _ _] (envOf _ { kind := _, names := _, isGenerator := _, isCoroutine := _ } _ _ _)) _ _ _
  k_with_none
  k_with "pyIter ref" => (k_of "index" => k_state_given ["bchar", "a", "bindex", "row!"] inW "distance" "result" "minimum" "row")
  k_with "pyIter ref" => (k_of "bindex" => k_state_given ["a", "b"] outW "row" "result")
  k_with "state" => exact inW_0 (by assumption)
  k_with "state" => exact inW_1 (by assumption) (by assumption)
  k_with "state" => exact inW_2 (by assumption) (by assumption)
  k_with "state" => exact outW_0
  k_with "state" => exact outW_1 (by assumption) (by assumption) (by assumption)
  unfold pr; revert X; k_fill; intro X
  k_steps
  · exact done _ _ _ _ _ (lev_stop (by assumption) (by assumption) (by assumption) (by assumption) (by assumption)) (by assumption) (cb_drop (by assumption) fun p hp => List.mem_cons_of_mem _ (List.mem_append_left _ hp))
  · exact done _ _ _ _ _ (lev_end (by assumption)) (by assumption) (cb_drop (by assumption) fun p hp => List.mem_cons_of_mem _ hp)

/- part S9 -/
/-- the walk stops here -/
def Stop (P : Prop) : Prop := P
theorem Stop.mk {P : Prop} (h : Stop P) : P := h
theorem Stop.out {P : Prop} (h : P) : Stop P := h
theorem mp_none {l : List (Str × Value)} {y : Str} (h : y ∉ l.map (·.1)) : mp l y = none := by
  unfold mp
  induction l with
  | nil => rfl
  | cons p r ih =>
    rw [List.map_cons, List.mem_cons, not_or] at h
    rw [List.lookup_cons, beq_false_of_ne h.1]
    exact ih h.2
theorem mp_same {l l' : List (Str × Value)} (h : ∀ x ∈ l.map (·.1) ++ l'.map (·.1), mp l x = mp l' x) : ∀ y, mp l y = mp l' y := by
  intro y
  by_cases hy : y ∈ l.map (·.1) ++ l'.map (·.1)
  · exact h y hy
  · rw [List.mem_append, not_or] at hy
    rw [mp_none hy.1, mp_none hy.2]
section
variable {g h : Heap} {L : Addr} {x y z : Str} {u v w : Value} {l : List (Str × Value)}
theorem fr1 (F : Fr g L h (fun q => if q = x then some u else mp l q)) : Fr g L h (mp ((x, u) :: l)) := by rw [← mp_cons]; exact F
theorem fr2 (F : Fr g L h (fun q => if q = x then some u else if q = y then some v else mp l q)) : Fr g L h (mp ((x, u) :: (y, v) :: l)) := by
  rw [← mp_cons]
  refine fr_eqm F fun q => ?_
  rw [← mp_cons]
theorem fr3 (F : Fr g L h (fun q => if q = x then some u else if q = y then some v else if q = z then some w else mp l q)) : Fr g L h (mp ((x, u) :: (y, v) :: (z, w) :: l)) := by
  rw [← mp_cons]
  refine fr_eqm F fun q => ?_
  rw [← mp_cons, ← mp_cons]
end
def rel9 (a b : List Nat) (mx r : Int) : Prop := ((a = [] ∨ b = []) ∧ r = 2 * ((a.length : Int) + b.length)) ∨
  (a ≠ [] ∧ b ≠ [] ∧ ∃ x y : List Nat, ((x = a ∧ y = b ∧ a.length ≤ b.length) ∨ (x = b ∧ y = a ∧ b.length < a.length)) ∧ ((mx < ((y.length : Int) - x.length) * 2 ∧ r = mx + 1) ∨ levRel x y mx r))
theorem ne_nil_of {l : List Nat} (h : ((S l).length : Int) ≠ 0) : l ≠ [] := by
  intro e; subst e; exact h rfl
theorem nil_of {l : List Nat} (h : ((S l).length : Int) = 0) : l = [] := by
  rw [S_len] at h
  exact List.eq_nil_of_length_eq_zero (by omega)
theorem r9_0 {a b : List Nat} {mx : Int} (h : a = [] ∨ b = []) : rel9 a b mx (2 * (((S a).length : Int) + (S b).length)) := by
  rw [S_len, S_len]; exact .inl ⟨h, rfl⟩
theorem r9_far {a b : List Nat} {mx : Int} (h1 : ((S a).length : Int) ≠ 0) (h2 : ((S b).length : Int) ≠ 0) (hl : ¬ ((S b).length : Int) < (S a).length) (h : mx < (((S b).length : Int) - (S a).length) * 2) : rel9 a b mx (mx + 1) := by
  refine .inr ⟨ne_nil_of h1, ne_nil_of h2, a, b, .inl ⟨rfl, rfl, ?_⟩, .inl ⟨?_, rfl⟩⟩
  · rw [S_len, S_len] at hl; omega
  · rw [S_len, S_len] at h; exact h
theorem r9_farS {a b : List Nat} {mx : Int} (h1 : ((S a).length : Int) ≠ 0) (h2 : ((S b).length : Int) ≠ 0) (hl : ((S b).length : Int) < (S a).length) (h : mx < (((S a).length : Int) - (S b).length) * 2) : rel9 a b mx (mx + 1) := by
  refine .inr ⟨ne_nil_of h1, ne_nil_of h2, b, a, .inr ⟨rfl, rfl, ?_⟩, .inl ⟨?_, rfl⟩⟩
  · rw [S_len, S_len] at hl; omega
  · rw [S_len, S_len] at h; exact h
theorem r9_in {a b : List Nat} {mx r : Int} (h1 : ((S a).length : Int) ≠ 0) (h2 : ((S b).length : Int) ≠ 0) (hl : ¬ ((S b).length : Int) < (S a).length) (h : levRel a b mx r) : rel9 a b mx r := by
  refine .inr ⟨ne_nil_of h1, ne_nil_of h2, a, b, .inl ⟨rfl, rfl, ?_⟩, .inr h⟩
  rw [S_len, S_len] at hl; omega
theorem r9_inS {a b : List Nat} {mx r : Int} (h1 : ((S a).length : Int) ≠ 0) (h2 : ((S b).length : Int) ≠ 0) (hl : ((S b).length : Int) < (S a).length) (h : levRel b a mx r) : rel9 a b mx r := by
  refine .inr ⟨ne_nil_of h1, ne_nil_of h2, b, a, .inr ⟨rfl, rfl, ?_⟩, .inr h⟩
  rw [S_len, S_len] at hl; omega
local macro_rules | `(tactic| walk_at "execs cons") => `(tactic| (k_here; (with_reducible show wpAny _ _ (execs (Stmt.Assign [Expr.Name (Str.ofString "row") _] _ _ :: _) _) _ _ _); refine Stop.mk ?_))
theorem seg9 {w : World} {mean : ExcName → Option Value} {mg mb : Str → Option Value} {news : List (Addr × Obj)} {as bs : List Nat} {mx kp kq : Int} (ha : (S as).length ≤ 40) (hb : (S bs).length ≤ 40) (h0 : 0 ≤ mx) (hm : mx ≤ 1000) {ta tb tm tp tq : Tok}
    {dp un : Nat} {gd : Option (List Code)} {cn : Str} {cs : Scope} {a : Addr} {ccd : Value} {cl : List (Str × Addr)} {outer : List Env} {base g : Heap} {L Lc : Addr} {s : Shared} {Q : Flow → Shared → Prop}
    (B : Below (ktrTop dp un gd cn cs Lc a ccd cl outer) base (envX cn cs Lc a ccd cl :: outer) g) (F : Fr g L s.heap (mp [("post", .int kq tp), ("pre", .int kp tq), ("max_cost", .int mx tm), ("b", .str (S bs) tb), ("a", .str (S as) ta)]))
    (X : (hd.heap_39 w.params).In g) (N : News g L s.heap news) (T : Top hd.view_39 (looseW hd.view_39 []) mean mg mb g) (hdp : dp + 6 < recursionLimit) (hun : un + 48 < cLine)
    (done : ∀ r t h tk m', rel9 as bs mx r → Fr g L h m' → News g L h news → Q (.ret (.int r t)) { s with heap := h, toks := tk }) :
    wpAny (model pr w) ((ktrTop dp un gd cn cs Lc a ccd cl outer).deeper (envOf "_levenshtein_distance" levScope L 28 (.ref 27))) (execs (levBody.drop 9) (envOf "_levenshtein_distance" levScope L 28 (.ref 27))) Q (fun _ _ => False) s := by
  with_unfolding_all show wpAny _ (Around.deeper _ (envOf _ { kind := _, names := _, isGenerator := _, isCoroutine := _ } _ _ _)) (execs [Stmt.If _ _ _ _, Stmt.If _ _ _ _, Stmt.If _ _ _ _, Stmt.If _ _ _ _, Stmt.Assign _ _ _, Stmt.Assign _ _ _, Stmt.For _ _ _ _ _, Stmt.Return _ _] (envOf _ { kind := _, names := _, isGenerator := _, isCoroutine := _ } _ _ _)) _ _ _
  k_with_none
  unfold pr; revert X; k_fill; intro X
  k_steps
  · dsimp only
    exact done _ _ _ _ _ (r9_farS (by assumption) (by assumption) (by assumption) (by assumption)) (by assumption) (cb_drop (by assumption) fun p hp => List.mem_cons_of_mem _ hp)
  · refine Stop.out (seg3 (ta := tb) (tb := ta) (tm := tm) (tp := tp) (tq := tq) (kp := kp) (kq := kq) hb ha h0 hm B ?_ X (cb_drop (by assumption) fun p hp => List.mem_cons_of_mem _ hp) T hdp hun fun r t h tk m' hr F N => ?_)
    · rename Fr _ _ _ _ => F'
      refine fr_eqm (fr2 F') (mp_same ?_)
      repeat' (first | exact List.forall_mem_nil _ | refine List.forall_mem_cons.mpr ⟨by with_unfolding_all rfl, ?_⟩)
    · exact done _ _ _ _ _ (r9_inS (by assumption) (by assumption) (by assumption) hr) F N
  · dsimp only
    exact done _ _ _ _ _ (r9_far (by assumption) (by assumption) (by assumption) (by assumption)) (by assumption) (by assumption)
  · exact Stop.out (seg3 ha hb h0 hm B (by assumption) X (by assumption) T hdp hun fun r t h tk m' hr F N => done _ _ _ _ _ (r9_in (by assumption) (by assumption) (by assumption) hr) F N)
  · exact done _ _ _ _ _ (r9_0 (.inr (nil_of (by assumption)))) (by assumption) (by assumption)
  · exact done _ _ _ _ _ (r9_0 (.inl (nil_of (by assumption)))) (by assumption) (by assumption)

/- part S0 -/
def TellsR (k : Nat) (w : World) (mean : ExcName → Option Value) (mg mb : Str → Option Value) (f : Addr) (news : List (Addr × Obj)) (vs : List Value) (R : Int → Prop) : Prop :=
  ∀ (dp un : Nat) (gd : Option (List Code)) (cn : Str) (cs : Scope) (a : Addr) (ccd : Value) (cl : List (Str × Addr)) (outer : List Env) (A₀ : Around) (base h₀ : Heap) (L : Addr) (m : Str → Option Value) (s : Shared) (Q E : Value → Shared → Prop),
    Below A₀ base outer h₀ → Fr h₀ L s.heap m → (hd.heap_39 w.params).In h₀ → News h₀ L s.heap news → Top hd.view_39 (looseW hd.view_39 []) mean mg mb h₀ → cs.kind = .function →
    dp + k < recursionLimit → un + 8 * k < cLine → (∀ (r : Int) (t : Tok) (h' : Heap) (tk' : Nat), R r → Fr h₀ L h' m → News h₀ L h' news → Q (.int r t) { s with heap := h', toks := tk' }) →
      wpAny (model pr w) (ktrTop dp un gd cn cs L a ccd cl outer) (call (.ref f) vs) Q E s
def core (as bs : List Nat) : List Nat × List Nat :=
  let a1 := as.drop (lcp as bs)
  let b1 := bs.drop (lcp as bs)
  (a1.take (a1.length - lcs a1 b1), b1.take (b1.length - lcs a1 b1))
def lev (as bs : List Nat) (mx r : Int) : Prop := (as = bs ∧ r = 0) ∨ (as ≠ bs ∧ rel9 (core as bs).1 (core as bs).2 mx r)
theorem lev_of {as bs : List Nat} {q : Nat} {mx r : Int} (h : (S as == S bs) = false) (hC : lcs (as.drop (lcp as bs)) (bs.drop (lcp as bs)) = q)
    (hr : rel9 ((as.drop (lcp as bs)).take (-(q : Int) + (as.drop (lcp as bs)).length).toNat) ((bs.drop (lcp as bs)).take (-(q : Int) + (bs.drop (lcp as bs)).length).toNat) mx r) : lev as bs mx r := by
  refine .inr ⟨fun e => ?_, ?_⟩
  · rw [e, beq_self_eq_true] at h; cases h
  · have e : ∀ n : Nat, (-(q : Int) + (n : Int)).toNat = n - q := fun n => by omega
    rw [e, e, ← hC] at hr
    exact hr
theorem lev_of0 {as bs : List Nat} {q : Nat} {mx r : Int} (h : (S as == S bs) = false) (hC : lcs (as.drop (lcp as bs)) (bs.drop (lcp as bs)) = q) (h0 : -(q : Int) = 0)
    (hr : rel9 (as.drop (lcp as bs)) (bs.drop (lcp as bs)) mx r) : lev as bs mx r := by
  refine .inr ⟨fun e => ?_, ?_⟩
  · rw [e, beq_self_eq_true] at h; cases h
  · have hq : lcs (as.drop (lcp as bs)) (bs.drop (lcp as bs)) = 0 := by omega
    show rel9 ((as.drop (lcp as bs)).take ((as.drop (lcp as bs)).length - lcs (as.drop (lcp as bs)) (bs.drop (lcp as bs)))) ((bs.drop (lcp as bs)).take ((bs.drop (lcp as bs)).length - lcs (as.drop (lcp as bs)) (bs.drop (lcp as bs)))) mx r
    rw [hq, Nat.sub_zero, Nat.sub_zero, List.take_length, List.take_length]
    exact hr
section
variable {prog : Program} {w : World} {A : Around} {E : Value → Shared → Prop} {s : Shared} {value slice : Expr} {l : List Nat} {t : Tok} {h₀ : Heap} {L : Addr} {m : Str → Option Value} {news : List (Addr × Obj)} {Q : Value → Shared → Prop}
theorem cut_sn {i : Int} {ui : Tok} (hF : Fr h₀ L s.heap m) (hN : News h₀ L s.heap news) (h40 : (S l).length ≤ 40) (h0 : 0 ≤ i) (h1 : i ≤ (S l).length) (h : ∀ h' t' k, Fr h₀ L h' m → News h₀ L h' news → (((S (l.drop i.toNat)).length : Int) = (S l).length - i) → Q (.str (S (l.drop i.toNat)) t') { s with heap := h', toks := k })
    (hs : subscripted slice false (.str (S l) t) (.ref s.heap.objs.size) = operate [.ref s.heap.objs.size, .str (S l) t] (getItem (.str (S l) t) (.ref s.heap.objs.size)) := by with_unfolding_all rfl)
    (ht : ∀ r, letTemporaryGo value (.str (S l) t) r = pure () := by intro _; with_unfolding_all rfl) :
    wpAny (model prog w) A (subscriptTail value slice (.str (S l) t) (.ref s.heap.objs.size)) Q E { s with heap := s.heap.push { cls := .type "slice", data := .fields #[.int i ui, .none, .none] } } := by
  rw [S_len] at h1
  refine slice_strN_sn hF hN (fun h' t' k F N => ?_) hs ht (by rw [sizeLine_eq]; omega)
  rw [slice_S h0 h1]
  refine h h' t' k F N ?_
  rw [S_len, S_len, List.length_drop]; omega
end
local macro_rules | `(tactic| walk_at "subscriptTail Name Slice str ref") => `(tactic| (k_here; (with_reducible show wpAny _ _ (subscriptTail _ (Expr.Slice _ _ none _) (Value.str (S _) _) _) _ _ _); (with_reducible rename Fr _ _ _ _ => F'); (with_reducible rename News _ _ _ _ => N'); first
  | (refine cut_nn (s := ⟨_, _, _, _, _⟩) F' N' (by omega) ?_; intro _ _ _ _ _)
  | (refine cut_sn (s := ⟨_, _, _, _, _⟩) F' N' (by omega) (by omega) (by omega) ?_; intro _ _ _ _ _ _)
  | (refine cut_ns (s := ⟨_, _, _, _, _⟩) F' N' (by omega) (by omega) (by omega) ?_; intro _ _ _ _ _ _)))
local macro_rules | `(tactic| walk_at "exec While BoolOp cons nil") => `(tactic| (k_here; refine Stop.mk ?_))
local macro_rules | `(tactic| walk_at "execs cons") => `(tactic| (k_here; (with_reducible show wpAny _ _ (execs (Stmt.If (Expr.BoolOp BoolOp.Or [Expr.UnaryOp _ _ _, _] _) _ _ _ :: _) _) _ _ _); refine Stop.mk ?_))
theorem lev_tells (w : World) (mean : ExcName → Option Value) (mg mb : Str → Option Value) (news : List (Addr × Obj)) (as bs : List Nat) (mx : Int) (ha : (S as).length ≤ 40) (hb : (S bs).length ≤ 40) (h0 : 0 ≤ mx) (hm : mx ≤ 1000) (t u v : Tok) :
    TellsR 8 w mean mg mb 28 news [.str (S as) t, .str (S bs) u, .int mx v] (lev as bs mx) := by
  k_with_none
  unfold TellsR pr; k_fill
  intros; rename_i hret
  refine wpAny_call ?_
  k_dflt cell_enter
  refine wpAny_mono (E := fun _ _ => False) ?_ (fun _ _ h => h) (fun _ _ h => h.elim)
  have hla : (lcp as bs : Int) ≤ (S as).length := by rw [S_len]; exact Int.ofNat_le.mpr (lcp_a as bs)
  have hlb : (lcp as bs : Int) ≤ (S bs).length := by rw [S_len]; exact Int.ofNat_le.mpr (lcp_b as bs)
  have hA : (S (as.drop (lcp as bs))).length ≤ 40 := by rw [S_len] at ha ⊢; rw [List.length_drop]; omega
  have hB : (S (bs.drop (lcp as bs))).length ≤ 40 := by rw [S_len] at hb ⊢; rw [List.length_drop]; omega
  have hlc : (lcs (as.drop (lcp as bs)) (bs.drop (lcp as bs)) : Int) ≤ (S (as.drop (lcp as bs))).length := by rw [S_len]; exact Int.ofNat_le.mpr (lcs_a _ _)
  have hld : (lcs (as.drop (lcp as bs)) (bs.drop (lcp as bs)) : Int) ≤ (S (bs.drop (lcp as bs))).length := by rw [S_len]; exact Int.ofNat_le.mpr (lcs_b _ _)
  k_steps
  · refine hret _ _ _ _ (.inl ⟨S_inj (eq_of_beq (by assumption)), rfl⟩) (by assumption) (by assumption)
  rename Fr _ _ _ _ => F'
  rename News _ _ _ _ => N'
  rename Below _ _ _ _ => B'
  rename Frag.In _ _ => X'
  rename Top _ _ _ _ _ _ => T'
  have F1 := fr1 (l := [("max_cost", .int mx v), ("b", .str (S bs) u), ("a", .str (S as) t)]) (by with_unfolding_all exact F')
  refine Stop.out (seg1 ha hb B' F1 X' N' T' (by omega) (by omega) fun k t1 h1 tk1 hk F2 N2 => ?_)
  have hk : k = lcp as bs := hk
  subst hk
  clear F' F1 N'
  k_steps
  rename Fr _ _ _ _ => F'
  rename News _ _ _ _ => N'
  have F3 := fr_eqm (m := mp [("post", .int 0 _), ("pre", .int (lcp as bs) t1), ("max_cost", .int mx v), ("b", .str (S (bs.drop (lcp as bs))) _), ("a", .str (S (as.drop (lcp as bs))) _)]) (fr3 F') (mp_same (by
    repeat' (first | exact List.forall_mem_nil _ | refine List.forall_mem_cons.mpr ⟨by with_unfolding_all rfl, ?_⟩)))
  refine Stop.out (seg2 (as := as.drop (lcp as bs)) (bs := bs.drop (lcp as bs)) hA hB B' F3 X' N' T' (by omega) (by omega) fun k t2 h2 tk2 hk F4 N4 => ?_)
  have hk : k = -(lcs (as.drop (lcp as bs)) (bs.drop (lcp as bs)) : Int) := hk
  subst hk
  clear F' F3 N'
  generalize hC : lcs (as.drop (lcp as bs)) (bs.drop (lcp as bs)) = q at *
  k_steps
  all_goals try (exfalso; omega)
  · rename Fr _ _ _ _ => F'
    rename News _ _ _ _ => N'
    have F5 := fr_eqm (m := mp [("post", .int (-(q : Int)) t2), ("pre", .int (lcp as bs) t1), ("max_cost", .int mx v), ("b", .str (S ((bs.drop (lcp as bs)).take (-(q : Int) + (bs.drop (lcp as bs)).length).toNat)) _), ("a", .str (S ((as.drop (lcp as bs)).take (-(q : Int) + (as.drop (lcp as bs)).length).toNat)) _)]) (fr2 F') (mp_same (by
      repeat' (first | exact List.forall_mem_nil _ | refine List.forall_mem_cons.mpr ⟨by with_unfolding_all rfl, ?_⟩)))
    refine Stop.out (seg9 (by omega) (by omega) h0 hm B' F5 X' N' T' (by omega) (by omega) fun r t9 h9 tk9 m9 hr F9 N9 => ?_)
    clear F' F5 N'
    k_steps
    exact hret _ _ _ _ (lev_of (by assumption) hC hr) (by assumption) (by assumption)
  · rename Fr _ _ _ _ => F'
    rename News _ _ _ _ => N'
    have F5 := fr_eqm (m := mp [("post", .int (-(q : Int)) t2), ("pre", .int (lcp as bs) t1), ("max_cost", .int mx v), ("b", .str (S (bs.drop (lcp as bs))) _), ("a", .str (S (as.drop (lcp as bs))) _)]) (fr2 F') (mp_same (by
      repeat' (first | exact List.forall_mem_nil _ | refine List.forall_mem_cons.mpr ⟨by with_unfolding_all rfl, ?_⟩)))
    refine Stop.out (seg9 hA hB h0 hm B' F5 X' N' T' (by omega) (by omega) fun r t9 h9 tk9 m9 hr F9 N9 => ?_)
    clear F' F5 N'
    k_steps
    exact hret _ _ _ _ (lev_of0 (by assumption) hC (by assumption) hr) (by assumption) (by assumption)

/- part LC -/
theorem pyIter_str2 {prog : Program} {w : World} {A : Around} {E : Value → Shared → Prop} {s : Shared} {x : Str} {t : Tok} {Q : Value → Shared → Prop}
    (hQ : ∀ (o : Obj) (St : Nat → Heap → Prop), (∀ A' : Around, A'.handled = none → Walks prog w A' s.heap.objs.size [s.heap.objs.size] [s.heap.objs.size] x.cps.size (SignAt x) St) → St 0 (s.heap.push o) →
      (∀ i h, St i h → ∃ o, h.get? s.heap.objs.size = some o) → (∀ i h h' o, St i h → h.get? s.heap.objs.size = some o → h'.get? s.heap.objs.size = some o → St i h') →
      Q (.ref s.heap.objs.size) { s with heap := s.heap.push o }) : wpAny (model prog w) A (pyIter (.str x t)) Q E s := by
  cases ha : x.cps.all (· < 128)
  · exact wpAny_pyIter_wide ha (hQ _ _ (fun A' hA => Walks.strWide hA _ x t) ⟨_, Heap.get?_push_size _ rfl, rfl, rfl⟩ (fun i h st => let ⟨o, e, _⟩ := st; ⟨o, e⟩) fun i h h' o st e e' => by
      obtain ⟨o', q, r⟩ := st; rw [e] at q; cases q; exact ⟨o, e', r⟩)
  · exact wpAny_pyIter_ascii ha (hQ _ _ (fun A' hA => Walks.strAscii hA _ x t) ⟨_, Heap.get?_push_size _ rfl, rfl, rfl⟩ (fun i h st => let ⟨o, e, _⟩ := st; ⟨o, e⟩) fun i h h' o st e e' => by
      obtain ⟨o', q, r⟩ := st; rw [e] at q; cases q; exact ⟨o, e', r⟩)
section
variable {prog : Program} {w : World} {A : Around} {E : Value → Shared → Prop} {s : Shared} {h₀ : Heap} {L : Addr} {m : Str → Option Value} {env : Env}
/-- the source is a text -/
def TxSrc (prog : Program) (w : World) (A : Around) (h₀ : Heap) (L : Addr) (m : Str → Option Value) (env : Env) (elt : Expr) (x : Str) (scope : Scope) (cl : List (Str × Addr)) (Fin : Shared → List Value → List (Addr × Obj) → Prop) (xv : Value) (s₁ : Shared) : Prop :=
  ∃ cs t news, xv = .str (S cs) t ∧ A.handled = none ∧ Fr h₀ L s₁.heap m ∧ News h₀ L s₁.heap news ∧ (S cs).length ≤ 40 ∧
    ∀ s₂ : Shared, (∃ h, s₂ = { s₁ with heap := h }) → LCg.CompRest prog w A h₀ L m env elt x scope cl s₂ (fun _ => True) (SignAt (S cs)) (Fin s₂) (S cs).cps.size 0 [] news
theorem ListComp_S {elt iter : Expr} {x : Str} {px : Pos} {scope : Scope} {cl : List (Str × Addr)} {pos : Pos} {Q : Value → Shared → Prop} (F₀ : Fr h₀ L s.heap m)
    (hclos : closureFor scope env = pure cl) (hcell : ∀ y ∈ scope.names, y.2 ≠ .cell) (hkind : scope.kind = .function)
    (hnames : ∀ y ∈ scope.names, y.2 = .local → scope.names.lookup y.1 = some .local) (hx : scope.names.lookup x = some .local)
    (h : wpAny (model prog w) A (eval iter env) (TxSrc prog w A h₀ L m env elt x scope cl (fun s₂ => LCg.FinE h₀ L m s₂ Q)) E s)
    (hs : ∀ x, foldedSetIterable iter env x = pure x := by intro _; rfl) :
    wpAny (model prog w) A (eval (.ListComp elt [⟨.Name x px, iter, [], 0⟩] scope pos) env) Q E s := by
  rw [eval_ListComp]
  refine wpAny_comprehension_free (use := none) rfl hs hclos hkind hnames (wpAny_mono h (fun xv s₁ h₁ => ?_) fun _ _ e => e)
  obtain ⟨cs, t, news, rfl, hh, F, N, h40, R⟩ := h₁
  refine pyIter_str2 fun o St W hst hIo hSt => ?_
  refine LCg.block_U (W A hh) (by have e : (S cs).cps.size = (S cs).length := rfl; rw [e, sizeLine_eq]; omega) hIo (fun i h h' o nw st e e' _ _ _ => hSt i h h' o st e e') hcell hkind hx hst (fun b hb => ?_)
    (F.keeps fun _ _ e => Heap.get?_push_of_some _ e) (N.grown fun _ _ e => Heap.get?_push_of_some _ e) (Nat.ne_of_lt F.ns.lt) (next_is_new F) (fun p hp => Nat.ne_of_lt (Heap.lt_size (N p hp).1)) trivial (R _ ⟨_, rfl⟩) ?_
  · rw [List.mem_singleton.mp hb]
    show s₁.heap.objs.size < (s₁.heap.push _).objs.size
    rw [Heap.size_push]; exact Nat.lt_succ_self _
  · intro D C h' tk m' ys news' F' N' o1 hn hC₀ hD₀ hCL hDL hCD offC fin
    refine ⟨m', hn, fun h'' hs'' => fin D h'' tk (F'.change hs'' hCL hC₀) (fun p hp => ?_) o1⟩
    refine ⟨hs''.extBut _ _ ?_ (N' p hp).1, (N' p hp).2⟩
    rcases List.mem_cons.mp hp with rfl | hp
    · exact Ne.symm hCD
    · exact offC p hp
/-- each sign by one function -/
theorem tx_list {elt : Expr} {x : Str} {scope : Scope} {cl : List (Str × Addr)} {Fin : List Value → List (Addr × Obj) → Prop} {news : List (Addr × Obj)} {cs : List Nat} (g : Nat → Str)
    (turn : ∀ c t I oI C oC D m₂ ys h tk (E' : Value → Shared → Prop), c ∈ cs → LCg.NsObj oC m₂ → m₂ x = some (.str ⟨#[c]⟩ t) → Fr h₀ L h m → News h₀ L h ((I, oI) :: (C, oC) :: (D, LCg.lst ys) :: news) → LCg.Off3 I C D news → ((@Ne Nat I C) ∧ (@Ne Nat I D) ∧ (@Ne Nat C D)) → KPfMark →
      wpAny (model prog w) A (eval elt (compEnvC scope cl C env)) (LCg.CompEnd h₀ L m { s with heap := h, toks := tk } I oI C oC D (LCg.lst ys) (fun _ => True) (fun y news' => KCtEl news (g c) y news')) E' { s with heap := h, toks := tk })
    (fin : ∀ ys, CarriedAll ys (cs.map fun c => PyData.str (g c)) → Fin ys news) : LCg.CompRest prog w A h₀ L m env elt x scope cl s (fun _ => True) (SignAt (S cs)) Fin (S cs).cps.size 0 [] news := by
  have key : ∀ (j i : Nat) (ys : List Value), i + j = cs.length → PyProof.Rows.StrsAre ys ((cs.take i).map g) → LCg.CompRest prog w A h₀ L m env elt x scope cl s (fun _ => True) (SignAt (S cs)) Fin j i ys news := by
    intro j
    induction j with
    | zero =>
      intro i ys hi hy
      have e : i = cs.length := by omega
      subst e
      rw [List.take_length] at hy
      have hc := hy.carried
      rw [List.map_map] at hc
      exact LCg.CompRest.zero (fin ys hc)
    | succ j ih =>
      intro i ys hi hy
      refine LCg.CompRest.succ ?_
      intro v I oI C oC D m₂ h tk E' hv hC hx F N off ne
      obtain ⟨c, t, hc, hv'⟩ := hv
      have hc' : cs[i]? = some c := by simpa [S] using hc
      rw [hv'] at hx
      refine wpAny_mono (turn c t I oI C oC D m₂ ys h tk E' (List.mem_of_getElem? hc') hC hx F N off ne True.intro) (fun y s₂ hq => ?_) fun _ _ e => e
      obtain ⟨h', tk', nw, e, F', N', off', hS, hn, t', hy'⟩ := hq
      rw [hn] at N' off'
      refine ⟨h', tk', news, e, F', N', off', trivial, ?_⟩
      rw [hy']
      refine ih (i + 1) _ (by omega) ?_
      rw [List.take_add_one, hc']
      simpa using kct_snoc hy
  have hz : (S cs).cps.size = cs.length := by simp [S]
  rw [hz]
  exact key cs.length 0 [] (by omega) (by simp only [List.take_zero, List.map_nil]; exact .nil)
end

/- part SA -/
def lawBody : List Stmt := match (pr.main.body[12]? : Option Stmt) with
  | some (Stmt.FunctionDef _ _ body _ _ _ _ _ _ _) => body
  | _ => []
def lawScope : Scope := match (pr.main.body[12]? : Option Stmt) with
  | some (Stmt.FunctionDef _ _ _ _ _ _ scope _ _ _) => scope
  | _ => { kind := .function, names := [], isGenerator := false, isCoroutine := false }
theorem TellsR.use {k : Nat} {w : World} {mean : ExcName → Option Value} {mg mb : Str → Option Value} {f : Addr} {news : List (Addr × Obj)} {vs : List Value} {R : Int → Prop} (C : TellsR k w mean mg mb f news vs R)
    {dp un : Nat} {gd : Option (List Code)} {cn : Str} {cs : Scope} {a : Addr} {ccd : Value} {cl : List (Str × Addr)} {outer : List Env} {A₀ : Around} {base h₀ : Heap} {L : Addr} {m : Str → Option Value} {s : Shared} {Q E : Value → Shared → Prop}
    (B : Below A₀ base outer h₀) (F : Fr h₀ L s.heap m) (X : (hd.heap_39 w.params).In h₀) (N : News h₀ L s.heap news) (T : Top hd.view_39 (looseW hd.view_39 []) mean mg mb h₀) (hk : cs.kind = .function)
    (hd' : dp + k < recursionLimit) (hu : un + 8 * k < cLine) (ret : ∀ (r : Int) (t : Tok) (h' : Heap) (tk' : Nat), R r → Fr h₀ L h' m → News h₀ L h' news → Q (.int r t) { s with heap := h', toks := tk' }) :
      wpAny (model pr w) (ktrTop dp un gd cn cs L a ccd cl outer) (call (.ref f) vs) Q E s :=
  C _ _ _ _ _ _ _ _ _ _ _ _ _ _ _ _ _ B F X N T hk hd' hu ret
section
variable {prog : Program} {w : World} {A : Around} {E : Value → Shared → Prop} {s : Shared} {t u : Tok} {l : List Nat} {Q : Value → Shared → Prop}
theorem nl_len : (Str.ofString "\n").length = 1 := by decide
theorem add_nl (h40 : (S l).length ≤ 40) (h : ∀ t' k, Q (.str (S (10 :: l)) t') { s with toks := k }) : wpAny (model prog w) A (binaryOp .Add (.str (Str.ofString "\n") t) (.str (S l) u)) Q E s := by
  refine KXadd.add (Nat.le_refl _) (Nat.le_refl _) (by rw [nl_len]; omega) fun t' k _ => ?_
  have e : Str.ofString "\n" ++ S l = S (10 :: l) := by
    refine Str.ext' (Array.toList_inj.mp ?_)
    have e0 : (Str.ofString "\n").cps = #[10] := by decide
    rw [Str.cps_append, e0]
    simp [S]
  rw [e]; exact h t' k
theorem add_end (h40 : (S l).length ≤ 40) (h : ∀ t' k, Q (.str (S (l ++ [10])) t') { s with toks := k }) : wpAny (model prog w) A (binaryOp .Add (.str (S l) u) (.str (Str.ofString "\n") t)) Q E s := by
  refine KXadd.add (Nat.le_refl _) (Nat.le_refl _) (by rw [nl_len]; omega) fun t' k _ => ?_
  have e : S l ++ Str.ofString "\n" = S (l ++ [10]) := by
    refine Str.ext' (Array.toList_inj.mp ?_)
    have e0 : (Str.ofString "\n").cps = #[10] := by decide
    rw [Str.cps_append, e0]
    simp [S]
  rw [e]; exact h t' k
end
/-- a pair of texts and what is due between them, either way round -/
def Due (x y : List Nat) (due : Int) : Prop := x.length ≤ 40 ∧ y.length ≤ 40 ∧ 0 ≤ due ∧ due ≤ 1000 ∧ (∀ r, lev x y due r → r = due) ∧ ∀ r, lev y x due r → r = due
theorem due_1 {w : World} {mean : ExcName → Option Value} {mg mb : Str → Option Value} {news : List (Addr × Obj)} {x y : List Nat} {d : Int} {t u v : Tok} (h : Due x y d) :
    TellsD 8 w mean mg mb 28 news [.str (S x) t, .str (S y) u, .int d v] (fun t => .int d t) := by
  obtain ⟨h1, h2, h3, h4, h5, h6⟩ := h
  intro dp un gd cn cs a ccd cl outer A₀ base h₀ L m s Q E B F X N T hk hd' hu ret
  refine TellsR.use (lev_tells w mean mg mb news x y d (by rw [S_len]; exact h1) (by rw [S_len]; exact h2) h3 h4 t u v) B F X N T hk hd' hu fun r t' h' tk' hr F' N' => ?_
  rw [h5 r hr]
  exact ret t' h' tk' F' N'
theorem due_2 {w : World} {mean : ExcName → Option Value} {mg mb : Str → Option Value} {news : List (Addr × Obj)} {x y : List Nat} {d : Int} {t u v : Tok} (h : Due x y d) :
    TellsD 8 w mean mg mb 28 news [.str (S y) u, .str (S x) t, .int d v] (fun t => .int d t) := by
  obtain ⟨h1, h2, h3, h4, h5, h6⟩ := h
  intro dp un gd cn cs a ccd cl outer A₀ base h₀ L m s Q E B F X N T hk hd' hu ret
  refine TellsR.use (lev_tells w mean mg mb news y x d (by rw [S_len]; exact h2) (by rw [S_len]; exact h1) h3 h4 u t v) B F X N T hk hd' hu fun r t' h' tk' hr F' N' => ?_
  rw [h6 r hr]
  exact ret t' h' tk' F' N'
theorem mod_known {prog : Program} {w : World} {A : Around} {E : Value → Shared → Prop} {s : Shared} {t u : Tok} {x b r : Int} {Q : Value → Shared → Prop} (e : x.fmod b = r) (hb : b ≠ 0) (h : Q (.int r s.toks) { s with toks := s.toks + 1 }) :
    wpAny (model prog w) A (binaryOp .Mod (.int x t) (.int b u)) Q E s := mod_int' hb (e ▸ h)
local macro_rules | `(tactic| walk_at "binaryOp Mod int int") => `(tactic| (k_here; refine mod_known (by assumption) (by decide) ?_))
local macro_rules | `(tactic| walk_at "binaryOp Add str str") => `(tactic| (k_here; (with_reducible show wpAny _ _ (binaryOp Operator.Add (Value.str _ _) (Value.str _ _)) _ _ _); first
  | (refine add_nl (by assumption) ?_; intro _ _)
  | (refine add_end (by assumption) ?_; intro _ _)))
local macro_rules | `(tactic| walk_at "call ref") => `(tactic| (k_here; (with_reducible show wpAny _ _ (call (Value.ref 28) _) _ _ _); (first | (k_dflt refine' TellsD.use (due_1 (by assumption)) ?k1 ?k2 ?k3 ?k4 ?k5 ?k6 ?kd ?ku ?_) | (k_dflt refine' TellsD.use (due_2 (by assumption)) ?k1 ?k2 ?k3 ?k4 ?k5 ?k6 ?kd ?ku ?_)); (case k1 => k_asm); (case k2 => k_asm); (case k3 => k_asm); (case k4 => k_asm); (case k5 => k_asm); (case k6 => first | exact rfl | assumption); (case kd => ktr_room); (case ku => ktr_units); intro t9 h9 tk9 F9 N9; (try dsimp only); (try k_fold)))
theorem seg_asks {w : World} {mean : ExcName → Option Value} {mg mb : Str → Option Value} {tx br sh pl : List Nat} {P C M : Nat} {ns : List Int} {vs : List Value} {sa dc fa : Addr} {cd : Value} {t1 t2 t3 t4 t5 t6 t7 : Tok} {h₀ : Heap} {L : Addr} {s : Shared} {Q : Flow → Shared → Prop}
    (hsh : (S sh).length ≤ 40) (hpl : (S pl).length ≤ 40) (hP : P ≤ 7) (hC : C ≤ 7) (hM : M ≤ 7)
    (d1 : Due tx br (2 * (P : Int) + 2 * (M : Int))) (d2 : Due sh pl (2 * (P : Int) + 2 * (M : Int))) (d3 : Due tx sh (4 * (P : Int) + 4 * (C : Int) + 6 * (M : Int))) (d4 : Due br pl (4 * (C : Int) + 4 * (M : Int)))
    (d5 : Due tx pl (2 * (P : Int) + 4 * (C : Int) + 4 * (M : Int))) (d6 : Due br sh (2 * (P : Int) + 4 * (C : Int) + 6 * (M : Int))) (d7 : Due (10 :: sh) (pl ++ [10]) (2 * (P : Int) + 2 * (M : Int) + 4))
    (K0 : Below callerA h₀ [] h₀) (F : Fr h₀ L s.heap (mp [("m", .int M t1), ("c", .int C t2), ("p", .int P t3), ("plain", .str (S pl) t4), ("shown", .str (S sh) t5), ("bare", .str (S br) t6), ("text", .str (S tx) t7), ("codes", .ref dc), ("script", .ref sa)]))
    (X : (hd.heap_39 w.params).In h₀) (N : News h₀ L s.heap []) (T : Top hd.view_39 (looseW hd.view_39 []) mean mg mb h₀) (hL : h₀.IsList sa vs.toArray) (hI : IntsAre vs ns) (hn : ns.length ≤ 63)
    (done : ∀ h tk m', Fr h₀ L h m' → Q (.ret (.bool true)) { s with heap := h, toks := tk }) :
    wpAny (model pr w) (callerA.deeper (envOf "law" lawScope L fa cd)) (execs (lawBody.drop 8) (envOf "law" lawScope L fa cd)) Q (fun _ _ => False) s := by
  with_unfolding_all show wpAny _ (Around.deeper _ (envOf _ { kind := _, names := _, isGenerator := _, isCoroutine := _, more := _ } _ _ _)) (execs [Stmt.Assign _ _ _, Stmt.For _ _ _ _ _, Stmt.Return _ _] (envOf _ { kind := _, names := _, isGenerator := _, isCoroutine := _, more := _ } _ _ _)) _ _ _
  k_with_none
  unfold pr; revert X; k_fill; intro X
  have hpar : (ns.length : Int).fmod 2 = 0 ∨ (ns.length : Int).fmod 2 = 1 := by
    rw [Int.fmod_eq_emod_of_nonneg _ (by decide)]; omega
  rcases hpar with hpar | hpar
  · k_steps
    all_goals (try dsimp only)
    all_goals first | exact absurd rfl (by assumption) | exact done _ _ _ (by assumption)
  · k_steps
    all_goals (try dsimp only)
    all_goals first | exact absurd rfl (by assumption) | exact done _ _ _ (by assumption)

/- part PL -/
/-- the price of putting y for x -/
def sb (x y : Nat) : Nat := if x = y then 0 else if Txt.lower ⟨#[x]⟩ = Txt.lower ⟨#[y]⟩ then 1 else 2
theorem subN_eq (x y : Nat) : subN x y = (sb x y : Int) := by
  unfold subN sb
  split
  · rfl
  · split <;> rfl
theorem sb_comm (x y : Nat) : sb x y = sb y x := by
  unfold sb
  by_cases h : x = y
  · subst h; rfl
  · rw [if_neg h, if_neg (Ne.symm h)]
    by_cases h2 : Txt.lower ⟨#[x]⟩ = Txt.lower ⟨#[y]⟩
    · rw [if_pos h2, if_pos h2.symm]
    · rw [if_neg h2, if_neg (Ne.symm h2)]
theorem sb_le (x y : Nat) : sb x y ≤ 2 := by
  unfold sb
  split
  · omega
  · split <;> omega
theorem sb_self (x : Nat) : sb x x = 0 := by simp [sb]
def Drow (x : Nat) (prev : List Nat → Nat) : List Nat → Nat
  | [] => prev [] + 2
  | y :: b => min (min (prev (y :: b) + 2) (Drow x prev b + 2)) (prev b + sb x y)
/-- the weighted distance -/
def D : List Nat → List Nat → Nat
  | [] => fun b => 2 * b.length
  | x :: a => Drow x (D a)
theorem D_nil (b : List Nat) : D [] b = 2 * b.length := rfl
theorem D_cons_nil (x : Nat) (a : List Nat) : D (x :: a) [] = D a [] + 2 := rfl
theorem D_cons (x y : Nat) (a b : List Nat) : D (x :: a) (y :: b) = min (min (D a (y :: b) + 2) (D (x :: a) b + 2)) (D a b + sb x y) := rfl
inductive Al : List Nat → List Nat → Nat → Prop
  | nil : Al [] [] 0
  | del {x a b c} : Al a b c → Al (x :: a) b (c + 2)
  | ins {y a b c} : Al a b c → Al a (y :: b) (c + 2)
  | sub {x y a b c} : Al a b c → Al (x :: a) (y :: b) (c + sb x y)
theorem al_ins_all : ∀ b : List Nat, Al [] b (2 * b.length)
  | [] => Al.nil
  | y :: b => by
    have := Al.ins (y := y) (al_ins_all b)
    rw [List.length_cons]
    exact this
theorem al_D : ∀ a b : List Nat, Al a b (D a b)
  | [], b => al_ins_all b
  | x :: a, [] => Al.del (al_D a [])
  | x :: a, y :: b => by
    rw [D_cons]
    by_cases h1 : D a (y :: b) + 2 ≤ D (x :: a) b + 2
    · rw [Nat.min_eq_left h1]
      by_cases h2 : D a (y :: b) + 2 ≤ D a b + sb x y
      · rw [Nat.min_eq_left h2]; exact Al.del (al_D a (y :: b))
      · rw [Nat.min_eq_right (by omega)]; exact Al.sub (al_D a b)
    · rw [Nat.min_eq_right (by omega : D (x :: a) b + 2 ≤ D a (y :: b) + 2)]
      by_cases h2 : D (x :: a) b + 2 ≤ D a b + sb x y
      · rw [Nat.min_eq_left h2]; exact Al.ins (al_D (x :: a) b)
      · rw [Nat.min_eq_right (by omega)]; exact Al.sub (al_D a b)
termination_by a b => a.length + b.length
theorem D_le {a b : List Nat} {c : Nat} (h : Al a b c) : D a b ≤ c := by
  induction h with
  | nil => exact Nat.le_refl 0
  | @del x a b c _ ih =>
    cases b with
    | nil => rw [D_cons_nil]; omega
    | cons y b => rw [D_cons]; omega
  | @ins y a b c _ ih =>
    cases a with
    | nil => rw [D_nil] at ih ⊢; rw [List.length_cons]; omega
    | cons x a => rw [D_cons]; omega
  | @sub x y a b c _ ih => rw [D_cons]; omega
theorem al_symm {a b : List Nat} {c : Nat} (h : Al a b c) : Al b a c := by
  induction h with
  | nil => exact Al.nil
  | del _ ih => exact Al.ins ih
  | ins _ ih => exact Al.del ih
  | @sub x y a b c _ ih => rw [sb_comm]; exact Al.sub ih
theorem D_comm (a b : List Nat) : D a b = D b a := Nat.le_antisymm (D_le (al_symm (al_D b a))) (D_le (al_symm (al_D a b)))
theorem al_app {a b : List Nat} {c : Nat} (h : Al a b c) {a' b' : List Nat} {c' : Nat} (h' : Al a' b' c') : Al (a ++ a') (b ++ b') (c + c') := by
  induction h with
  | nil => rw [Nat.zero_add]; exact h'
  | @del x a b c _ ih => have := Al.del (x := x) ih; rw [show c + 2 + c' = c + c' + 2 by omega]; exact this
  | @ins y a b c _ ih => have := Al.ins (y := y) ih; rw [show c + 2 + c' = c + c' + 2 by omega]; exact this
  | @sub x y a b c _ ih => have := Al.sub (x := x) (y := y) ih; rw [show c + sb x y + c' = c + c' + sb x y by omega]; exact this
theorem al_rev {a b : List Nat} {c : Nat} (h : Al a b c) : Al a.reverse b.reverse c := by
  induction h with
  | nil => exact Al.nil
  | @del x a b c _ ih =>
    have := al_app ih (Al.del (x := x) Al.nil)
    rw [List.reverse_cons]; simpa using this
  | @ins y a b c _ ih =>
    have := al_app ih (Al.ins (y := y) Al.nil)
    rw [List.reverse_cons]; simpa using this
  | @sub x y a b c _ ih =>
    have := al_app ih (Al.sub (x := x) (y := y) Al.nil)
    rw [List.reverse_cons, List.reverse_cons]; simpa using this
theorem D_rev (a b : List Nat) : D a.reverse b.reverse = D a b := by
  refine Nat.le_antisymm (D_le (al_rev (al_D a b))) ?_
  have := D_le (al_rev (al_D a.reverse b.reverse))
  simpa using this
theorem al_same : ∀ a : List Nat, Al a a 0
  | [] => Al.nil
  | x :: a => by have := Al.sub (x := x) (y := x) (al_same a); rw [sb_self] at this; exact this
theorem D_same (a : List Nat) : D a a = 0 := Nat.le_zero.mp (D_le (al_same a))
/-- one sign less costs two at most -/
theorem al_drop {a b' : List Nat} {c : Nat} (h : Al a b' c) : ∀ {y b}, b' = y :: b → ∃ c', c' ≤ c + 2 ∧ Al a b c' := by
  induction h with
  | nil => intro y b e; cases e
  | @del x a b₀ c h ih =>
    intro y b e
    obtain ⟨c', h1, h2⟩ := ih e
    exact ⟨c' + 2, by omega, Al.del h2⟩
  | @ins y₀ a b₀ c h ih =>
    intro y b e
    cases e
    exact ⟨c, by omega, h⟩
  | @sub x y₀ a b₀ c h ih =>
    intro y b e
    cases e
    exact ⟨c + 2, by omega, Al.del h⟩
theorem al_head {x : Nat} {a b : List Nat} {c : Nat} (h : Al (x :: a) (x :: b) c) : ∃ c', c' ≤ c ∧ Al a b c' := by
  generalize e1 : x :: a = l1 at h
  generalize e2 : x :: b = l2 at h
  cases h with
  | nil => cases e1
  | @del x' a' b' c h =>
    cases e1
    obtain ⟨c', h1, h2⟩ := al_drop h e2.symm
    exact ⟨c', h1, h2⟩
  | @ins y' a' b' c h =>
    cases e2
    obtain ⟨c', h1, h2⟩ := al_drop (al_symm h) e1.symm
    exact ⟨c', h1, al_symm h2⟩
  | @sub x' y' a' b' c h =>
    cases e1
    cases e2
    exact ⟨c, by omega, h⟩
theorem D_head (x : Nat) (a b : List Nat) : D (x :: a) (x :: b) = D a b := by
  refine Nat.le_antisymm ?_ ?_
  · have := D_le (Al.sub (x := x) (y := x) (al_D a b)); rw [sb_self] at this; exact this
  · obtain ⟨c', h1, h2⟩ := al_head (al_D (x :: a) (x :: b))
    exact Nat.le_trans (D_le h2) h1
theorem D_pre : ∀ p a b : List Nat, D (p ++ a) (p ++ b) = D a b
  | [], _, _ => rfl
  | x :: p, a, b => by rw [List.cons_append, List.cons_append, D_head, D_pre p]
theorem D_suf (a b q : List Nat) : D (a ++ q) (b ++ q) = D a b := by
  rw [← D_rev, List.reverse_append, List.reverse_append, D_pre, D_rev]
/-- where a text's end is cut, the other is cut somewhere -/
theorem al_split {a b : List Nat} {c : Nat} (h : Al a b c) : ∀ b1 b2, b = b1 ++ b2 → ∃ a1 a2 c1 c2, a = a1 ++ a2 ∧ Al a1 b1 c1 ∧ Al a2 b2 c2 ∧ c = c1 + c2 := by
  induction h with
  | nil =>
    intro b1 b2 e
    obtain ⟨rfl, rfl⟩ := List.append_eq_nil_iff.mp e.symm
    exact ⟨[], [], 0, 0, rfl, Al.nil, Al.nil, rfl⟩
  | @del x a b c h ih =>
    intro b1 b2 e
    obtain ⟨a1, a2, c1, c2, rfl, h1, h2, rfl⟩ := ih b1 b2 e
    exact ⟨x :: a1, a2, c1 + 2, c2, rfl, Al.del h1, h2, by omega⟩
  | @ins y a b c h ih =>
    intro b1 b2 e
    cases b1 with
    | nil => cases e; exact ⟨[], a, 0, c + 2, rfl, Al.nil, Al.ins h, by omega⟩
    | cons z b1 =>
      cases e
      obtain ⟨a1, a2, c1, c2, rfl, h1, h2, rfl⟩ := ih b1 b2 rfl
      exact ⟨a1, a2, c1 + 2, c2, rfl, Al.ins h1, h2, by omega⟩
  | @sub x y a b c h ih =>
    intro b1 b2 e
    cases b1 with
    | nil => cases e; exact ⟨[], x :: a, 0, c + sb x y, rfl, Al.nil, Al.sub h, by omega⟩
    | cons z b1 =>
      cases e
      obtain ⟨a1, a2, c1, c2, rfl, h1, h2, rfl⟩ := ih b1 b2 rfl
      exact ⟨x :: a1, a2, c1 + sb x y, c2, rfl, Al.sub h1, h2, by omega⟩
/-- the lower bound: a class of signs that no cheap exchange leaves -/
theorem al_class (K : Nat → Bool) {a b : List Nat} {c : Nat} (h : Al a b c) (hK : ∀ x ∈ a, ∀ y ∈ b, K y = true → K x = false → sb x y = 2) : 2 * a.length + 2 * b.countP K ≤ c + 2 * b.length + 2 * a.countP K := by
  induction h with
  | nil => simp
  | @del x a b c h ih =>
    have := ih fun x' hx y hy => hK x' (.tail _ hx) y hy
    rw [List.length_cons, List.countP_cons]; split <;> omega
  | @ins y a b c h ih =>
    have := ih fun x hx y' hy => hK x hx y' (.tail _ hy)
    rw [List.length_cons, List.countP_cons]; split <;> omega
  | @sub x y a b c h ih =>
    have := ih fun x' hx y' hy => hK x' (.tail _ hx) y' (.tail _ hy)
    have h2 := hK x (.head _) y (.head _)
    rw [List.length_cons, List.length_cons, List.countP_cons, List.countP_cons]
    cases hx : K x <;> cases hy : K y <;> simp_all <;> omega
theorem D_class (K : Nat → Bool) (a b : List Nat) (hK : ∀ x ∈ a, ∀ y ∈ b, K y = true → K x = false → sb x y = 2) : 2 * a.length + 2 * b.countP K ≤ D a b + 2 * b.length + 2 * a.countP K :=
  al_class K (al_D a b) hK
theorem D_len (a b : List Nat) : 2 * a.length ≤ D a b + 2 * b.length := by
  have := D_class (fun _ => false) a b (fun _ _ _ _ h => by cases h)
  have e : ∀ l : List Nat, l.countP (fun _ => false) = 0 := fun l => by simp
  rw [e, e] at this; omega
theorem D_nil' (a : List Nat) : D a [] = 2 * a.length := by rw [D_comm]; rfl
theorem lcp_take : ∀ as bs : List Nat, as.take (lcp as bs) = bs.take (lcp as bs)
  | [], bs => by simp [lcp]
  | _ :: _, [] => by simp [lcp]
  | x :: xs, y :: ys => by
    unfold lcp
    split
    · rename_i h; subst h; rw [List.take_succ_cons, List.take_succ_cons, lcp_take xs ys]
    · rfl
theorem D_core (as bs : List Nat) : D (core as bs).1 (core as bs).2 = D as bs := by
  have h1 : D (as.drop (lcp as bs)) (bs.drop (lcp as bs)) = D as bs := by
    have e := D_pre (as.take (lcp as bs)) (as.drop (lcp as bs)) (bs.drop (lcp as bs))
    rw [List.take_append_drop] at e
    rw [lcp_take as bs, List.take_append_drop] at e
    exact e.symm
  show D ((as.drop (lcp as bs)).take _) ((bs.drop (lcp as bs)).take _) = _
  rw [← h1]
  generalize as.drop (lcp as bs) = a
  generalize bs.drop (lcp as bs) = b
  have hs : a.drop (a.length - lcs a b) = b.drop (b.length - lcs a b) := by
    have := lcp_take a.reverse b.reverse
    rw [← List.reverse_inj, List.reverse_drop, List.reverse_drop]
    have ha : a.length - (a.length - lcs a b) = lcs a b := by have := lcs_a a b; omega
    have hb : b.length - (b.length - lcs a b) = lcs a b := by have := lcs_b a b; omega
    rw [ha, hb]
    exact this
  have e := D_suf (a.take (a.length - lcs a b)) (b.take (b.length - lcs a b)) (a.drop (a.length - lcs a b))
  rw [List.take_append_drop] at e
  rw [hs, List.take_append_drop] at e
  exact e.symm
/-- the table's cell -/
def R (x y : List Nat) (i j : Nat) : Int := (D (x.take i).reverse (y.take j).reverse : Int)
theorem R_eq (x y : List Nat) (i j : Nat) : R x y i j = (D (x.take i) (y.take j) : Int) := by unfold R; rw [D_rev]
theorem take_rev_succ {x : List Nat} {i : Nat} (h : i < x.length) : (x.take (i + 1)).reverse = x.getD i 0 :: (x.take i).reverse := by
  rw [List.take_add_one, List.reverse_append, List.getD_eq_getElem?_getD, List.getElem?_eq_getElem h]
  rfl
theorem R_0j (x y : List Nat) {j : Nat} (h : j ≤ y.length) : R x y 0 j = 2 * (j : Int) := by
  rw [R_eq, List.take_zero, D_nil, List.length_take, Nat.min_eq_left h]; omega
theorem R_i0 (x y : List Nat) {i : Nat} (h : i ≤ x.length) : R x y i 0 = 2 * (i : Int) := by
  rw [R_eq, List.take_zero, D_nil', List.length_take, Nat.min_eq_left h]; omega
theorem R_succ {x y : List Nat} {i j : Nat} (hi : i < x.length) (hj : j < y.length) :
    R x y (i + 1) (j + 1) = min (min (R x y i (j + 1) + 2) (R x y (i + 1) j + 2)) (R x y i j + (sb (x.getD i 0) (y.getD j 0) : Int)) := by
  unfold R
  rw [take_rev_succ hi, take_rev_succ hj, D_cons]
  omega
theorem inner_ok {x y : List Nat} {k : Nat} (hk : k < y.length) {row : List Int} (hrow : row.length = x.length) (hr : ∀ i, i < x.length → row.getD i 0 = R x y (i + 1) k) :
    ∀ n, n ≤ x.length → ∀ st, st = inner x (y.getD k 0) k row (rangeKs 0 n) →
      st.1 = R x y n k ∧ st.2.1 = (if n = 0 then 2 * (k : Int) else R x y n (k + 1)) ∧ (∀ i, i < n → st.2.2.1 ≤ R x y (i + 1) (k + 1)) ∧ st.2.2.2.length = x.length ∧
      (∀ i, i < x.length → st.2.2.2.getD i 0 = if i < n then R x y (i + 1) (k + 1) else R x y (i + 1) k)
  | 0, _, st, e => by
    subst e
    show (k : Int) * 2 = _ ∧ (k : Int) * 2 = _ ∧ _
    rw [R_0j x y (by omega)]
    refine ⟨by omega, by simp; omega, fun i hi => by omega, hrow, fun i hi => ?_⟩
    simp only [Nat.not_lt_zero, if_false]
    exact hr i hi
  | n + 1, hn, st, e => by
    obtain ⟨h1, h2, h3, h4, h5⟩ := inner_ok hk hrow hr n (by omega) _ rfl
    have e1 : inner x (y.getD k 0) k row (rangeKs 0 (n + 1)) = inStep x (y.getD k 0) (inner x (y.getD k 0) k row (rangeKs 0 n)) (0 + (n : Int)) := by
      unfold inner; rw [range_snoc, List.foldl_append]; rfl
    rw [e1] at e
    generalize inner x (y.getD k 0) k row (rangeKs 0 n) = st0 at h1 h2 h3 h4 h5 e
    have hnn : (0 + (n : Int)).toNat = n := by omega
    have hd := h5 n (by omega)
    rw [if_neg (Nat.lt_irrefl n)] at hd
    have hR := R_succ (x := x) (y := y) (i := n) (j := k) (by omega) hk
    have h0 := R_0j x y (j := k) (by omega)
    have h01 := R_0j x y (j := k + 1) (by omega)
    have hsb := sb_le (x.getD n 0) (y.getD k 0)
    subst e
    unfold inStep
    simp only [hnn]
    rw [hd, h1, h2, subN_eq, sb_comm (y.getD k 0) (x.getD n 0)]
    have hres : (if R x y n k + ↑(sb (x.getD n 0) (y.getD k 0)) < (if R x y (n + 1) k < (if n = 0 then 2 * (k : Int) else R x y n (k + 1)) then R x y (n + 1) k else (if n = 0 then 2 * (k : Int) else R x y n (k + 1))) + 2
        then R x y n k + ↑(sb (x.getD n 0) (y.getD k 0)) else (if R x y (n + 1) k < (if n = 0 then 2 * (k : Int) else R x y n (k + 1)) then R x y (n + 1) k else (if n = 0 then 2 * (k : Int) else R x y n (k + 1))) + 2) = R x y (n + 1) (k + 1) := by
      rw [hR]
      by_cases hz : n = 0
      · subst hz
        simp only [if_true]
        rw [h0, h01]
        split <;> split <;> omega
      · simp only [if_neg hz]
        split <;> split <;> omega
    rw [hres]
    refine ⟨rfl, by simp, fun i hi => ?_, by rw [List.length_set]; exact h4, fun i hi => ?_⟩
    · by_cases hin : i = n
      · subst hin
        split <;> omega
      · have := h3 i (by omega)
        split <;> omega
    · rw [List.getD_eq_getElem?_getD, List.getElem?_set]
      by_cases hin : n = i
      · subst hin
        rw [if_pos rfl, if_pos (by omega), if_pos (by omega)]
        rfl
      · rw [if_neg hin, ← List.getD_eq_getElem?_getD, h5 i hi]
        by_cases h : i < n
        · rw [if_pos h, if_pos (by omega)]
        · rw [if_neg h, if_neg (by omega)]
theorem outer_ok {x y : List Nat} (hx : 0 < x.length) : ∀ k, k ≤ y.length → ∀ st, st = outer x y (rangeKs 0 k) →
      st.1.length = x.length ∧ (∀ i, i < x.length → st.1.getD i 0 = R x y (i + 1) k) ∧ (0 < k → st.2 = R x y x.length k)
  | 0, _, st, e => by
    subst e
    refine ⟨row0_length _, fun i hi => ?_, fun h => absurd h (Nat.lt_irrefl 0)⟩
    show (row0 x.length).getD i 0 = _
    rw [R_i0 x y (by omega)]
    unfold row0
    rw [List.getD_eq_getElem?_getD, List.getElem?_map, List.getElem?_range hi]
    show 2 + (i : Int) * 2 = _
    omega
  | k + 1, hk, st, e => by
    obtain ⟨h1, h2, _⟩ := outer_ok (x := x) (y := y) hx k (by omega) _ rfl
    have e1 : outer x y (rangeKs 0 (k + 1)) = outStep x y (outer x y (rangeKs 0 k)) (0 + (k : Int)) := by
      unfold outer; rw [range_snoc, List.foldl_append]; rfl
    rw [e1] at e
    have hkk : (0 + (k : Int)) = (k : Int) := by omega
    obtain ⟨g1, g2, g3, g4, g5⟩ := inner_ok (x := x) (y := y) (k := k) (by omega) h1 h2 x.length (Nat.le_refl _) _ rfl
    have e2 : st = ((inner x (y.getD k 0) k (outer x y (rangeKs 0 k)).1 (rangeKs 0 x.length)).2.2.2, (inner x (y.getD k 0) k (outer x y (rangeKs 0 k)).1 (rangeKs 0 x.length)).2.1) := by
      rw [e]; unfold outStep; rw [hkk]; rfl
    subst e2
    refine ⟨g4, fun i hi => ?_, fun _ => ?_⟩
    · rw [g5 i hi, if_pos hi]
    · rw [g2, if_neg (by omega)]
theorem outer_end {x y : List Nat} (hx : x ≠ []) (hy : y ≠ []) : (outer x y (rangeKs 0 y.length)).2 = (D x y : Int) := by
  have hxl : 0 < x.length := List.length_pos_iff.mpr hx
  have hyl : 0 < y.length := List.length_pos_iff.mpr hy
  rw [(outer_ok hxl y.length (Nat.le_refl _) _ rfl).2.2 hyl, R_eq, List.take_length, List.take_length]
theorem minAt_le {x y : List Nat} (hx : x ≠ []) {k : Nat} (hk : k < y.length) : minAt x y k ≤ (D x y : Int) := by
  have hxl : 0 < x.length := List.length_pos_iff.mpr hx
  obtain ⟨h1, h2, _⟩ := outer_ok (x := x) (y := y) hxl k (by omega) _ rfl
  obtain ⟨_, _, g3, _, _⟩ := inner_ok (x := x) (y := y) (k := k) hk h1 h2 x.length (Nat.le_refl _) _ rfl
  have g3 : ∀ i, i < x.length → minAt x y k ≤ R x y (i + 1) (k + 1) := g3
  obtain ⟨a1, a2, c1, c2, ex, A1, A2, ec⟩ := al_split (al_D x y) (y.take (k + 1)) (y.drop (k + 1)) (List.take_append_drop _ _).symm
  by_cases h0 : a1 = []
  · subst h0
    have hb := D_le A1
    rw [D_nil, List.length_take, Nat.min_eq_left (show k + 1 ≤ y.length by omega)] at hb
    have h4 := g3 0 hxl
    have h5 := R_succ (x := x) (y := y) (i := 0) (j := k) hxl hk
    have h6 := R_0j x y (j := k) (by omega)
    have hsb := sb_le (x.getD 0 0) (y.getD k 0)
    omega
  · have hl : 0 < a1.length := List.length_pos_iff.mpr h0
    have hlx : a1.length ≤ x.length := by rw [ex, List.length_append]; omega
    have h4 := g3 (a1.length - 1) (by omega)
    have e : a1.length - 1 + 1 = a1.length := by omega
    rw [e, R_eq] at h4
    have e2 : x.take a1.length = a1 := by rw [ex, List.take_left]
    rw [e2] at h4
    have hb := D_le A1
    omega
/-- with the distance itself as the bound, the function tells the distance -/
theorem lev_D {as bs : List Nat} {r : Int} (h : lev as bs (D as bs : Int) r) : r = (D as bs : Int) := by
  rcases h with ⟨rfl, rfl⟩ | ⟨_, h⟩
  · rw [D_same]; rfl
  rw [← D_core] at h ⊢
  generalize (core as bs).1 = a at h ⊢
  generalize (core as bs).2 = b at h ⊢
  rcases h with ⟨h | h, rfl⟩ | ⟨ha, hb, x, y, hxy, h⟩
  · subst h; rw [D_nil]; simp
  · subst h; rw [D_nil']; simp
  have hD : D a b = D x y := by
    rcases hxy with ⟨rfl, rfl, _⟩ | ⟨rfl, rfl, _⟩
    · rfl
    · exact D_comm _ _
  have hx : x ≠ [] := by rcases hxy with ⟨rfl, rfl, _⟩ | ⟨rfl, rfl, _⟩ <;> assumption
  have hy : y ≠ [] := by rcases hxy with ⟨rfl, rfl, _⟩ | ⟨rfl, rfl, _⟩ <;> assumption
  rw [hD] at h ⊢
  rcases h with ⟨h, rfl⟩ | h | ⟨k, hk, h⟩
  · have := D_len y x
    rw [D_comm] at this
    omega
  · rw [h, outer_end hx hy]
  · have := minAt_le hx hk
    omega
theorem due_of {x y : List Nat} {d : Int} (hx : x.length ≤ 40) (hy : y.length ≤ 40) (hd : d = (D x y : Int)) (h1 : d ≤ 1000) : Due x y d := by
  refine ⟨hx, hy, by omega, h1, fun r hr => ?_, fun r hr => ?_⟩
  · rw [hd] at hr ⊢; exact lev_D hr
  · rw [hd, D_comm] at hr ⊢; exact lev_D hr

/- part TX -/
def codesOf (ns : List Int) : List Int := List.map (fun k' => k'.fmod 255) (List.take 4 ns) ++ [(ns.sum + 129).fmod 255, 72, 73]
theorem code_bound {ns : List Int} {k : Int} (h : k ∈ List.map (fun k' => Int.fmod k' 255) (List.take 4 ns) ++ [(ns.sum + 129).fmod 255, 72, 73]) : 0 ≤ k ∧ k < 255 := by
  have hf : ∀ x : Int, 0 ≤ x.fmod 255 ∧ x.fmod 255 < 255 := fun x => by
    rw [Int.fmod_eq_emod_of_nonneg _ (by decide)]; omega
  rcases List.mem_append.mp h with h | h
  · obtain ⟨x, _, rfl⟩ := List.mem_map.mp h
    exact hf x
  · simp only [List.mem_cons, List.not_mem_nil, or_false] at h
    rcases h with rfl | rfl | rfl
    · exact hf _
    · decide
    · decide
theorem code_lo {ns : List Int} {k : Int} (h : k ∈ List.map (fun k' => Int.fmod k' 255) (List.take 4 ns) ++ [(ns.sum + 129).fmod 255, 72, 73]) : 0 ≤ k := (code_bound h).1
theorem code_hi {ns : List Int} {k : Int} (h : k ∈ List.map (fun k' => Int.fmod k' 255) (List.take 4 ns) ++ [(ns.sum + 129).fmod 255, 72, 73]) : k ≤ 1114111 := by have := (code_bound h).2; omega
theorem codes_len (ns : List Int) : (List.map (fun k' => Int.fmod k' 255) (List.take 4 ns) ++ [(ns.sum + 129).fmod 255, 72, 73]).length ≤ 7 := by
  simp only [List.length_append, List.length_map, List.length_take, List.length_cons, List.length_nil]; omega
theorem join_flat : ∀ l : List Str, Txt.join (Str.ofString "") l = S (l.flatMap fun y => y.cps.toList)
  | [] => rfl
  | [y] => by
    show y = _
    simp [S]
  | y :: z :: r => by
    have ih := join_flat (z :: r)
    have e : Txt.join (Str.ofString "") (y :: z :: r) = y ++ Str.ofString "" ++ Txt.join (Str.ofString "") (z :: r) := by
      show Builtin.Str.glued _ _ = _
      rw [StrLaws.glued_eq_join]
      show y ++ Str.ofString "" ++ Str.join _ (z :: r) = _
      rw [← StrLaws.glued_eq_join]
      rfl
    rw [e, ih]
    refine Str.ext' ?_
    rw [Str.cps_append, Str.cps_append]
    refine Array.toList_inj.mp ?_
    have e0 : (Str.ofString "").cps = #[] := by decide
    rw [e0]
    simp [S]
section
variable {prog : Program} {w : World} {A : Around} {E : Value → Shared → Prop} {s : Shared} {t : Tok} {Q : Value → Shared → Prop} {α : Type} {D : Addr} {ys : List Value} {l : List α} {g : α → Str}
theorem join_S (hl : s.heap.IsList D ys.toArray) (hc : CarriedAll ys (l.map fun a => PyData.str (g a))) (hB : ∀ a ∈ l, (g a).length ≤ 10) (hn : l.length ≤ 40)
    (h : ∀ t' k, Q (.str (S (l.flatMap fun a => (g a).cps.toList)) t') { s with toks := k }) : wpAny (model prog w) A (call (.builtin "str.join") [.str (Str.ofString "") t, .ref D]) Q E s := by
  refine KT.join_B 10 hl hc hB (by omega) (by decide) fun t' k => ?_
  rw [join_flat, List.flatMap_map]
  exact h t' k
end
/-- the text, the bare text, their pictures -/
def T (ns : List Int) : List Nat := (List.map (fun k' => Int.fmod k' 255) (List.take 4 ns) ++ [(ns.sum + 129).fmod 255, 72, 73]).map Int.toNat
def unL (c : Nat) : List Nat := (unS c).cps.toList
def lowN (c : Nat) : Nat := (low c).toNat
def bareOf (cs : List Nat) : List Nat := cs.map lowN
def unOf (cs : List Nat) : List Nat := cs.flatMap unL
theorem flat_low : ∀ cs : List Nat, cs.flatMap (fun (a : Nat) => (⟨#[(low a).toNat]⟩ : Str).cps.toList) = bareOf cs
  | [] => rfl
  | x :: r => by rw [List.flatMap_cons, flat_low r]; rfl
theorem T_lt {ns : List Int} {c : Nat} (h : c ∈ T ns) : c < 255 := by
  obtain ⟨k, hk, rfl⟩ := List.mem_map.mp h
  have := code_bound hk
  omega
theorem T_len (ns : List Int) : (T ns).length ≤ 7 := by
  unfold T; rw [List.length_map]; exact codes_len ns
theorem low_lt : ∀ c, c < 255 → lowN c < 128 := by decide +kernel
theorem un_len : ∀ c, c < 255 → (unS c).length ≤ 3 := by decide +kernel
theorem B_lt {ns : List Int} {c : Nat} (h : c ∈ bareOf (T ns)) : c < 255 := by
  obtain ⟨k, hk, rfl⟩ := List.mem_map.mp h
  have := low_lt k (T_lt hk)
  omega
theorem B_len (ns : List Int) : (bareOf (T ns)).length ≤ 7 := by unfold bareOf; rw [List.length_map]; exact T_len ns
theorem unOf_len : ∀ cs : List Nat, (∀ c ∈ cs, c < 255) → (unOf cs).length ≤ 3 * cs.length
  | [], _ => Nat.le_refl 0
  | c :: r, h => by
    have h1 := un_len c (h c (.head _))
    have h2 := unOf_len r fun x hx => h x (.tail _ hx)
    have h3 : (unS c).length = (unS c).cps.toList.length := rfl
    unfold unOf at h2 ⊢
    rw [List.flatMap_cons, List.length_append, List.length_cons]
    unfold unL
    unfold unL at h2
    omega
theorem T_40 (ns : List Int) : (S (T ns)).length ≤ 40 := by rw [S_len]; have := T_len ns; omega
theorem B_40 (ns : List Int) : (S (bareOf (T ns))).length ≤ 40 := by rw [S_len]; have := B_len ns; omega
theorem H_38 (ns : List Int) : (unOf (T ns)).length ≤ 21 := by have := unOf_len (T ns) (fun c h => T_lt h); have := T_len ns; omega
theorem P_38 (ns : List Int) : (unOf (bareOf (T ns))).length ≤ 21 := by have := unOf_len (bareOf (T ns)) (fun c h => B_lt h); have := B_len ns; omega
section
variable {prog : Program} {w : World} {A : Around} {E : Value → Shared → Prop} {s : Shared} {t : Tok} {Q : Value → Shared → Prop} {D : Addr} {ys : List Value} {ns : List Int} {cs : List Nat}
theorem join_T (hl : s.heap.IsList D ys.toArray) (hc : CarriedAll ys ((List.map (fun k' => Int.fmod k' 255) (List.take 4 ns) ++ [(ns.sum + 129).fmod 255, 72, 73]).map fun (a : Int) => PyData.str ⟨#[a.toNat]⟩))
    (h : ∀ t' k, Q (.str (S (T ns)) t') { s with toks := k }) : wpAny (model prog w) A (call (.builtin "str.join") [.str (Str.ofString "") t, .ref D]) Q E s := by
  refine join_S (g := fun (a : Int) => ⟨#[a.toNat]⟩) hl hc (fun a _ => Nat.le_of_ble_eq_true rfl) (Nat.le_trans (codes_len ns) (by decide)) fun t' k => ?_
  have e : (List.map (fun k' => Int.fmod k' 255) (List.take 4 ns) ++ [(ns.sum + 129).fmod 255, 72, 73]).flatMap (fun (a : Int) => (⟨#[a.toNat]⟩ : Str).cps.toList) = T ns := by
    unfold T
    generalize (List.map (fun k' => Int.fmod k' 255) (List.take 4 ns) ++ [(ns.sum + 129).fmod 255, 72, 73]) = l
    induction l with
    | nil => rfl
    | cons x r ih => rw [List.flatMap_cons, ih]; rfl
  rw [e]; exact h t' k
theorem join_B (hl : s.heap.IsList D ys.toArray) (hc : CarriedAll ys (cs.map fun (a : Nat) => PyData.str ⟨#[(low a).toNat]⟩)) (h7 : cs.length ≤ 7)
    (h : ∀ t' k, Q (.str (S (bareOf cs)) t') { s with toks := k }) : wpAny (model prog w) A (call (.builtin "str.join") [.str (Str.ofString "") t, .ref D]) Q E s := by
  refine join_S (g := fun (a : Nat) => ⟨#[(low a).toNat]⟩) hl hc (fun a _ => Nat.le_of_ble_eq_true rfl) (by omega) fun t' k => ?_
  rw [flat_low]; exact h t' k
theorem join_U (hl : s.heap.IsList D ys.toArray) (hc : CarriedAll ys (cs.map fun (a : Nat) => PyData.str (unS a))) (h7 : cs.length ≤ 7) (hb : ∀ c ∈ cs, c < 255)
    (h : ∀ t' k, Q (.str (S (unOf cs)) t') { s with toks := k }) : wpAny (model prog w) A (call (.builtin "str.join") [.str (Str.ofString "") t, .ref D]) Q E s :=
  join_S (g := fun (a : Nat) => unS a) hl hc (fun a ha => Nat.le_trans (un_len a (hb a ha)) (by decide)) (by omega) h
end
def cnt (f : Int → Bool) (ns : List Int) : Nat := (List.filter f (List.map (fun k' => Int.fmod k' 255) (List.take 4 ns) ++ [(ns.sum + 129).fmod 255, 72, 73])).length
theorem cnt_le (f : Int → Bool) (ns : List Int) : cnt f ns ≤ 7 := Nat.le_trans (List.length_filter_le _ _) (codes_len ns)
section
variable {prog : Program} {w : World} {A : Around} {E : Value → Shared → Prop} {s : Shared} {Q : Value → Shared → Prop} {D : Addr} {ys : List Value} {ns : List Int} {f : Int → Bool}
theorem len_cnt (hl : s.heap.IsList D ys.toArray) (hc : CarriedAll ys (List.map PyData.int (List.filter f (List.map (fun k' => Int.fmod k' 255) (List.take 4 ns) ++ [(ns.sum + 129).fmod 255, 72, 73]))))
    (h : cnt f ns ≤ 7 → Q (.int (cnt f ns : Int) (s.toks + 1)) { s with toks := s.toks + 1 + 1 }) : wpAny (model prog w) A (call (.builtin "len") [.ref D]) Q E s := by
  have e : ys.toArray.size = cnt f ns := by
    rw [List.size_toArray, hc.length_eq, List.length_map]; rfl
  have h7 := cnt_le f ns
  refine len_list hl (by rw [e]; omega) ?_
  rw [e]; exact h h7
end
section
variable {g h : Heap} {L : Addr} {x1 x2 x3 x4 x5 x6 x7 x8 : Str} {v1 v2 v3 v4 v5 v6 v7 v8 : Value} {l : List (Str × Value)}
theorem fr8' (F : Fr g L h (fun q => if q = x1 then some v1 else if q = x2 then some v2 else if q = x3 then some v3 else if q = x4 then some v4 else if q = x5 then some v5 else if q = x6 then some v6 else if q = x7 then some v7 else if q = x8 then some v8 else mp l q)) :
    Fr g L h (mp ((x1, v1) :: (x2, v2) :: (x3, v3) :: (x4, v4) :: (x5, v5) :: (x6, v6) :: (x7, v7) :: (x8, v8) :: l)) := by
  refine fr_eqm F fun q => ?_
  rw [← mp_cons, ← mp_cons, ← mp_cons, ← mp_cons, ← mp_cons, ← mp_cons, ← mp_cons, ← mp_cons]
end
def fp : Int → Bool := fun a => decide (160 ≤ a)
def fc : Int → Bool := fun a => if a < 32 then true else if (a == 127) = true then true else false
def fm : Int → Bool := fun a => if 128 ≤ a then decide (a < 160) else false

theorem H_40 (ns : List Int) : (S (unOf (T ns))).length ≤ 40 := by rw [S_len]; have := H_38 ns; omega
theorem P_40 (ns : List Int) : (S (unOf (bareOf (T ns)))).length ≤ 40 := by rw [S_len]; have := P_38 ns; omega

/- part PL2 -/
def ip (c : Nat) : Nat := if 160 ≤ c then 1 else 0
def ic (c : Nat) : Nat := if c < 32 ∨ c = 127 then 1 else 0
def im (c : Nat) : Nat := if 128 ≤ c ∧ c < 160 then 1 else 0
def K1 (c : Nat) : Bool := decide (128 ≤ c)
def K2 (c : Nat) : Bool := decide (128 ≤ c) || decide (c < 32) || decide (c = 127)
def KI (c : Nat) : Bool := decide (c = 73) || decide (c = 105)
def KN (c : Nat) : Bool := decide (c = 10)
def lo (c : Nat) : Nat := (Txt.lower ⟨#[c]⟩).cps.getD 0 0
theorem lo_K : ∀ c, c < 255 → K1 (lo c) = K1 c ∧ K2 (lo c) = K2 c ∧ KI (lo c) = KI c ∧ KN (lo c) = KN c := by decide +kernel
theorem costs : ∀ c, c < 255 → D [c] [lowN c] ≤ 0 + 2 * ip c + 0 * ic c + 2 * im c ∧ D (unL c) (unL (lowN c)) ≤ 0 + 2 * ip c + 0 * ic c + 2 * im c ∧ D [c] (unL c) ≤ 0 + 4 * ip c + 4 * ic c + 6 * im c ∧
    D [lowN c] (unL (lowN c)) ≤ 0 + 0 * ip c + 4 * ic c + 4 * im c ∧ D [c] (unL (lowN c)) ≤ 0 + 2 * ip c + 4 * ic c + 4 * im c ∧ D [lowN c] (unL c) ≤ 0 + 2 * ip c + 4 * ic c + 6 * im c := by decide +kernel
theorem lens : ∀ c, c < 255 → (unL c).length = 1 + 1 * ip c + 1 * ic c + 2 * im c ∧ (unL (lowN c)).length = 1 + 0 * ip c + 1 * ic c + 1 * im c := by decide +kernel
theorem marks : ∀ c, c < 255 → [c].countP K1 = 0 + 1 * ip c + 0 * ic c + 1 * im c ∧ [lowN c].countP K1 = 0 + 0 * ip c + 0 * ic c + 0 * im c ∧ [c].countP K2 = 0 + 1 * ip c + 1 * ic c + 1 * im c ∧
    [lowN c].countP K2 = 0 + 0 * ip c + 1 * ic c + 1 * im c ∧ (unL c).countP K2 = 0 + 0 * ip c + 0 * ic c + 0 * im c ∧ (unL (lowN c)).countP K2 = 0 + 0 * ip c + 0 * ic c + 0 * im c ∧
    (unL c).countP KI = (unL (lowN c)).countP KI := by decide +kernel
theorem signs : ∀ c, c < 255 → (∀ x ∈ unL c, x < 127 ∧ K2 x = false) ∧ (∀ x ∈ unL (lowN c), x < 127 ∧ K2 x = false) := by decide +kernel
theorem sb_two {K : Nat → Bool} (hK : ∀ c, c < 255 → K (lo c) = K c) {x y : Nat} (hx : x < 255) (hy : y < 255) (h1 : K y = true) (h2 : K x = false) : sb x y = 2 := by
  unfold sb
  rw [if_neg (fun e => by rw [e, h1] at h2; cases h2), if_neg]
  intro e
  have e2 : lo x = lo y := by unfold lo; rw [e]
  rw [← hK x hx, e2, hK y hy, h1] at h2
  cases h2
def sm (f : Nat → Nat) (cs : List Nat) : Nat := (cs.map f).sum
theorem sm_cons (f : Nat → Nat) (c : Nat) (cs : List Nat) : sm f (c :: cs) = f c + sm f cs := by unfold sm; rw [List.map_cons, List.sum_cons]
theorem sm_lin {f : Nat → Nat} {a0 a1 a2 a3 : Nat} : ∀ cs : List Nat, (∀ c ∈ cs, f c = a0 + a1 * ip c + a2 * ic c + a3 * im c) → sm f cs = a0 * cs.length + a1 * sm ip cs + a2 * sm ic cs + a3 * sm im cs
  | [], _ => by simp [sm]
  | c :: cs, h => by
    rw [sm_cons, sm_cons, sm_cons, sm_cons, sm_lin cs fun x hx => h x (.tail _ hx), h c (.head _), List.length_cons, Nat.mul_add, Nat.mul_add, Nat.mul_add, Nat.mul_add]
    omega
theorem len_flat (f : Nat → List Nat) : ∀ cs : List Nat, (cs.flatMap f).length = sm (fun c => (f c).length) cs
  | [] => rfl
  | c :: cs => by rw [List.flatMap_cons, List.length_append, sm_cons, len_flat f cs]
theorem count_flat (K : Nat → Bool) (f : Nat → List Nat) : ∀ cs : List Nat, (cs.flatMap f).countP K = sm (fun c => (f c).countP K) cs
  | [] => rfl
  | c :: cs => by rw [List.flatMap_cons, List.countP_append, sm_cons, count_flat K f cs]
theorem D_app (a b a' b' : List Nat) : D (a ++ a') (b ++ b') ≤ D a b + D a' b' := D_le (al_app (al_D a b) (al_D a' b'))
theorem D_flat {f g : Nat → List Nat} {cost : Nat → Nat} : ∀ cs : List Nat, (∀ c ∈ cs, D (f c) (g c) ≤ cost c) → D (cs.flatMap f) (cs.flatMap g) ≤ sm cost cs
  | [], _ => Nat.le_refl 0
  | c :: cs, h => by
    rw [List.flatMap_cons, List.flatMap_cons, sm_cons]
    have h1 := D_app (f c) (g c) (cs.flatMap f) (cs.flatMap g)
    have h2 := h c (.head _)
    have h3 := D_flat (f := f) (g := g) (cost := cost) cs fun x hx => h x (.tail _ hx)
    omega
theorem flat_self : ∀ cs : List Nat, cs.flatMap (fun c => [c]) = cs
  | [] => rfl
  | c :: cs => by rw [List.flatMap_cons, flat_self cs]; rfl
theorem flat_bare : ∀ cs : List Nat, cs.flatMap (fun c => [lowN c]) = bareOf cs
  | [] => rfl
  | c :: cs => by rw [List.flatMap_cons, flat_bare cs]; rfl
theorem flat_plain : ∀ cs : List Nat, cs.flatMap (fun c => unL (lowN c)) = unOf (bareOf cs)
  | [] => rfl
  | c :: cs => by rw [List.flatMap_cons, flat_plain cs]; rfl
section
variable {cs : List Nat}
theorem b_len : (bareOf cs).length = cs.length := by unfold bareOf; rw [List.length_map]
theorem sh_len (h : ∀ c ∈ cs, c < 255) : (unOf cs).length = 1 * cs.length + 1 * sm ip cs + 1 * sm ic cs + 2 * sm im cs := by
  unfold unOf; rw [len_flat]; exact sm_lin cs fun c hc => (lens c (h c hc)).1
theorem pl_len (h : ∀ c ∈ cs, c < 255) : (unOf (bareOf cs)).length = 1 * cs.length + 0 * sm ip cs + 1 * sm ic cs + 1 * sm im cs := by
  rw [← flat_plain, len_flat]; exact sm_lin cs fun c hc => (lens c (h c hc)).2
theorem t_K1 (h : ∀ c ∈ cs, c < 255) : cs.countP K1 = 0 * cs.length + 1 * sm ip cs + 0 * sm ic cs + 1 * sm im cs := by
  have e := count_flat K1 (fun c => [c]) cs
  rw [flat_self] at e
  rw [e]; exact sm_lin cs fun c hc => (marks c (h c hc)).1
theorem b_K1 (h : ∀ c ∈ cs, c < 255) : (bareOf cs).countP K1 = 0 * cs.length + 0 * sm ip cs + 0 * sm ic cs + 0 * sm im cs := by
  rw [← flat_bare, count_flat]; exact sm_lin cs fun c hc => (marks c (h c hc)).2.1
theorem t_K2 (h : ∀ c ∈ cs, c < 255) : cs.countP K2 = 0 * cs.length + 1 * sm ip cs + 1 * sm ic cs + 1 * sm im cs := by
  have e := count_flat K2 (fun c => [c]) cs
  rw [flat_self] at e
  rw [e]; exact sm_lin cs fun c hc => (marks c (h c hc)).2.2.1
theorem b_K2 (h : ∀ c ∈ cs, c < 255) : (bareOf cs).countP K2 = 0 * cs.length + 0 * sm ip cs + 1 * sm ic cs + 1 * sm im cs := by
  rw [← flat_bare, count_flat]; exact sm_lin cs fun c hc => (marks c (h c hc)).2.2.2.1
theorem s_K2 (h : ∀ c ∈ cs, c < 255) : (unOf cs).countP K2 = 0 * cs.length + 0 * sm ip cs + 0 * sm ic cs + 0 * sm im cs := by
  unfold unOf; rw [count_flat]; exact sm_lin cs fun c hc => (marks c (h c hc)).2.2.2.2.1
theorem p_K2 (h : ∀ c ∈ cs, c < 255) : (unOf (bareOf cs)).countP K2 = 0 * cs.length + 0 * sm ip cs + 0 * sm ic cs + 0 * sm im cs := by
  rw [← flat_plain, count_flat]; exact sm_lin cs fun c hc => (marks c (h c hc)).2.2.2.2.2.1
theorem sp_KI (h : ∀ c ∈ cs, c < 255) : (unOf cs).countP KI = (unOf (bareOf cs)).countP KI := by
  rw [← flat_plain]; unfold unOf; rw [count_flat, count_flat]
  unfold sm
  exact congrArg List.sum (List.map_congr_left fun c hc => (marks c (h c hc)).2.2.2.2.2.2)
theorem s_sign (h : ∀ c ∈ cs, c < 255) {x : Nat} (hx : x ∈ unOf cs) : x < 255 ∧ K2 x = false := by
  obtain ⟨c, hc, hx⟩ := List.mem_flatMap.mp hx
  have := (signs c (h c hc)).1 x hx
  exact ⟨by omega, this.2⟩
theorem b_lt (h : ∀ c ∈ cs, c < 255) {x : Nat} (hx : x ∈ bareOf cs) : x < 255 := by
  obtain ⟨c, hc, rfl⟩ := List.mem_map.mp hx
  have := low_lt c (h c hc); omega
theorem p_sign (h : ∀ c ∈ cs, c < 255) {x : Nat} (hx : x ∈ unOf (bareOf cs)) : x < 255 ∧ K2 x = false := by
  rw [← flat_plain] at hx
  obtain ⟨c, hc, hx⟩ := List.mem_flatMap.mp hx
  have := (signs c (h c hc)).2 x hx
  exact ⟨by omega, this.2⟩
theorem low2 {a b : List Nat} {K : Nat → Bool} (hK : ∀ c, c < 255 → K (lo c) = K c) (ha : ∀ x ∈ a, x < 255) (hb : ∀ x ∈ b, x < 255) : 2 * a.length + 2 * b.countP K ≤ D b a + 2 * b.length + 2 * a.countP K := by
  rw [D_comm]
  exact D_class K a b fun x hx y hy h1 h2 => sb_two hK (ha x hx) (hb y hy) h1 h2
theorem d_1 (h : ∀ c ∈ cs, c < 255) : D cs (bareOf cs) = 2 * sm ip cs + 2 * sm im cs := by
  have u := D_flat (f := fun c => [c]) (g := fun c => [lowN c]) (cost := fun c => 0 + 2 * ip c + 0 * ic c + 2 * im c) cs fun c hc => (costs c (h c hc)).1
  rw [flat_self, flat_bare, sm_lin cs fun c _ => rfl] at u
  have l := low2 (a := bareOf cs) (b := cs) (fun c hc => (lo_K c hc).1) (fun x hx => b_lt h hx) h
  rw [b_len, t_K1 h, b_K1 h] at l
  omega
theorem d_2 (h : ∀ c ∈ cs, c < 255) : D (unOf cs) (unOf (bareOf cs)) = 2 * sm ip cs + 2 * sm im cs := by
  have u := D_flat (f := unL) (g := fun c => unL (lowN c)) (cost := fun c => 0 + 2 * ip c + 0 * ic c + 2 * im c) cs fun c hc => (costs c (h c hc)).2.1
  rw [flat_plain, sm_lin cs fun c _ => rfl] at u
  have u : D (unOf cs) (unOf (bareOf cs)) ≤ _ := u
  have l := D_len (unOf cs) (unOf (bareOf cs))
  rw [sh_len h, pl_len h] at l
  omega
theorem d_3 (h : ∀ c ∈ cs, c < 255) : D cs (unOf cs) = 4 * sm ip cs + 4 * sm ic cs + 6 * sm im cs := by
  have u := D_flat (f := fun c => [c]) (g := unL) (cost := fun c => 0 + 4 * ip c + 4 * ic c + 6 * im c) cs fun c hc => (costs c (h c hc)).2.2.1
  rw [flat_self, sm_lin cs fun c _ => rfl] at u
  have u : D cs (unOf cs) ≤ _ := u
  have l := low2 (a := unOf cs) (b := cs) (fun c hc => (lo_K c hc).2.1) (fun x hx => (s_sign h hx).1) h
  rw [sh_len h, t_K2 h, s_K2 h] at l
  omega
theorem d_4 (h : ∀ c ∈ cs, c < 255) : D (bareOf cs) (unOf (bareOf cs)) = 4 * sm ic cs + 4 * sm im cs := by
  have u := D_flat (f := fun c => [lowN c]) (g := fun c => unL (lowN c)) (cost := fun c => 0 + 0 * ip c + 4 * ic c + 4 * im c) cs fun c hc => (costs c (h c hc)).2.2.2.1
  rw [flat_bare, flat_plain, sm_lin cs fun c _ => rfl] at u
  have l := low2 (a := unOf (bareOf cs)) (b := bareOf cs) (fun c hc => (lo_K c hc).2.1) (fun x hx => (p_sign h hx).1) (fun x hx => b_lt h hx)
  rw [pl_len h, b_len, b_K2 h, p_K2 h] at l
  omega
theorem d_5 (h : ∀ c ∈ cs, c < 255) : D cs (unOf (bareOf cs)) = 2 * sm ip cs + 4 * sm ic cs + 4 * sm im cs := by
  have u := D_flat (f := fun c => [c]) (g := fun c => unL (lowN c)) (cost := fun c => 0 + 2 * ip c + 4 * ic c + 4 * im c) cs fun c hc => (costs c (h c hc)).2.2.2.2.1
  rw [flat_self, flat_plain, sm_lin cs fun c _ => rfl] at u
  have l := low2 (a := unOf (bareOf cs)) (b := cs) (fun c hc => (lo_K c hc).2.1) (fun x hx => (p_sign h hx).1) h
  rw [pl_len h, t_K2 h, p_K2 h] at l
  omega
theorem d_6 (h : ∀ c ∈ cs, c < 255) : D (bareOf cs) (unOf cs) = 2 * sm ip cs + 4 * sm ic cs + 6 * sm im cs := by
  have u := D_flat (f := fun c => [lowN c]) (g := unL) (cost := fun c => 0 + 2 * ip c + 4 * ic c + 6 * im c) cs fun c hc => (costs c (h c hc)).2.2.2.2.2
  rw [flat_bare, sm_lin cs fun c _ => rfl] at u
  have u : D (bareOf cs) (unOf cs) ≤ _ := u
  have l := low2 (a := unOf cs) (b := bareOf cs) (fun c hc => (lo_K c hc).2.1) (fun x hx => (s_sign h hx).1) (fun x hx => b_lt h hx)
  rw [sh_len h, b_len, b_K2 h, s_K2 h] at l
  omega
end
/-- a line end goes from the front to the back -/
theorem seven {A B : List Nat} {d : Nat} (hl : A.length = B.length + d) (hB1 : 1 ≤ B.length) (hA : ∀ x ∈ A, x < 255 ∧ K2 x = false) (hB : ∀ x ∈ B, x < 255 ∧ K2 x = false) (hI : A.countP KI = B.countP KI)
    (hlast : ∀ A1 A2, A = A1 ++ A2 → A2 ≠ [] → 1 ≤ A2.countP KI) : 2 * d + 4 ≤ D (10 :: A) (B ++ [10]) := by
  have n10 : ∀ {l : List Nat}, (∀ x ∈ l, x < 255 ∧ K2 x = false) → l.countP KN = 0 := fun {l} h => by
    rw [List.countP_eq_zero]
    intro x hx e
    have e : x = 10 := by simpa [KN] using e
    have := (h x hx).2
    rw [e] at this; cases this
  have ten : ∀ {l : List Nat} {c : Nat}, (∀ x ∈ l, x < 255 ∧ K2 x = false) → Al l [10] c → 2 * l.length ≤ c ∧ 2 ≤ c + 2 * l.length := fun {l c} h a => by
    have h1 := al_class KN a fun x hx y hy e1 e2 => sb_two (fun c hc => (lo_K c hc).2.2.2) (h x hx).1 (by rw [List.mem_singleton.mp hy]; decide) e1 e2
    rw [n10 h] at h1
    have h2 := al_class (fun _ => false) (al_symm a) fun x hx y hy e1 e2 => by cases e1
    have e : [10].countP KN = 1 := by decide
    rw [e] at h1
    have e0 : ∀ l : List Nat, l.countP (fun _ => false) = 0 := fun l => by simp
    rw [e0, e0] at h2
    simp only [List.length_cons, List.length_nil] at h1 h2
    omega
  have h := al_symm (al_D (10 :: A) (B ++ [10]))
  obtain ⟨r1, r2, c1, c2, e, a1, a2, ec⟩ := al_split h [10] A rfl
  rw [ec]
  have h10 : ∀ l : List Nat, l.countP (fun _ => false) = 0 := fun l => by simp
  rcases List.eq_nil_or_concat r2 with rfl | ⟨B2, z, rfl⟩
  · rw [List.append_nil] at e
    subst e
    have h1 := D_len (B ++ [10]) [10]
    have h2 := D_le a1
    have h3 := D_le a2
    rw [D_nil] at h3
    rw [List.length_append] at h1
    simp only [List.length_cons, List.length_nil] at h1
    omega
  · rw [List.concat_eq_append, ← List.append_assoc] at e
    obtain ⟨rfl, ez⟩ := List.append_inj' e rfl
    have ez : z = 10 := by simpa using ez.symm
    subst ez
    rw [List.concat_eq_append] at a2
    obtain ⟨A1, A2, c3, c4, rfl, a3, a4, rfl⟩ := al_split (al_symm a2) B2 [10] rfl
    have hr1 : ∀ x ∈ r1, x < 255 ∧ K2 x = false := fun x hx => hB x (List.mem_append_left _ hx)
    have hB2 : ∀ x ∈ B2, x < 255 ∧ K2 x = false := fun x hx => hB x (List.mem_append_right _ hx)
    have hA1 : ∀ x ∈ A1, x < 255 ∧ K2 x = false := fun x hx => hA x (List.mem_append_left _ hx)
    have hA2 : ∀ x ∈ A2, x < 255 ∧ K2 x = false := fun x hx => hA x (List.mem_append_right _ hx)
    have t1 := ten hr1 a1
    have t2 := ten hA2 a4
    have t3 := al_class (fun _ => false) a3 fun x hx y hy e1 e2 => by cases e1
    rw [h10, h10] at t3
    have t4 := al_class KI a3 fun x hx y hy e1 e2 => sb_two (fun c hc => (lo_K c hc).2.2.1) (hA1 x hx).1 (hB2 y hy).1 e1 e2
    rw [List.length_append, List.length_append] at hl
    rw [List.countP_append, List.countP_append] at hI
    rw [List.length_append] at hB1
    by_cases hz : A2 = []
    · subst hz
      simp only [List.length_nil] at *
      omega
    · have t5 := hlast A1 A2 rfl hz
      have hA2l : 0 < A2.length := List.length_pos_iff.mpr hz
      by_cases hr : r1 = []
      · subst hr
        simp only [List.length_nil, List.countP_nil] at *
        omega
      · have hrl : 0 < r1.length := List.length_pos_iff.mpr hr
        omega
theorem T_end (ns : List Int) : ∃ cs, T ns = cs ++ [73] := ⟨(List.map (fun k' => Int.fmod k' 255) (List.take 4 ns) ++ [(ns.sum + 129).fmod 255, 72]).map Int.toNat, by
  unfold T
  rw [List.map_append, List.map_append, List.append_assoc]
  rfl⟩
theorem d_7 (ns : List Int) : D (10 :: unOf (T ns)) (unOf (bareOf (T ns)) ++ [10]) = 2 * sm ip (T ns) + 2 * sm im (T ns) + 4 := by
  have h : ∀ c ∈ T ns, c < 255 := fun c hc => T_lt hc
  refine Nat.le_antisymm ?_ ?_
  · have u1 := D_app [10] [] (unOf (T ns)) (unOf (bareOf (T ns)) ++ [10])
    have u2 := D_app (unOf (T ns)) (unOf (bareOf (T ns))) [] [10]
    rw [List.append_nil] at u2
    have e1 : D [10] [] = 2 := rfl
    have e2 : D [] [10] = 2 := rfl
    rw [e1, List.nil_append] at u1
    rw [e2, d_2 h] at u2
    have u1 : D (10 :: unOf (T ns)) (unOf (bareOf (T ns)) ++ [10]) ≤ _ := u1
    omega
  · obtain ⟨cs, e⟩ := T_end ns
    have := seven (A := unOf (T ns)) (B := unOf (bareOf (T ns))) (d := sm ip (T ns) + sm im (T ns)) (by rw [sh_len h, pl_len h]; omega) (by rw [pl_len h, e, List.length_append]; simp only [List.length_cons, List.length_nil]; omega)
      (fun x hx => s_sign h hx) (fun x hx => p_sign h hx) (sp_KI h) (fun A1 A2 ea hne => by
        have es : unOf (T ns) = unOf cs ++ [73] := by rw [e]; unfold unOf; rw [List.flatMap_append]; rfl
        rcases List.eq_nil_or_concat A2 with rfl | ⟨A3, z, rfl⟩
        · exact absurd rfl hne
        · rw [es, List.concat_eq_append, ← List.append_assoc] at ea
          obtain ⟨_, ez⟩ := List.append_inj' ea rfl
          have ez : z = 73 := by simpa using ez.symm
          rw [ez, List.concat_eq_append, List.countP_append]
          have e1 : [73].countP KI = 1 := by decide
          omega)
    omega
theorem cnt_sm {f : Int → Bool} {g : Nat → Nat} (hfg : ∀ k : Int, 0 ≤ k → (if f k = true then 1 else 0) = g k.toNat) (ns : List Int) : cnt f ns = sm g (T ns) := by
  unfold cnt T
  have hb : ∀ k ∈ (List.map (fun k' => Int.fmod k' 255) (List.take 4 ns) ++ [(ns.sum + 129).fmod 255, 72, 73]), 0 ≤ k := fun k hk => code_lo hk
  generalize (List.map (fun k' => Int.fmod k' 255) (List.take 4 ns) ++ [(ns.sum + 129).fmod 255, 72, 73]) = l at hb
  induction l with
  | nil => rfl
  | cons k l ih =>
    have h1 := hfg k (hb k (.head _))
    have h2 := ih fun x hx => hb x (.tail _ hx)
    rw [List.map_cons, sm_cons, ← h2, ← h1, List.filter_cons]
    split
    · rw [List.length_cons]; omega
    · omega
theorem cnt_p (ns : List Int) : cnt fp ns = sm ip (T ns) := cnt_sm (fun k hk => by
  unfold fp ip
  by_cases h : (160 : Int) ≤ k
  · rw [if_pos (by simpa using h), if_pos (by omega)]
  · rw [if_neg (by simpa using h), if_neg (by omega)]) ns
theorem cnt_c (ns : List Int) : cnt fc ns = sm ic (T ns) := cnt_sm (fun k hk => by
  unfold fc ic
  by_cases h : k < 32
  · rw [if_pos h, if_pos rfl, if_pos (by omega)]
  · rw [if_neg h]
    by_cases h2 : k = 127
    · subst h2; rfl
    · have e : (k == 127) = false := beq_false_of_ne h2
      rw [e]
      simp only [Bool.false_eq_true, if_false]
      rw [if_neg (by omega)]) ns
theorem cnt_m (ns : List Int) : cnt fm ns = sm im (T ns) := cnt_sm (fun k hk => by
  unfold fm im
  by_cases h : (128 : Int) ≤ k
  · rw [if_pos h]
    by_cases h2 : k < 160
    · rw [if_pos (by simpa using h2), if_pos (by omega)]
    · rw [if_neg (by simpa using h2), if_neg (by omega)]
  · rw [if_neg h, if_neg (by decide), if_neg (by omega)]) ns
theorem due_all (ns : List Int) :
    Due (T ns) (bareOf (T ns)) (2 * (cnt fp ns : Int) + 2 * (cnt fm ns : Int)) ∧ Due (unOf (T ns)) (unOf (bareOf (T ns))) (2 * (cnt fp ns : Int) + 2 * (cnt fm ns : Int)) ∧
    Due (T ns) (unOf (T ns)) (4 * (cnt fp ns : Int) + 4 * (cnt fc ns : Int) + 6 * (cnt fm ns : Int)) ∧ Due (bareOf (T ns)) (unOf (bareOf (T ns))) (4 * (cnt fc ns : Int) + 4 * (cnt fm ns : Int)) ∧
    Due (T ns) (unOf (bareOf (T ns))) (2 * (cnt fp ns : Int) + 4 * (cnt fc ns : Int) + 4 * (cnt fm ns : Int)) ∧ Due (bareOf (T ns)) (unOf (T ns)) (2 * (cnt fp ns : Int) + 4 * (cnt fc ns : Int) + 6 * (cnt fm ns : Int)) ∧
    Due (10 :: unOf (T ns)) (unOf (bareOf (T ns)) ++ [10]) (2 * (cnt fp ns : Int) + 2 * (cnt fm ns : Int) + 4) := by
  have h : ∀ c ∈ T ns, c < 255 := fun c hc => T_lt hc
  have l1 := T_len ns
  have l2 := B_len ns
  have l3 := H_38 ns
  have l4 := P_38 ns
  have c1 := cnt_le fp ns
  have c2 := cnt_le fc ns
  have c3 := cnt_le fm ns
  refine ⟨due_of (by omega) (by omega) ?_ (by omega), due_of (by omega) (by omega) ?_ (by omega), due_of (by omega) (by omega) ?_ (by omega), due_of (by omega) (by omega) ?_ (by omega), due_of (by omega) (by omega) ?_ (by omega),
    due_of (by omega) (by omega) ?_ (by omega), due_of (by rw [List.length_cons]; omega) (by rw [List.length_append, List.length_singleton]; omega) ?_ (by omega)⟩
  · rw [d_1 h, cnt_p, cnt_m]; omega
  · rw [d_2 h, cnt_p, cnt_m]; omega
  · rw [d_3 h, cnt_p, cnt_c, cnt_m]; omega
  · rw [d_4 h, cnt_c, cnt_m]; omega
  · rw [d_5 h, cnt_p, cnt_c, cnt_m]; omega
  · rw [d_6 h, cnt_p, cnt_c, cnt_m]; omega
  · rw [d_7 ns, cnt_p, cnt_m]; omega

/- part W -/
local macro_rules | `(tactic| walk_at "call builtin:len") => `(tactic| (k_here; (with_reducible show wpAny _ _ (call (Value.builtin "len") [Value.ref _]) _ _ _); (refine len_cnt (by assumption) (by assumption) ?_); intro hcnt'))
local macro_rules | `(tactic| walk_at "CompEnd") => `(tactic| (refine LCg.CompEnd.intro (by assumption) (by assumption) _ (fun p hp => hp) (by assumption) (by first | exact trivial | exact Or.inr ⟨_, by k_mem, rfl, _, rfl⟩) ⟨rfl, _, rfl⟩))
local macro_rules | `(tactic| walk_at "call builtin:chr") => `(tactic| (k_here; (with_reducible show wpAny _ _ (call (Value.builtin "chr") [Value.int _ _]) _ _ _); (refine chr_of_range (code_lo (by assumption)) (code_hi (by assumption)) ?_)))
local macro_rules | `(tactic| walk_at "call builtin:str.join") => `(tactic| (k_here; (with_reducible show wpAny _ _ (call (Value.builtin "str.join") [Value.str _ _, Value.ref _]) _ _ _); (with_reducible rename CarriedAll _ (List.map _ _) => ktC); first
  | (refine join_T (by first | assumption | is_list | exact News.isList (by k_asm) (by k_mem)) ktC ?_; intro _ _)
  | (refine join_B (by first | assumption | is_list | exact News.isList (by k_asm) (by k_mem)) ktC (T_len _) ?_; intro _ _)
  | (refine join_U (by first | assumption | is_list | exact News.isList (by k_asm) (by k_mem)) ktC (T_len _) (fun c h => T_lt h) ?_; intro _ _)
  | (refine join_U (by first | assumption | is_list | exact News.isList (by k_asm) (by k_mem)) ktC (B_len _) (fun c h => B_lt h) ?_; intro _ _)))
local macro_rules | `(tactic| walk_at "eval ListComp") => `(tactic| (k_here; (with_reducible show wpAny _ _ (eval (Expr.ListComp (Expr.Call (Expr.Name (Str.ofString "chr") _) _ _ _) _ _ _) _) _ _ _); k_dflt (refine LCg.ListComp_U (F₀ := by k_asm) (by with_unfolding_all rfl) (by decide) (by rfl) (by decide) (by rfl) ?_)))
local macro_rules | `(tactic| walk_at "eval ListComp") => `(tactic| (k_here; (first | (with_reducible show wpAny _ _ (eval (Expr.ListComp (Expr.Call (Expr.Name (Str.ofString "unctrl") _) _ _ _) _ _ _) _) _ _ _) | (with_reducible show wpAny _ _ (eval (Expr.ListComp (Expr.Call (Expr.Name (Str.ofString "ascii_ascii") _) _ _ _) _ _ _) _) _ _ _)); k_dflt (refine ListComp_S (F₀ := by k_asm) (by with_unfolding_all rfl) (by decide) (by rfl) (by decide) (by rfl) ?_)))
local macro_rules | `(tactic| walk_at "CompSrc") => `(tactic| (k_here; (with_unfolding_all show LCg.CompSrc _ _ _ _ _ _ _ (Expr.Call (Expr.Name (Str.ofString "chr") _) _ _ _) _ _ _ _ _ _); k_dflt (refine LCg.CompSrc.ledger (by rfl) (by k_asm) (by k_asm) (by k_mem) (by size_fits) ?_; intro g'; (refine' kct_list (fun (k : Int) => ⟨#[k.toNat]⟩) (by assumption) (fun k' t' I' oI' C' oC' D' m' ys' h' tk' E' hk' hC' hx' F' N' off' ne' hMark' => ?_) (fun ys' hC' hL' => ?_)); (all_goals (try (have off0' := off')));  (all_goals (try (simp only [LCg.Off3, and_true] at off')));  (all_goals (try k_fold)))))
local macro_rules | `(tactic| walk_at "TxSrc") => `(tactic| (k_here; (with_unfolding_all show TxSrc _ _ _ _ _ _ _ (Expr.Call (Expr.Name (Str.ofString "ascii_ascii") _) _ _ _) _ _ _ _ _ _); k_dflt (refine ⟨_, _, _, rfl, rfl, by k_asm, by k_asm, T_40 _, ?_⟩; (intro s₂' hs2'; obtain ⟨g', e'⟩ := hs2'; subst e'); (refine tx_list (fun c => ⟨#[(low c).toNat]⟩) (fun c' t' I' oI' C' oC' D' m' ys' h' tk' E' hk' hC' hx' F' N' off' ne' hMark' => ?_) (fun ys' hC' => ?_)); (all_goals (try (have hcb' := T_lt hk'))); (all_goals (try (have off0' := off')));  (all_goals (try (simp only [LCg.Off3, and_true] at off'))); (all_goals (try k_fold)))))
local macro_rules | `(tactic| walk_at "TxSrc") => `(tactic| (k_here; (with_unfolding_all show TxSrc _ _ _ _ _ _ _ (Expr.Call (Expr.Name (Str.ofString "unctrl") _) _ _ _) _ _ _ _ _ _); k_dflt ((first | (refine ⟨_, _, _, rfl, rfl, by k_asm, by k_asm, T_40 _, ?_⟩) | (refine ⟨_, _, _, rfl, rfl, by k_asm, by k_asm, B_40 _, ?_⟩)); (intro s₂' hs2'; obtain ⟨g', e'⟩ := hs2'; subst e'); (refine tx_list (fun c => unS c) (fun c' t' I' oI' C' oC' D' m' ys' h' tk' E' hk' hC' hx' F' N' off' ne' hMark' => ?_) (fun ys' hC' => ?_)); (all_goals (try (first | have hcb' := T_lt hk' | have hcb' := B_lt hk'))); (all_goals (try (have off0' := off')));  (all_goals (try (simp only [LCg.Off3, and_true] at off'))); (all_goals (try k_fold)))))
local macro_rules | `(tactic| walk_at "call ref") => `(tactic| (k_here; (with_reducible show wpAny _ _ (call (Value.ref 49) _) _ _ _); (k_dflt refine' TellsD.use (bare_tells _ _ _ _ _ _ (by assumption) _) ?k1 ?k2 ?k3 ?k4 ?k5 ?k6 ?kd ?ku ?_); (case k1 => k_asm); (case k2 => k_asm); (case k3 => k_asm); (case k4 => k_asm); (case k5 => k_asm); (case k6 => first | exact rfl | assumption); (case kd => ktr_room); (case ku => ktr_units); intro t9 h9 tk9 F9 N9; (try dsimp only); (try k_fold)))
local macro_rules | `(tactic| walk_at "call ref") => `(tactic| (k_here; (with_reducible show wpAny _ _ (call (Value.ref 56) _) _ _ _); (k_dflt refine' TellsD.use (unctrl_tells _ _ _ _ _ _ (by assumption) _) ?k1 ?k2 ?k3 ?k4 ?k5 ?k6 ?kd ?ku ?_); (case k1 => k_asm); (case k2 => k_asm); (case k3 => k_asm); (case k4 => k_asm); (case k5 => k_asm); (case k6 => first | exact rfl | assumption); (case kd => ktr_room); (case ku => ktr_units); intro t9 h9 tk9 F9 N9; (try dsimp only); (try k_fold)))
local macro_rules | `(tactic| walk_at "execs cons") => `(tactic| (k_here; (with_reducible show wpAny _ _ (execs (Stmt.Assign [Expr.Name (Str.ofString "asks") _] _ _ :: _) _) _ _ _); refine Stop.mk ?_))
theorem law_holds : PySem.Challenge.rw_il0212_01.Holds := hd (by
  k_with_none
  w_strict (
    k_go0
    (all_goals try k_fold)
    k_steps
    rename Fr _ _ _ _ => F'
    rename Top _ _ _ _ _ _ => T'
    rename Below _ _ _ _ => K'
    rename Frag.In _ _ => X'
    rename (¬ _ < _) => hc'
    have F8 := fr8' (l := [("script", .ref _)]) (by with_unfolding_all exact F')
    refine Stop.out (wpAny_mono (seg_asks (H_40 _) (P_40 _) (cnt_le fp _) (cnt_le fc _) (cnt_le fm _) (due_all _).1 (due_all _).2.1 (due_all _).2.2.1 (due_all _).2.2.2.1 (due_all _).2.2.2.2.1 (due_all _).2.2.2.2.2.1 (due_all _).2.2.2.2.2.2 K' F8 X' News.nil T' (by assumption) (by assumption) (by omega) (fun h9 tk9 m9 F9 => ?_)) (fun _ _ h => h) (fun _ _ h => h.elim))
    clear F' F8
    k_steps))

end Mine
theorem PySem.Challenge.cw_il0212_01_holds : PySem.Challenge.rw_il0212_01.Holds := by
  exact Mine.law_holds
