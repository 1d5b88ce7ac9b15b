import PyProof.Rows.All
import Wide.All
import OpenK.AllK
import Wide.FinOn
import PySem.Challenge.RW_mj0093_01
set_option Elab.async false
set_option rowWalk.seconds 0

/-! Hd -/
section
open PySem PySem.W PyProof.Rows
set_option maxRecDepth 100000
set_option maxHeartbeats 8000000
namespace Mine
open_top hd for PySem.Challenge.rw_mj0093_01
end Mine
end

/-! C0 -/
section
open PySem PySem.W PyProof.Rows PySem.Calls
set_option maxRecDepth 100000
set_option maxHeartbeats 8000000
namespace Mine

/-- the around of a call, its parts open -/
abbrev AR (dp un : Nat) (gd : Option (List Code)) (outer : List Env) : Around := { handled := none, depth := dp, frames := some outer, guards := gd, units := un }

/-- a stop for the walk -/
structure Halt (P : Prop) : Prop where
  out : P
theorem halt {P : Prop} (h : Halt P) : P := h.out

theorem enter {prog : Program} {w : World} {A : Around} {s : Shared} {K : Frag} {base : Heap} {outer : List Env} {mg mb : Str → Option Value} {p : Program} {loose : List Str} {mean : ExcName → Option Value}
    {R : Result → Shared → Prop} {name qual : Str} {params : Arguments} {body : List Stmt} {scope : Scope} {dV kV doc pm cdv ct oc : Value} {an od : Option Addr} {osl : Array (Option Value)} {f : Addr} {args : Args} {binds : List (Str × Value)}
    (B : Below A base outer s.heap) (X : K.In s.heap) (T : Top p loose mean mg mb s.heap)
    (ho : K.lookup f = some ⟨oc, od, .func (fnOf name qual params body scope dV kV doc pm an cdv ct), osl⟩) (hcd : codeIn K cdv qual = true) (hroom : A.depth < recursionLimit)
    (hbind : BindsTo s (fnOf name qual params body scope dV kV doc pm an cdv ct) args binds) (hloc : ∀ y ∈ binds, scope.names.lookup y.1 = some .local)
    (h : ∀ g L' h₁, g = s.heap → Fr g L' h₁ (fun y => binds.reverse.lookup y) → News g L' h₁ [] → Below A base outer g → K.In g → Top p loose mean mg mb g →
      wpAny (model prog w) (A.deeper (envOf qual scope L' f cdv)) (execs body (envOf qual scope L' f cdv))
        (fun fl s' => R (.ok (.ret (match fl with | .ret v => v | _ => .none))) s')
        (fun e s' => wpAny (model prog w) (A.deeper (envOf qual scope L' f cdv)) (leaving (envOf qual scope L' f cdv) e) (fun _ s'' => R (.error e) s'') (fun e' s'' => R (.error e') s'') s')
        { s with heap := h₁, toks := s.toks + binds.length })
    (hco : scope.isCoroutine = false) (hgen : scope.isGenerator = false) (hk : scope.kind = .function)
    (hcell : ∀ x ∈ scope.names, x.2 ≠ .cell) : codeAny (model prog w) A (.call (.ref f) args) R s := by
  refine codeAny_call_def (fd := fnOf name qual params body scope dV kV doc pm an cdv ct) (body := body) (binds := binds) hroom (X _ _ ho) rfl T.nolimit (codeRec_of X hcd) rfl hbind hcell hloc (fun h₁ hns hk₁ => ?_) hco hgen hk
  exact h s.heap s.heap.objs.size h₁ rfl ⟨hns, hk₁, Nat.le_refl _⟩ (fun _ hp => nomatch hp) B X T
end Mine
end

section
local macro_rules | `(tactic| walk_at "pad") => `(tactic| fail "pad")
local macro_rules | `(tactic| walk_at "pad") => `(tactic| fail "pad")
local macro_rules | `(tactic| walk_at "pad") => `(tactic| fail "pad")
local macro_rules | `(tactic| walk_at "pad") => `(tactic| fail "pad")
local macro_rules | `(tactic| walk_at "pad") => `(tactic| fail "pad")
local macro_rules | `(tactic| walk_at "pad") => `(tactic| fail "pad")
local macro_rules | `(tactic| walk_at "pad") => `(tactic| fail "pad")
local macro_rules | `(tactic| walk_at "pad") => `(tactic| fail "pad")
local macro_rules | `(tactic| walk_at "pad") => `(tactic| fail "pad")
local macro_rules | `(tactic| walk_at "pad") => `(tactic| fail "pad")
local macro_rules | `(tactic| walk_at "pad") => `(tactic| fail "pad")
local macro_rules | `(tactic| walk_at "pad") => `(tactic| fail "pad")
local macro_rules | `(tactic| walk_at "pad") => `(tactic| fail "pad")
local macro_rules | `(tactic| walk_at "pad") => `(tactic| fail "pad")
theorem Mine.freshC1 : True ∧ True := by
  w_top off
  walk1
  all_goals exact True.intro
end

/-! C1 -/
section
open PySem PySem.W PyProof.Rows PySem.Calls
set_option maxRecDepth 100000
set_option maxHeartbeats 1000000
namespace Mine
theorem filled : ∀ (p : Params), hd.heap_39 p = hd.heap_39 p ∧ PySem.Challenge.rw_mj0093_01 = PySem.Challenge.rw_mj0093_01 := by
  k_fill; exact fun _ => ⟨rfl, rfl⟩

abbrev PR : Program := PySem.Challenge.rw_mj0093_01.row.prog

/-- all that a called def wants to know of where it is called -/
structure Amb (w : World) (dp un : Nat) (gd : Option (List Code)) (outer : List Env) (base : Heap) (mean : ExcName → Option Value) (mg mb : Str → Option Value) (h : Heap) : Prop where
  B : Below (AR dp un gd outer) base outer h
  X : (hd.heap_39 w.params).In h
  T : Top hd.view_39 (looseW hd.view_39 []) mean mg mb h
  hdp : dp < 500
  hun : un < 500

def Ext (h h' : Heap) : Prop := ∀ b o, h.get? b = some o → h'.get? b = some o

theorem Amb.keeps {w dp un gd outer base mean mg mb h h'} (a : Amb w dp un gd outer base mean mg mb h) (k : Ext h h') : Amb w dp un gd outer base mean mg mb h' where
  B := ⟨a.B.stack, fun b o e => k b o (a.B.stays b o e), a.B.frames.of_keeps fun b o e _ => ⟨o, k b o e, rfl⟩⟩
  X := a.X.keeps k
  T := a.T.keeps k
  hdp := a.hdp
  hun := a.hun

local macro_rules | `(tactic| ktr_enter) => `(tactic| (refine' enter ?k1 ?k2 ?k3 ?k6 ?k7 ?k8 ?k9 ?kB ?_ ?c2 ?c3 ?c4 ?c5; (case k1 => k_asm); (case k2 => k_asm); (case k3 => k_asm);  (case k6 => k_is); (case k7 => k_is); (case k8 => ktr_room); (case k9 => exact BindsTo.of_eq rfl); (case c5 => decide); (case kB => exact locs rfl); (case c2 => exact rfl); (case c3 => exact rfl); (case c4 => exact rfl)))

variable {w : World} {dp un : Nat} {gd : Option (List Code)} {outer : List Env} {base : Heap} {mean : ExcName → Option Value} {mg mb : Str → Option Value} {s : Shared} {Q E : Value → Shared → Prop}

theorem c_doubled {x : Str} {tx : Tok} (a : Amb w dp un gd outer base mean mg mb s.heap) (htk : 1 ≤ s.toks) (hx : x.length ≤ 100000)
    (h : ∀ t h' tk, Ext s.heap h' → Q (.str (Txt.replace x (Str.ofString "\\") (Str.ofString "\\\\")) t) { s with heap := h', toks := tk }) :
    wpAny (model PR w) (AR dp un gd outer) (call (.ref 72) [.str x tx]) Q E s := by
  obtain ⟨B, X, T, hdp, hun⟩ := a
  refine wpAny_call ?_
  ktr_enter
  intro g L' h₁ hg F' N' B' X' T'; (try dsimp only)
  clear B X T
  generalize hT : s.toks + _ = tk
  have htk' : 1 ≤ tk := by omega
  clear hT
  k_steps
  refine SC.replaceW (by show (tk : Nat) ≠ 0; omega) (by show (tk + 1 : Nat) ≠ 0; omega) (by show (tk : Nat) ≠ tk + 1; omega) (by decide) (by omega) (by decide) ?_
  intro t' k
  refine h _ _ _ ?_
  subst hg
  exact F'.keep

theorem add_strK {prog : Program} {A : Around} {x y : Str} {t u : Tok} (hle : x.length + y.length ≤ 1000000) (htk : 1 ≤ s.toks) (h : ∀ t' tk, 1 ≤ tk → Q (.str (x ++ y) t') { s with toks := tk }) : wpAny (model prog w) A (binaryOp .Add (.str x t) (.str y u)) Q E s :=
  wpAny_with_toks htk (PyProof.Rows.add_str (fun t' tk hn => h t' tk hn) (Nat.le_trans hle (by decide)))

theorem replace_strK {prog : Program} {A : Around} {x y z : Str} {t u v : Tok} (hu : u ≠ 0) (hv : v ≠ 0) (huv : u ≠ v) (hyz : (y == z) = false) (hx : x.length ≤ 1048576) (hz : z.length ≤ 14) (htk : 1 ≤ s.toks)
    (hq : ∀ t' k, 1 ≤ k → Q (.str (Txt.replace x y z) t') { s with toks := k }) : wpAny (model prog w) A (call (.builtin "str.replace") [.str x t, .str y u, .str z v]) Q E s :=
  wpAny_with_toks htk (SC.replaceW hu hv huv hyz hx hz (fun t' k hn => hq t' k hn))

theorem l250 : (Str.ofString "250").length = 3 := by decide
theorem l257 : (Str.ofString "257").length = 3 := by decide
theorem lq : (Str.ofString "\"").length = 1 := by decide
theorem lsq : (Str.ofString " \"").length = 2 := by decide
theorem le0 : (Str.ofString "").length = 0 := by decide
theorem lisit : (Str.ofString " is it").length = 6 := by decide
theorem ltoo : (Str.ofString " \"too\" or so").length = 12 := by decide
def suf (k : Int) : Str := if k.fmod 3 = 0 then Str.ofString "" else if k.fmod 3 = 1 then Str.ofString " is it" else Str.ofString " \"too\" or so"
def replyS (x : Str) (k : Int) : Str := (if (Txt.slice x (some (-1)) none == Str.ofString "=") = true then Str.ofString "250" else Str.ofString "257") ++ Str.ofString " \"" ++ Txt.replace x (Str.ofString "\"") (Str.ofString "\"\"") ++ Str.ofString "\"" ++ suf k
theorem dbl_len (c : Nat) : ∀ l : List Nat, (StrLaws.dbl c l).length ≤ 2 * l.length
  | [] => Nat.le_refl _
  | k :: r => by
    have ih := dbl_len c r
    unfold StrLaws.dbl
    split <;> simp only [List.length_cons] <;> omega
theorem replace_len (x : Str) (c : Nat) : (Txt.replace x ⟨#[c]⟩ ⟨#[c, c]⟩).length ≤ 2 * x.length := by
  have e := congrArg List.length (StrLaws.replace_double x c)
  have := dbl_len c x.cps.toList
  simp only [Array.length_toList] at e this
  show (Txt.replace x ⟨#[c]⟩ ⟨#[c, c]⟩).cps.size ≤ 2 * x.cps.size
  omega
section
local macro_rules | `(tactic| walk_at "binaryOp Add str str") => `(tactic| (k_here; (with_reducible show wpAny _ _ (binaryOp Operator.Add (Value.str _ _) (Value.str _ _)) _ _ _); (refine add_strK ?h1 ?h2 ?_); (case h1 => first | decide | (simp only [Str.length_append, l250, l257, lq, lsq, le0, lisit, ltoo]; omega)); (case h2 => (dsimp only; first | assumption | omega)); intro _ _ _))
local macro_rules | `(tactic| walk_at "call builtin:str.replace") => `(tactic| (k_here; (with_reducible show wpAny _ _ (call (Value.builtin "str.replace") [Value.str _ _, Value.str _ _, Value.str _ _]) _ _ _); (refine replace_strK ?h1 ?h2 ?h3 ?h4 ?h5 ?h6 ?h7 ?_); (case h1 => (show @Ne Nat _ _; omega)); (case h2 => (show @Ne Nat _ _; omega)); (case h3 => (show @Ne Nat _ _; omega)); (case h4 => decide); (case h5 => omega); (case h6 => decide); (case h7 => (dsimp only; omega)); intro _ _ _))
theorem c_reply {x : Str} {tx tk : Tok} {k : Int} (a : Amb w dp un gd outer base mean mg mb s.heap) (htk : 1 ≤ s.toks) (hx : x.length ≤ 10000) (hk : 0 ≤ k) (hk2 : k < 1000)
    (h : ∀ t h' tk, Ext s.heap h' → Q (.str (replyS x k) t) { s with heap := h', toks := tk }) :
    wpAny (model PR w) (AR dp un gd outer) (call (.ref 65) [.str x tx, .int k tk]) Q E s := by
  obtain ⟨B, X, T, hdp, hun⟩ := a
  have hrl : (Txt.replace x (Str.ofString "\"") (Str.ofString "\"\"")).length ≤ 20000 := Nat.le_trans (replace_len x 34) (by omega)
  have h2 : ∀ r t h' tk, r = replyS x k → Ext s.heap h' → Q (.str r t) { s with heap := h', toks := tk } := fun r t h' tk e => e ▸ h t h' tk
  clear h
  refine wpAny_call ?_
  ktr_enter
  intro g L' h₁ hg F' N' B' X' T'; (try dsimp only)
  clear B X T
  generalize hT : s.toks + _ = tk
  have htk' : 1 ≤ tk := by omega
  clear hT
  refine wpAny_execs_cons (wpAny_with_toks (n := 1) htk' ?_)
  k_steps
  all_goals
    rename (Txt.slice x _ _ == _) = _ => hc
    rename Fr _ _ _ _ => F9
    rename Int.fmod k 3 = _ => hm
    subst hg
    refine h2 _ _ _ _ ?_ F9.keep
    simp only [replyS, hc, suf, hm, reduceIte, Int.reduceEq, Bool.false_eq_true]
end
end Mine
end

/-! P1 -/
section
open PySem PySem.W PyProof.Rows PySem.Calls
namespace Mine
noncomputable def p257 : List Nat → List Nat
  | [] => []
  | c :: r => if c = 34 then (match r with
      | [] => []
      | c' :: r' => if c' = 34 then 34 :: p257 r' else []) else c :: p257 r

theorem p257_ne {c : Nat} {r : List Nat} (h : c ≠ 34) : p257 (c :: r) = c :: p257 r := by
  conv => lhs; unfold p257
  rw [if_neg h]
theorem item_at {x : Str} {i : Int} (h0 : 0 ≤ i) (h1 : i < (x.length : Int)) : ∃ c, x.cps.toList.drop i.toNat = c :: x.cps.toList.drop (i.toNat + 1) ∧ Txt.item x i = ⟨#[c]⟩ := by
  have hl : i.toNat < x.cps.size := by have : x.length = x.cps.size := rfl; omega
  refine ⟨x.cps[i.toNat], ?_, ?_⟩
  · rw [List.drop_eq_getElem_cons (by simpa using hl)]
    simp
  · unfold Txt.item Txt.charAt seqIndex?
    have e : (if i < 0 then i + (x.length : Int) else i) = i := if_neg (by omega)
    have hs : x.length = x.cps.size := rfl
    have h1' : i < (x.cps.size : Int) := by omega
    rw [hs] at e ⊢
    simp only [e, h0, h1', decide_true, Bool.and_self, if_true, Option.bind_some]
    simp [hl]
theorem one_eq {c d : Nat} : ((⟨#[c]⟩ : Str) == ⟨#[d]⟩) = decide (c = d) := by
  rw [Bool.eq_iff_iff, beq_iff_eq, decide_eq_true_iff]
  constructor
  · intro h; have := congrArg (·.cps.toList) h; simpa using this
  · rintro rfl; rfl
theorem q_is : Str.ofString "\"" = ⟨#[34]⟩ := by decide +kernel

variable {x : Str} {i : Int}
theorem isq (h : (Txt.item x i == Str.ofString "\"") = true) {c : Nat} (e : Txt.item x i = ⟨#[c]⟩) : c = 34 := by
  rw [e, q_is, one_eq] at h; exact of_decide_eq_true h
theorem nisq (h : (Txt.item x i == Str.ofString "\"") = false) {c : Nat} (e : Txt.item x i = ⟨#[c]⟩) : c ≠ 34 := by
  rw [e, q_is, one_eq] at h; exact of_decide_eq_false h
theorem bne_false {a b : Str} (h : (a != b) = false) : (a == b) = true := by
  unfold bne at h; cases hb : (a == b) <;> simp_all
theorem bne_true {a b : Str} (h : (a != b) = true) : (a == b) = false := by
  unfold bne at h; cases hb : (a == b) <;> simp_all

theorem pw1 (h0 : 0 ≤ i) (h1 : i < (x.length : Int)) (hq : (Txt.item x i == Str.ofString "\"") = true) (hn : (x.length : Int) ≤ i + 1) : p257 (x.cps.toList.drop i.toNat) = [] := by
  obtain ⟨c, hd, hc⟩ := item_at h0 h1
  have := isq hq hc; subst this
  have e : x.cps.toList.drop (i.toNat + 1) = [] := List.drop_of_length_le (by rw [Array.length_toList]; have : x.length = x.cps.size := rfl; omega)
  rw [hd, e]; rfl
theorem pw2 (h0 : 0 ≤ i) (h1 : i < (x.length : Int)) (hq : (Txt.item x i == Str.ofString "\"") = true) (hn : ¬ (x.length : Int) ≤ i + 1) (hq2 : (Txt.item x (i + 1) != Str.ofString "\"") = true) : p257 (x.cps.toList.drop i.toNat) = [] := by
  obtain ⟨c, hd, hc⟩ := item_at h0 h1
  have := isq hq hc; subst this
  obtain ⟨c', hd', hc'⟩ := item_at (x := x) (i := i + 1) (by omega) (by omega)
  have hne := nisq (bne_true hq2) hc'
  have e : (i + 1).toNat = i.toNat + 1 := by omega
  rw [e] at hd'
  rw [hd, hd']
  simp [p257, hne]
theorem pw3 (h0 : 0 ≤ i) (h1 : i < (x.length : Int)) (hq : (Txt.item x i == Str.ofString "\"") = true) (hn : ¬ (x.length : Int) ≤ i + 1) (hq2 : (Txt.item x (i + 1) != Str.ofString "\"") = false) :
    p257 (x.cps.toList.drop i.toNat) = (Txt.item x i).cps.toList ++ p257 (x.cps.toList.drop (i + 1 + 1).toNat) := by
  obtain ⟨c, hd, hc⟩ := item_at h0 h1
  have := isq hq hc; subst this
  obtain ⟨c', hd', hc'⟩ := item_at (x := x) (i := i + 1) (by omega) (by omega)
  have he := isq (bne_false hq2) hc'; subst he
  have e : (i + 1).toNat = i.toNat + 1 := by omega
  have e2 : (i + 1 + 1).toNat = i.toNat + 1 + 1 := by omega
  rw [e] at hd'
  rw [hd, hd', hc, e2]
  simp [p257]
theorem pw4 (h0 : 0 ≤ i) (h1 : i < (x.length : Int)) (hq : (Txt.item x i == Str.ofString "\"") = false) :
    p257 (x.cps.toList.drop i.toNat) = (Txt.item x i).cps.toList ++ p257 (x.cps.toList.drop (i + 1).toNat) := by
  obtain ⟨c, hd, hc⟩ := item_at h0 h1
  have hne := nisq hq hc
  have e : (i + 1).toNat = i.toNat + 1 := by omega
  rw [hd, hc, e, p257_ne hne]
  rfl
theorem pw5 (h1 : ¬ i < (x.length : Int)) : p257 (x.cps.toList.drop i.toNat) = [] := by
  have e : x.cps.toList.drop i.toNat = [] := List.drop_of_length_le (by rw [Array.length_toList]; have : x.length = x.cps.size := rfl; omega)
  rw [e]; rfl
end Mine
end

section
local macro_rules | `(tactic| walk_at "pad") => `(tactic| fail "pad")
local macro_rules | `(tactic| walk_at "pad") => `(tactic| fail "pad")
local macro_rules | `(tactic| walk_at "pad") => `(tactic| fail "pad")
local macro_rules | `(tactic| walk_at "pad") => `(tactic| fail "pad")
local macro_rules | `(tactic| walk_at "pad") => `(tactic| fail "pad")
local macro_rules | `(tactic| walk_at "pad") => `(tactic| fail "pad")
local macro_rules | `(tactic| walk_at "pad") => `(tactic| fail "pad")
local macro_rules | `(tactic| walk_at "pad") => `(tactic| fail "pad")
local macro_rules | `(tactic| walk_at "pad") => `(tactic| fail "pad")
local macro_rules | `(tactic| walk_at "pad") => `(tactic| fail "pad")
local macro_rules | `(tactic| walk_at "pad") => `(tactic| fail "pad")
local macro_rules | `(tactic| walk_at "pad") => `(tactic| fail "pad")
local macro_rules | `(tactic| walk_at "pad") => `(tactic| fail "pad")
local macro_rules | `(tactic| walk_at "pad") => `(tactic| fail "pad")
theorem Mine.freshC2 : True ∧ True := by
  w_top off
  walk1
  all_goals exact True.intro
end

/-! C2 -/
section
open PySem PySem.W PyProof.Rows PySem.Calls
set_option maxRecDepth 100000
set_option maxHeartbeats 1000000
namespace Mine
theorem filled2 : ∀ (p : Params), hd.heap_39 p = hd.heap_39 p ∧ PySem.Challenge.rw_mj0093_01 = PySem.Challenge.rw_mj0093_01 := by
  k_fill; exact fun _ => ⟨rfl, rfl⟩
local macro_rules | `(tactic| ktr_enter) => `(tactic| (refine' enter ?k1 ?k2 ?k3 ?k6 ?k7 ?k8 ?k9 ?kB ?_ ?c2 ?c3 ?c4 ?c5; (case k1 => k_asm); (case k2 => k_asm); (case k3 => k_asm);  (case k6 => k_is); (case k7 => k_is); (case k8 => ktr_room); (case k9 => exact BindsTo.of_eq rfl); (case c5 => decide); (case kB => exact locs rfl); (case c2 => exact rfl); (case c3 => exact rfl); (case c4 => exact rfl)))

variable {w : World} {dp un : Nat} {gd : Option (List Code)} {outer : List Env} {base : Heap} {mean : ExcName → Option Value} {mg mb : Str → Option Value} {s : Shared} {Q E : Value → Shared → Prop}

local macro_rules | `(tactic| walk_at "exec While Compare cons nil") => `(tactic| (k_here; refine halt ?_))
def PW (x : Str) (c : Str × Tok × Int × Tok) : Prop :=
  0 ≤ c.2.2.1 ∧ c.2.2.1 ≤ (x.length : Int) ∧ c.1.length ≤ c.2.2.1.toNat ∧ c.1.cps.toList ++ p257 (x.cps.toList.drop c.2.2.1.toNat) = p257 (x.cps.toList.drop 5)

local macro_rules | `(tactic| walk_at "KswEnd") => `(tactic| (refine halt ?_))
theorem c_parse {x : Str} {tx : Tok} (a : Amb w dp un gd outer base mean mg mb s.heap) (hx : x.length ≤ 100000) (hx5 : 5 ≤ x.length)
    (h257 : (Txt.slice x none (some 3) == Str.ofString "257") = true) (hq : (Txt.slice x (some 3) (some 5) == Str.ofString " \"") = true)
    (h : ∀ r t h' tk, r.cps.toList = p257 (x.cps.toList.drop 5) → Ext s.heap h' → Q (.str r t) { s with heap := h', toks := tk }) :
    wpAny (model PR w) (AR dp un gd outer) (call (.ref 46) [.str x tx]) Q E s := by
  obtain ⟨B, X, T, hdp, hun⟩ := a
  refine wpAny_call ?_
  ktr_enter
  intro g L' h₁ hg F' N' B' X' T'; (try dsimp only)
  clear B X T
  k_steps
  · exfalso
    rename (Txt.slice x none _ != _) = true => hc
    simp [bne, h257] at hc
  · exfalso
    rename (Txt.slice x _ (some 5) != _) = true => hc
    simp [bne, hq] at hc
  · rename Fr _ _ _ _ => F9
    rename News _ _ _ _ => N9
    refine Halt.mk ?_
    refine' ksw_while (σ := Str × Tok × Int × Tok) (fun _ => []) (fun c => [(Str.ofString "dirname", .str c.1 c.2.1), (Str.ofString "i", .int c.2.2.1 c.2.2.2)]) (fun _ => True) [Str.ofString "c"] (PW x) (fun c => x.length - c.2.2.1.toNat) (Str.ofString "", ?t1, 5, ?t2) F9 N9 trivial ?hk ?hp ?turn
    case hk => kst_all
    case hp => exact ⟨by show (0 : Int) ≤ 5; decide, by show (5 : Int) ≤ _; omega, by show (Str.ofString "").length ≤ 5; decide, by show ([] : List Nat) ++ _ = _; rfl⟩
    case turn =>
      rintro ⟨d, td, i, ti⟩ u h9 tk9 _ ⟨hi0, hi1, hd1, hd2⟩ F8 N8
      dsimp only at hi0 hi1 hd1 hd2 F8 N8 ⊢
      clear F9 N9
      subst hg
      k_steps
      · rename Fr _ _ _ _ => F7
        refine h _ _ _ _ ?_ F7.keep
        rw [← hd2, pw1 hi0 (by assumption) (by assumption) (by assumption), List.append_nil]
      · rename Fr _ _ _ _ => F7
        refine h _ _ _ _ ?_ F7.keep
        rw [← hd2, pw2 hi0 (by assumption) (by assumption) (by assumption) (by assumption), List.append_nil]
      · rename Fr _ _ _ _ => F7
        rename News _ _ _ _ => N7
        rename (Txt.item x i == _) = true => hq1
        have e3 := pw3 hi0 (by assumption) hq1 (by assumption) (by assumption)
        refine' Halt.mk (ksw_end (d ++ Txt.item x i, ?u1, i + 1 + 1, ?u2) F7 N7 (fun _ hp => nomatch hp) trivial ?k1 ?k2 ?k3 ?k4)
        case k1 => kst_all
        case k2 =>
          intro z h1 h2
          have z1 := h1 _ (.head _)
          have z2 := h1 _ (.tail _ (.head _))
          have z3 : z ≠ Str.ofString "c" := by simpa using h2
          dsimp only at z1 z2
          simp [kstB, z1, z2, z3]
        case k3 =>
          refine ⟨by show 0 ≤ i + 1 + 1; omega, by show i + 1 + 1 ≤ _; omega, ?_, ?_⟩
          · show (d ++ Txt.item x i).length ≤ (i + 1 + 1).toNat; omega
          · show (d ++ Txt.item x i).cps.toList ++ p257 (x.cps.toList.drop (i + 1 + 1).toNat) = _
            rw [← hd2, e3, Str.cps_append, Array.toList_append, List.append_assoc]
        case k4 => show x.length - (i + 1 + 1).toNat < x.length - i.toNat; omega
      · rename Fr _ _ _ _ => F7
        rename News _ _ _ _ => N7
        rename (Txt.item x i == _) = false => hq1
        have e3 := pw4 hi0 (by assumption) hq1
        refine' Halt.mk (ksw_end (d ++ Txt.item x i, ?v1, i + 1, ?v2) F7 N7 (fun _ hp => nomatch hp) trivial ?k1 ?k2 ?k3 ?k4)
        case k1 => kst_all
        case k2 =>
          intro z h1 h2
          have z1 := h1 _ (.head _)
          have z2 := h1 _ (.tail _ (.head _))
          have z3 : z ≠ Str.ofString "c" := by simpa using h2
          dsimp only at z1 z2
          simp [kstB, z1, z2, z3]
        case k3 =>
          refine ⟨by show 0 ≤ i + 1; omega, by show i + 1 ≤ _; omega, ?_, ?_⟩
          · show (d ++ Txt.item x i).length ≤ (i + 1).toNat; omega
          · show (d ++ Txt.item x i).cps.toList ++ p257 (x.cps.toList.drop (i + 1).toNat) = _
            rw [← hd2, e3, Str.cps_append, Array.toList_append, List.append_assoc]
        case k4 => show x.length - (i + 1).toNat < x.length - i.toNat; omega
      · rename Fr _ _ _ _ => F7
        refine h _ _ _ _ ?_ F7.keep
        rw [← hd2, pw5 (by assumption), List.append_nil]
end Mine
end

/-! P2 -/
section
open PySem PySem.W PyProof.Rows PySem.Calls
namespace Mine
structure HS where
  res : List (List Nat)
  part : List Nat
  esc : Bool
  quo : Bool
def hstep (st : HS) (c : Nat) : HS :=
  if st.esc = true then { st with part := st.part ++ [c], esc := false }
  else if st.quo = true then
    (if c = 92 then { st with esc := true }
    else if c = 34 then { st with quo := false, part := st.part ++ [c] }
    else { st with part := st.part ++ [c] })
  else if c = 44 then { st with res := st.res ++ [st.part], part := [] }
  else if c = 34 then { st with quo := true, part := st.part ++ [c] }
  else { st with part := st.part ++ [c] }
def h0 : HS := ⟨[], [], false, false⟩
def hrun (l : List Nat) : HS := l.foldl hstep h0

abbrev HSt := List Value × List Str × Nat × Str × Tok × Bool × Bool
def PH (pre : List Int) (c : HSt) : Prop :=
  hrun (pre.map Int.toNat) = ⟨c.2.1.map (·.cps.toList), c.2.2.2.1.cps.toList, c.2.2.2.2.2.1, c.2.2.2.2.2.2⟩ ∧ c.1.length ≤ pre.length ∧ c.2.2.2.1.length ≤ pre.length

theorem bs_is : Str.ofString "\\" = ⟨#[92]⟩ := by decide +kernel
theorem cm_is : Str.ofString "," = ⟨#[44]⟩ := by decide +kernel
theorem e_is : Str.ofString "" = ⟨#[]⟩ := by decide +kernel
theorem is_true {c d : Nat} {x : Str} (h : ((⟨#[c]⟩ : Str) == x) = true) (e : x = ⟨#[d]⟩) : c = d := by
  rw [e, one_eq] at h; exact of_decide_eq_true h
theorem is_false {c d : Nat} {x : Str} (h : ((⟨#[c]⟩ : Str) == x) = false) (e : x = ⟨#[d]⟩) : c ≠ d := by
  rw [e, one_eq] at h; exact of_decide_eq_false h
theorem hrun_snoc (pre : List Int) (c : Nat) : hrun ((pre ++ [(c : Int)]).map Int.toNat) = hstep (hrun (pre.map Int.toNat)) c := by
  simp [hrun]
theorem cat1 (p : Str) (c : Nat) : (p ++ ⟨#[c]⟩ : Str).cps.toList = p.cps.toList ++ [c] := by rw [Str.cps_append, Array.toList_append]
theorem len1 (p : Str) (c : Nat) : (p ++ ⟨#[c]⟩ : Str).length = p.length + 1 := by
  show (p ++ ⟨#[c]⟩ : Str).cps.size = p.cps.size + 1
  rw [Str.cps_append, Array.size_append]; rfl
section
variable {pre : List Int} {us : List Value} {ws : List Str} {n cn : Nat} {part : Str} {tp t : Tok} {esc quo : Bool} (h : PH pre (us, ws, n, part, tp, esc, quo))
include h
theorem ph1 (a : esc = true) : PH (pre ++ [(cn : Int)]) (us, ws, n, part ++ ⟨#[cn]⟩, t, false, quo) := by
  obtain ⟨hr, h1, h2⟩ := h
  dsimp only at hr h1 h2
  refine ⟨?_, ?_, ?_⟩
  · rw [hrun_snoc, hr]; simp [hstep, Str.cps_append, a]
  · simp only [List.length_append, List.length_singleton]; omega
  · simp only [List.length_append, List.length_singleton, len1]; omega
theorem ph2 (a : esc = false) (b : quo = true) (c : ((⟨#[cn]⟩ : Str) == Str.ofString "\\") = true) : PH (pre ++ [(cn : Int)]) (us, ws, n, part, t, true, quo) := by
  obtain ⟨hr, h1, h2⟩ := h
  dsimp only at hr h1 h2
  have e := is_true c bs_is
  refine ⟨?_, ?_, ?_⟩
  · rw [hrun_snoc, hr]; simp [hstep, Str.cps_append, a, b, e]
  · simp only [List.length_append, List.length_singleton]; omega
  · simp only [List.length_append, List.length_singleton]; omega
theorem ph3 (a : esc = false) (b : quo = true) (c : ((⟨#[cn]⟩ : Str) == Str.ofString "\\") = false) (d : ((⟨#[cn]⟩ : Str) == Str.ofString "\"") = true) : PH (pre ++ [(cn : Int)]) (us, ws, n, part ++ ⟨#[cn]⟩, t, esc, false) := by
  obtain ⟨hr, h1, h2⟩ := h
  dsimp only at hr h1 h2
  have e := is_true d q_is
  refine ⟨?_, ?_, ?_⟩
  · rw [hrun_snoc, hr]; simp [hstep, Str.cps_append, a, b, e]
  · simp only [List.length_append, List.length_singleton]; omega
  · simp only [List.length_append, List.length_singleton, len1]; omega
theorem ph4 (a : esc = false) (b : quo = true) (c : ((⟨#[cn]⟩ : Str) == Str.ofString "\\") = false) (d : ((⟨#[cn]⟩ : Str) == Str.ofString "\"") = false) : PH (pre ++ [(cn : Int)]) (us, ws, n, part ++ ⟨#[cn]⟩, t, esc, quo) := by
  obtain ⟨hr, h1, h2⟩ := h
  dsimp only at hr h1 h2
  have e := is_false d q_is
  have e2 := is_false c bs_is
  refine ⟨?_, ?_, ?_⟩
  · rw [hrun_snoc, hr]; simp [hstep, Str.cps_append, a, b, e, e2]
  · simp only [List.length_append, List.length_singleton]; omega
  · simp only [List.length_append, List.length_singleton, len1]; omega
theorem ph5 (a : esc = false) (b : quo = false) (c : ((⟨#[cn]⟩ : Str) == Str.ofString ",") = true) : PH (pre ++ [(cn : Int)]) (us ++ [.str part tp], ws ++ [part], n + 1, Str.ofString "", t, esc, quo) := by
  obtain ⟨hr, h1, h2⟩ := h
  dsimp only at hr h1 h2
  have e := is_true c cm_is
  refine ⟨?_, ?_, ?_⟩
  · rw [hrun_snoc, hr]; simp [hstep, Str.cps_append, a, b, e, e_is]
  · simp only [List.length_append, List.length_singleton]; omega
  · show (Str.ofString "").length ≤ _; rw [show (Str.ofString "").length = 0 by decide]; omega
theorem ph6 (a : esc = false) (b : quo = false) (c : ((⟨#[cn]⟩ : Str) == Str.ofString ",") = false) (d : ((⟨#[cn]⟩ : Str) == Str.ofString "\"") = true) : PH (pre ++ [(cn : Int)]) (us, ws, n, part ++ ⟨#[cn]⟩, t, esc, true) := by
  obtain ⟨hr, h1, h2⟩ := h
  dsimp only at hr h1 h2
  have e := is_true d q_is
  refine ⟨?_, ?_, ?_⟩
  · rw [hrun_snoc, hr]; simp [hstep, Str.cps_append, a, b, e]
  · simp only [List.length_append, List.length_singleton]; omega
  · simp only [List.length_append, List.length_singleton, len1]; omega
theorem ph7 (a : esc = false) (b : quo = false) (c : ((⟨#[cn]⟩ : Str) == Str.ofString ",") = false) (d : ((⟨#[cn]⟩ : Str) == Str.ofString "\"") = false) : PH (pre ++ [(cn : Int)]) (us, ws, n, part ++ ⟨#[cn]⟩, t, esc, quo) := by
  obtain ⟨hr, h1, h2⟩ := h
  dsimp only at hr h1 h2
  have e := is_false d q_is
  have e2 := is_false c cm_is
  refine ⟨?_, ?_, ?_⟩
  · rw [hrun_snoc, hr]; simp [hstep, Str.cps_append, a, b, e, e2]
  · simp only [List.length_append, List.length_singleton]; omega
  · simp only [List.length_append, List.length_singleton, len1]; omega
end
end Mine
end

/-! CL -/
section
open PySem PySem.W PyProof.Rows PySem.Calls
set_option maxRecDepth 100000
set_option maxHeartbeats 400000
namespace Mine
section
variable {prog : Program} {w : World} {A : Around} {E : Value → Shared → Prop} {env : Env} {s : Shared} {Q : Value → Shared → Prop}

theorem paired_filter {F : Value → Value → Prop} {vs ys : List Value} (h : Paired F (vs.filter fun _ => true) ys) : Paired F vs ys := by
  rwa [List.filter_eq_self.mpr fun _ _ => rfl] at h

theorem list_of_places {items : Array Value} {vs : List Value} (hlen : vs.length = items.size) (hP : ∀ (j : Nat) v, vs[j]? = some v → items[j]? = some v) : vs = items.toList := by
  apply List.ext_getElem?
  intro j
  rcases Nat.lt_or_ge j vs.length with h | h
  · have := hP j vs[j] (by simp [h])
    simp [h] at this ⊢
    rw [this]
  · have h2 : items.toList.length ≤ j := by simp; omega
    rw [List.getElem?_eq_none h, List.getElem?_eq_none h2]

/-- a list comprehension over a list, one name, no test; its element keeps what stands -/
theorem comp_list {elt iter : Expr} {x : Str} {px : Pos} {scope : Scope} {cl : List (Str × Addr)} {pos : Pos} {l : Addr} {items : Array Value} (F : Value → Value → Prop)
    (hh : A.handled = none) (hclos : closureFor scope env = pure cl) (hcell : ∀ y ∈ scope.names, y.2 ≠ .cell) (hkind : scope.kind = .function)
    (hnames : ∀ y ∈ scope.names, y.2 = .local → scope.names.lookup y.1 = some .local) (hx : scope.names.lookup x = some .local)
    (hiter : ∀ Q' : Value → Shared → Prop, Q' (.ref l) s → wpAny (model prog w) A (eval iter env) Q' E s)
    (hl : s.heap.IsList l items) (hsz : items.size ≤ sizeLine)
    (helt : ∀ C (i : Nat) v s₃ m₃ E', items[i]? = some v → s.heap.objs.size ≤ C → s₃.heap.Ns C m₃ → m₃ x = some v → Ext s.heap s₃.heap → s.toks ≤ s₃.toks →
      wpAny (model prog w) A (eval elt (compEnvC scope cl C env)) (fun y s₄ => F v y ∧ Keeps s₃ s₄) E' s₃)
    (hQ : ∀ D h' tk ys, s.heap.get? D = none → h'.PlainList D ys → Paired F items.toList ys.toList → Ext s.heap h' → Q (.ref D) { s with heap := h', toks := tk })
    (hs : ∀ x, foldedSetIterable iter env x = pure x) :
    wpAny (model prog w) A (eval (.ListComp elt [⟨.Name x px, iter, [], 0⟩] scope pos) env) Q E s := by
  refine wpAny_ListComp_free (fun _ => true) F hclos hcell hkind hnames hx (hiter _ (wpAny_pyIter_list hl ?_)) hs
  have hlt : ∀ b o, s.heap.get? b = some o → b ≠ s.heap.objs.size := fun b o e => Nat.ne_of_lt (Heap.lt_size e)
  obtain ⟨ol, hol, _⟩ := id hl
  have hne := hlt _ _ hol
  refine ⟨s.heap.objs.size, [s.heap.objs.size, l], [s.heap.objs.size], items.size, _, _, rfl, Walks.list hh _ _ hne items, hsz, ⟨⟨_, Heap.get?_push_size _ rfl, rfl, rfl⟩, hl.push _⟩, ?_, ?_, ?_⟩
  · intro b hb
    have : s.heap.objs.size < (s.heap.push { cls := .type "list_iterator", data := .fields #[.ref l, .int 0 0] }).objs.size := by rw [Heap.size_push]; exact Nat.lt_succ_self _
    rcases List.mem_cons.mp hb with rfl | hb
    · exact this
    · rw [List.mem_singleton.mp hb]; exact Nat.lt_trans (Heap.lt_size hol) this
  · refine ⟨fun C i v s₃ m₃ E' _ _ _ _ _ _ => ?_, fun C i v s₃ m₃ E' hC hv _ hn hm hk htk => ?_⟩
    · show wpAny _ A (pure true) _ _ s₃
      exact wpAny_pure ⟨rfl, s₃.heap, s₃.toks, rfl, fun _ _ e => e⟩
    · refine helt C i v s₃ m₃ E' hv ?_ hn hm (fun b o e => hk b o (fun hb => hlt b o e (List.mem_singleton.mp hb)) (Heap.get?_push_of_some _ e)) htk
      refine Nat.le_trans ?_ hC
      rw [Heap.size_push]; exact Nat.le_succ _
  · intro D h' tk ys vs hD _ hpl hlen hP hF hk
    have hD' : s.heap.get? D = none := by
      cases e : s.heap.get? D with
      | none => rfl
      | some o => rw [Heap.get?_push_of_some _ e] at hD; cases hD
    have hv := list_of_places hlen hP
    refine hQ D h' tk ys hD' hpl (hv ▸ paired_filter hF) fun b o e => ?_
    exact hk b o (fun hb => hlt b o e (List.mem_singleton.mp hb)) (Heap.get?_push_of_some _ e)
end
end Mine
end

section
local macro_rules | `(tactic| walk_at "pad") => `(tactic| fail "pad")
local macro_rules | `(tactic| walk_at "pad") => `(tactic| fail "pad")
local macro_rules | `(tactic| walk_at "pad") => `(tactic| fail "pad")
local macro_rules | `(tactic| walk_at "pad") => `(tactic| fail "pad")
local macro_rules | `(tactic| walk_at "pad") => `(tactic| fail "pad")
local macro_rules | `(tactic| walk_at "pad") => `(tactic| fail "pad")
local macro_rules | `(tactic| walk_at "pad") => `(tactic| fail "pad")
local macro_rules | `(tactic| walk_at "pad") => `(tactic| fail "pad")
local macro_rules | `(tactic| walk_at "pad") => `(tactic| fail "pad")
local macro_rules | `(tactic| walk_at "pad") => `(tactic| fail "pad")
local macro_rules | `(tactic| walk_at "pad") => `(tactic| fail "pad")
local macro_rules | `(tactic| walk_at "pad") => `(tactic| fail "pad")
local macro_rules | `(tactic| walk_at "pad") => `(tactic| fail "pad")
local macro_rules | `(tactic| walk_at "pad") => `(tactic| fail "pad")
theorem Mine.freshC3 : True ∧ True := by
  w_top off
  walk1
  all_goals exact True.intro
end

/-! C3 -/
section
open PySem PySem.W PyProof.Rows PySem.Calls
set_option maxRecDepth 1000000
set_option maxHeartbeats 400000
namespace Mine
theorem filled3 : ∀ (p : Params), hd.heap_39 p = hd.heap_39 p ∧ PySem.Challenge.rw_mj0093_01 = PySem.Challenge.rw_mj0093_01 := by
  k_fill; exact fun _ => ⟨rfl, rfl⟩
local macro_rules | `(tactic| ktr_enter) => `(tactic| (refine' enter ?k1 ?k2 ?k3 ?k6 ?k7 ?k8 ?k9 ?kB ?_ ?c2 ?c3 ?c4 ?c5; (case k1 => k_asm); (case k2 => k_asm); (case k3 => k_asm);  (case k6 => k_is); (case k7 => k_is); (case k8 => ktr_room); (case k9 => exact BindsTo.of_eq rfl); (case c5 => decide); (case kB => exact locs rfl); (case c2 => exact rfl); (case c3 => exact rfl); (case c4 => exact rfl)))

variable {w : World} {dp un : Nat} {gd : Option (List Code)} {outer : List Env} {base : Heap} {mean : ExcName → Option Value} {mg mb : Str → Option Value} {s : Shared} {Q E : Value → Shared → Prop}

local macro_rules | `(tactic| walk_at "pyIter str") => `(tactic| (k_here; refine halt ?_))
local macro_rules | `(tactic| walk_at "exec For Name Name cons nil") => `(tactic| (refine halt ?_))
local macro_rules | `(tactic| walk_at "exec For Name Name") => `(tactic| (refine halt ?_))
local macro_rules | `(tactic| walk_at "exec For") => `(tactic| (refine halt ?_))
local macro_rules | `(tactic| walk_at "eval ListComp") => `(tactic| (refine halt ?_))
local macro_rules | `(tactic| walk_at "InvEndN") => `(tactic| (refine halt ?_))
theorem inv_end {h₀ : Heap} {L : Addr} {σ : Type} {Led : σ → List (Addr × Obj)} {ps : σ → List (Str × Value)} {Facts : σ → Prop} {x : Str} {stored : List Str} {m₀ m' : Str → Option Value} {P : List Int → σ → Prop} {pre : List Int} {own news' : List (Addr × Obj)} {adr : List Addr} {s₁ : Shared} {h' : Heap} {tk : Nat} (c : σ)
    (F : Fr h₀ L h' m') (N : News h₀ L h' news') (hn : news' = Led c ++ own) (ha : (Led c).map (·.1) = adr) (hS : Facts c) (hp : P pre c) (hk : ∀ p ∈ ps c, m' p.1 = some p.2) (hr : ∀ z, z ≠ x → (∀ p ∈ ps c, z ≠ p.1) → stored.contains z = false → m' z = m₀ z) :
    InvEndN h₀ L (KstS Led ps Facts x stored m₀ P pre) own adr s₁ { s₁ with heap := h', toks := tk } :=
  ⟨h', tk, m', news', Led c, rfl, F, N, fun p hp => hn ▸ List.mem_append_left _ hp, fun p hp => hn ▸ List.mem_append_right _ hp, ha, c, rfl, hS, hk, hr, hp⟩

def hparts (l : List Nat) : List (List Nat) := (hrun l).res ++ (if (hrun l).part = [] then [] else [(hrun l).part])
theorem codes_nat (x : Str) : (KStt.codes x).map Int.toNat = x.cps.toList := by
  unfold KStt.codes
  rw [List.map_map]
  exact (List.map_congr_left (g := _root_.id) fun c _ => Int.toNat_natCast c).trans (List.map_id _)
theorem strip_paired : ∀ {us ys : List Value} {ws : List Str}, StrsAre us ws → Paired (fun v y => ∃ x t t', v = .str x t ∧ y = .str (Txt.strip x) t') us ys → StrsAre ys (ws.map Txt.strip)
  | _, _, _, .nil, .nil => .nil
  | _, _, _, .cons _ _ h, .cons ⟨_, _, _, e, e'⟩ hp => by cases e; subst e'; exact .cons _ _ (strip_paired h hp)
section
variable {x : Str} {us : List Value} {ws : List Str} {n : Nat} {part : Str} {tp : Tok} {esc quo : Bool}
theorem httpw (hph : PH (KStt.codes x) (us, ws, n, part, tp, esc, quo)) (a : (part.length : Int) ≠ 0) : (ws ++ [part]).map (·.cps.toList) = hparts x.cps.toList := by
  have hr := hph.1
  rw [codes_nat] at hr
  have e : part.cps.toList ≠ [] := fun h => a (by have := congrArg List.length h; simp at this; show ((part.cps.size : Nat) : Int) = 0; simp [this])
  simp only [hparts, hr, if_neg e, List.map_append, List.map_cons, List.map_nil]
theorem httpw0 (hph : PH (KStt.codes x) (us, ws, n, part, tp, esc, quo)) (a : (part.length : Int) = 0) : ws.map (·.cps.toList) = hparts x.cps.toList := by
  have hr := hph.1
  rw [codes_nat] at hr
  have e : part.cps.toList = [] := by
    apply List.eq_nil_of_length_eq_zero
    rw [Array.length_toList]
    have : part.length = part.cps.size := rfl
    omega
  simp only [hparts, hr, if_pos e, List.append_nil]
theorem strs_mem : ∀ {us : List Value} {ws : List Str}, StrsAre us ws → ∀ v ∈ us, ∃ y t, v = .str y t ∧ y ∈ ws
  | _, _, .cons y t h, v, hv => by
    rcases List.mem_cons.mp hv with rfl | hv
    · exact ⟨y, t, rfl, .head _⟩
    · obtain ⟨y, t, e, hm⟩ := strs_mem h v hv; exact ⟨y, t, e, .tail _ hm⟩
theorem hrun_len (l : List Nat) : ∀ st : HS, (∀ p ∈ st.res, p.length ≤ n) → st.part.length + l.length ≤ n → (∀ p ∈ (l.foldl hstep st).res, p.length ≤ n) := by
  induction l with
  | nil => intro st h1 _; exact h1
  | cons c r ih =>
    intro st h1 h2
    rw [List.foldl_cons]
    simp only [List.length_cons] at h2
    apply ih
    · unfold hstep
      repeat' split
      all_goals first | exact h1 | (intro p hp; rcases List.mem_append.mp hp with q | q; exact h1 p q; rw [List.mem_singleton.mp q]; omega)
    · unfold hstep
      repeat' split
      all_goals (simp only [List.length_append, List.length_singleton, List.length_nil]; omega)
theorem httpb0 (hx : x.length ≤ 1000000) (hph : PH (KStt.codes x) (us, ws, n, part, tp, esc, quo)) (hS : StrsAre us ws) : ∀ v ∈ us, ∃ y t, v = .str y t ∧ y.length ≤ 1000000 := by
  have hr := hph.1
  rw [codes_nat] at hr
  intro v hv
  obtain ⟨y, t, e, hm⟩ := strs_mem hS v hv
  refine ⟨y, t, e, ?_⟩
  have := hrun_len (n := 1000000) x.cps.toList h0 (fun p hp => nomatch hp) (by simp only [h0, List.length_nil, Array.length_toList]; have : x.length = x.cps.size := rfl; omega)
  rw [show List.foldl hstep h0 x.cps.toList = hrun x.cps.toList from rfl, hr] at this
  have := this y.cps.toList (List.mem_map_of_mem hm)
  rw [Array.length_toList] at this
  exact this
theorem httpb (hx : x.length ≤ 1000000) (hph : PH (KStt.codes x) (us, ws, n, part, tp, esc, quo)) (_ : (part.length : Int) ≠ 0) (hS : StrsAre us ws) : ∀ v ∈ us ++ [Value.str part tp], ∃ y t, v = .str y t ∧ y.length ≤ 1000000 := by
  intro v hv
  rcases List.mem_append.mp hv with hv | hv
  · exact httpb0 hx hph hS v hv
  · rw [List.mem_singleton.mp hv]
    refine ⟨part, tp, rfl, ?_⟩
    have h2 := hph.2.2
    rw [KStt.codes_length] at h2
    exact Nat.le_trans h2 hx
end
theorem c_http {x : Str} {tx : Tok} (a : Amb w dp un gd outer base mean mg mb s.heap) (hx : x.length ≤ 1000000)
    (h : ∀ D ys rs h' tk, s.heap.get? D = none → h'.PlainList D ys → StrsAre ys.toList rs → ∀ ws : List Str, ws.map (·.cps.toList) = hparts x.cps.toList → rs = ws.map Txt.strip → Ext s.heap h' → Q (.ref D) { s with heap := h', toks := tk }) :
    wpAny (model PR w) (AR dp un gd outer) (call (.ref 58) [.str x tx]) Q E s := by
  obtain ⟨B, X, T, hdp, hun⟩ := a
  refine wpAny_call ?_
  ktr_enter
  intro g L' h₁ hg F' N' B' X' T'; (try dsimp only)
  clear B X T
  k_steps
  refine Halt.mk (For_invV g rfl rfl ?_)
  k_steps
  rename Fr _ _ _ _ => F9
  rename News _ _ _ [(_, W.listOf _ _)] => N9
  rename_i aR _ _ _ _ _ _
  refine' Halt.mk (KStt.kst_text (σ := HSt) (fun c => [(aR, W.listOf c.1.toArray c.2.2.1)]) (fun c => [(Str.ofString "part", .str c.2.2.2.1 c.2.2.2.2.1), (Str.ofString "escape", .bool c.2.2.2.2.2.1), (Str.ofString "quote", .bool c.2.2.2.2.2.2)]) (fun c => StrsAre c.1 c.2.1) [] PH ([], [], 0, Str.ofString "", ?tp, false, false) rfl F9 N9 .nil ?hk ?hp ?turn ?done)
  case hk => kst_all
  case hp => exact ⟨rfl, Nat.le_refl _, by show (Str.ofString "").length ≤ 0; decide⟩
  case turn =>
    rintro ⟨us, ws, n, part, tp, esc, quo⟩ pre post cn t u h9 tk9 own heq hoff hS hph F8 N8
    dsimp only at hS F8 N8 ⊢
    clear F9 N9
    have hpl : pre.length < 1000000 := by
      have e := congrArg List.length heq
      rw [KStt.codes_length] at e
      simp at e; omega
    have hl1 : us.length ≤ pre.length := hph.2.1
    have hl2 : part.length ≤ pre.length := hph.2.2
    k_steps
    · rename Fr _ _ _ _ => F7
      rename News _ _ _ _ => N7
      refine' Halt.mk (inv_end (us, ws, n, part ++ ⟨#[cn]⟩, ?u0, false, quo) F7 N7 ?n1 rfl (hS) (ph1 hph (by assumption)) ?k1 ?k2)
      case n1 => simp
      case k1 => kst_all
      case k2 => (intro z z0 z1 z2; have z3 := z1 _ (.head _); have z4 := z1 _ (.tail _ (.head _)); have z5 := z1 _ (.tail _ (.tail _ (.head _))); dsimp only at z3 z4 z5; simp [kstB, z0, z3, z4, z5])
    · rename Fr _ _ _ _ => F7
      rename News _ _ _ _ => N7
      refine' Halt.mk (inv_end (us, ws, n, part, ?u1, true, quo) F7 N7 ?n1 rfl (hS) (ph2 hph (by assumption) (by assumption) (by assumption)) ?k1 ?k2)
      case n1 => simp
      case k1 => kst_all
      case k2 => (intro z z0 z1 z2; have z3 := z1 _ (.head _); have z4 := z1 _ (.tail _ (.head _)); have z5 := z1 _ (.tail _ (.tail _ (.head _))); dsimp only at z3 z4 z5; simp [kstB, z0, z3, z4, z5])
    · rename Fr _ _ _ _ => F7
      rename News _ _ _ _ => N7
      refine' Halt.mk (inv_end (us, ws, n, part ++ ⟨#[cn]⟩, ?u2, esc, false) F7 N7 ?n1 rfl (hS) (ph3 hph (by assumption) (by assumption) (by assumption) (by assumption)) ?k1 ?k2)
      case n1 => simp
      case k1 => kst_all
      case k2 => (intro z z0 z1 z2; have z3 := z1 _ (.head _); have z4 := z1 _ (.tail _ (.head _)); have z5 := z1 _ (.tail _ (.tail _ (.head _))); dsimp only at z3 z4 z5; simp [kstB, z0, z3, z4, z5])
    · rename Fr _ _ _ _ => F7
      rename News _ _ _ _ => N7
      refine' Halt.mk (inv_end (us, ws, n, part ++ ⟨#[cn]⟩, ?u3, esc, quo) F7 N7 ?n1 rfl (hS) (ph4 hph (by assumption) (by assumption) (by assumption) (by assumption)) ?k1 ?k2)
      case n1 => simp
      case k1 => kst_all
      case k2 => (intro z z0 z1 z2; have z3 := z1 _ (.head _); have z4 := z1 _ (.tail _ (.head _)); have z5 := z1 _ (.tail _ (.tail _ (.head _))); dsimp only at z3 z4 z5; simp [kstB, z0, z3, z4, z5])
    · rename Fr _ _ _ _ => F7
      rename News _ _ _ _ => N7
      refine' Halt.mk (inv_end (us ++ [.str part tp], ws ++ [part], n + 1, Str.ofString "", ?u4, esc, quo) F7 N7 ?n1 rfl (KStt.strs_snoc hS) (ph5 hph (by assumption) (by assumption) (by assumption)) ?k1 ?k2)
      case n1 => simp
      case k1 => kst_all
      case k2 => (intro z z0 z1 z2; have z3 := z1 _ (.head _); have z4 := z1 _ (.tail _ (.head _)); have z5 := z1 _ (.tail _ (.tail _ (.head _))); dsimp only at z3 z4 z5; simp [kstB, z0, z3, z4, z5])
    · rename Fr _ _ _ _ => F7
      rename News _ _ _ _ => N7
      refine' Halt.mk (inv_end (us, ws, n, part ++ ⟨#[cn]⟩, ?u5, esc, true) F7 N7 ?n1 rfl (hS) (ph6 hph (by assumption) (by assumption) (by assumption) (by assumption)) ?k1 ?k2)
      case n1 => simp
      case k1 => kst_all
      case k2 => (intro z z0 z1 z2; have z3 := z1 _ (.head _); have z4 := z1 _ (.tail _ (.head _)); have z5 := z1 _ (.tail _ (.tail _ (.head _))); dsimp only at z3 z4 z5; simp [kstB, z0, z3, z4, z5])
    · rename Fr _ _ _ _ => F7
      rename News _ _ _ _ => N7
      refine' Halt.mk (inv_end (us, ws, n, part ++ ⟨#[cn]⟩, ?u6, esc, quo) F7 N7 ?n1 rfl (hS) (ph7 hph (by assumption) (by assumption) (by assumption) (by assumption)) ?k1 ?k2)
      case n1 => simp
      case k1 => kst_all
      case k2 => (intro z z0 z1 z2; have z3 := z1 _ (.head _); have z4 := z1 _ (.tail _ (.head _)); have z5 := z1 _ (.tail _ (.tail _ (.head _))); dsimp only at z3 z4 z5; simp [kstB, z0, z3, z4, z5])
  case done =>
    rintro ⟨us, ws, n, part, tp, esc, quo⟩ u h9 tk9 hS hph F8 N8
    dsimp only at hS F8 N8 ⊢
    clear F9 N9
    have hl0 : (KStt.codes x).length ≤ 1000000 := by rw [KStt.codes_length]; exact hx
    have hl1 : us.length ≤ 1000000 := Nat.le_trans hph.2.1 hl0
    have hl2 : part.length ≤ 1000000 := Nat.le_trans hph.2.2 hl0
    k_steps
    · rename Fr _ _ _ _ => F7
      rename News _ _ _ _ => N7
      have hS2 : StrsAre (us ++ [Value.str part tp]) (ws ++ [part]) := KStt.strs_snoc hS
      have hub : ∀ v ∈ (us ++ [Value.str part tp]), ∃ y t, v = .str y t ∧ y.length ≤ 1000000 := httpb hx hph (by assumption) hS
      refine Halt.mk (comp_list (items := us.toArray.push (Value.str part tp)) (fun v y => ∃ x t t', v = .str x t ∧ y = .str (Txt.strip x) t') rfl (closureFor_none (by decide)) (by decide) rfl (by decide) rfl (fun Q' hQ' => ?it) ((N7 _ (.head _)).1 |> fun e => ⟨_, e, rfl, _, rfl⟩) ?sz ?elt ?q (fun _ => rfl))
      case it => (k_steps; exact hQ')
      case sz => (simp; rw [sizeLine_eq]; omega)
      case elt =>
        intro C i v s₃ m₃ E' hv hC hn hm hk htk
        obtain ⟨y, t, rfl, hy⟩ := hub v (by have := Array.mem_of_getElem? hv; simpa using this)
        have F6 : Fr _ C s₃.heap m₃ := ⟨hn, hk, hC⟩
        k_steps
        exact ⟨s₃.heap, _, rfl, fun _ _ e => e⟩
      case q =>
        intro D h' tk ys hD hpl hP hk
        subst hg
        refine h D ys _ h' tk ?_ hpl (strip_paired hS2 (by simpa using hP)) (ws ++ [part]) ?_ rfl fun b o e => hk b o (F7.keep b o e)
        · cases e : s.heap.get? D with
          | none => rfl
          | some o => have := F7.keep D o e; rw [hD] at this; cases this
        · exact httpw hph (by assumption)
    · rename Fr _ _ _ _ => F7
      rename News _ _ _ _ => N7
      have hS2 : StrsAre (us) (ws) := hS
      have hub : ∀ v ∈ (us), ∃ y t, v = .str y t ∧ y.length ≤ 1000000 := fun v hv => httpb0 hx hph hS v hv
      refine Halt.mk (comp_list (items := us.toArray) (fun v y => ∃ x t t', v = .str x t ∧ y = .str (Txt.strip x) t') rfl (closureFor_none (by decide)) (by decide) rfl (by decide) rfl (fun Q' hQ' => ?it) ((N7 _ (.head _)).1 |> fun e => ⟨_, e, rfl, _, rfl⟩) ?sz ?elt ?q (fun _ => rfl))
      case it => (k_steps; exact hQ')
      case sz => (simp; rw [sizeLine_eq]; omega)
      case elt =>
        intro C i v s₃ m₃ E' hv hC hn hm hk htk
        obtain ⟨y, t, rfl, hy⟩ := hub v (by have := Array.mem_of_getElem? hv; simpa using this)
        have F6 : Fr _ C s₃.heap m₃ := ⟨hn, hk, hC⟩
        k_steps
        exact ⟨s₃.heap, _, rfl, fun _ _ e => e⟩
      case q =>
        intro D h' tk ys hD hpl hP hk
        subst hg
        refine h D ys _ h' tk ?_ hpl (strip_paired hS2 (by simpa using hP)) (ws) ?_ rfl fun b o e => hk b o (F7.keep b o e)
        · cases e : s.heap.get? D with
          | none => rfl
          | some o => have := F7.keep D o e; rw [hD] at this; cases this
        · exact httpw0 hph (by assumption)
end Mine
end

/-! P3 -/
section
open PySem PySem.W PyProof.Rows PySem.Calls
namespace Mine
open Builtin Builtin.Str StrLaws
/-- the text of a list of signs -/
def S (l : List Nat) : Str := ⟨l.toArray⟩
theorem S_list (l : List Nat) : (S l).cps.toList = l := rfl
theorem S_of (x : Str) : S x.cps.toList = x := rfl
theorem S_inj {a b : List Nat} (h : S a = S b) : a = b := congrArg (·.cps.toList) h
theorem S_len (l : List Nat) : (S l).length = l.length := by show l.toArray.size = _; simp
theorem S_cat (a b : List Nat) : S a ++ S b = S (a ++ b) := by
  apply Str.ext'; apply Array.toList_inj.mp
  rw [Str.cps_append, Array.toList_append]
  rfl
theorem eq_is : Str.ofString "=" = ⟨#[61]⟩ := by decide +kernel

theorem split1 (k v : List Nat) (hk : 61 ∉ k) : Txt.splitMax (S (k ++ 61 :: v)) (Str.ofString "=") 1 = [S k, S v] := by
  rw [eq_is]
  have hlen : (S (k ++ 61 :: v)).length = k.length + v.length + 1 := by rw [S_len]; simp; omega
  have hkind : strKind ⟨#[61]⟩ = 1 := by decide +kernel
  have h1 := strKind_pos (S (k ++ 61 :: v))
  have hat : ∀ j, At (S (k ++ 61 :: v)) ⟨#[61]⟩ (S (k ++ 61 :: v)).length j ↔ (k ++ 61 :: v)[j]? = some 61 := fun j => subAt_one _ 61 j
  have hocc : occurrences (S (k ++ 61 :: v)) ⟨#[61]⟩ 0 (S (k ++ 61 :: v)).length 1 = [k.length] := by
    have hle := occ_length_le (S (k ++ 61 :: v)) ⟨#[61]⟩ 0 (S (k ++ 61 :: v)).length 1
    have hk0 : At (S (k ++ 61 :: v)) ⟨#[61]⟩ (S (k ++ 61 :: v)).length k.length := (hat _).mpr (by simp)
    rcases occ_head (S (k ++ 61 :: v)) ⟨#[61]⟩ 1 (Nat.le_refl _) with ⟨_, hn⟩ | ⟨i, r, he, hi, hn⟩
    · exact absurd hk0 (hn _)
    · have hir : r = [] := by rw [he] at hle; simpa using hle
      have e : i = k.length := by
        rcases Nat.lt_trichotomy i k.length with h | h | h
        · have := (hat i).mp hi
          rw [List.getElem?_append_left h] at this
          exact absurd (List.mem_of_getElem? this) hk
        · exact h
        · exact absurd hk0 (hn _ h)
      rw [he, hir, e]
  unfold Txt.splitMax
  rw [if_neg (by rw [hlen, hkind]; simp; exact ⟨by show 1 ≤ _; omega, Nat.ne_of_gt h1⟩)]
  show (if (occurrences (S (k ++ 61 :: v)) ⟨#[61]⟩ 0 (S (k ++ 61 :: v)).length 1).isEmpty = true then _ else partsBetween _ (occurrences (S (k ++ 61 :: v)) ⟨#[61]⟩ 0 (S (k ++ 61 :: v)).length 1) 1) = _
  rw [hocc, if_neg (by simp), partsBetween_eq]
  show [strSub _ 0 k.length, strSub _ (k.length + 1) _] = _
  congr 1
  · apply Str.ext'; apply Array.toList_inj.mp
    rw [strSub_toList]
    simp [S]
  · congr 1
    apply Str.ext'; apply Array.toList_inj.mp
    rw [strSub_toList, hlen]
    simp [S]
end Mine
end

/-! KV -/
section
open PySem PySem.W PyProof.Rows PySem.Calls
set_option maxRecDepth 100000
set_option maxHeartbeats 400000
namespace Mine
def JS {σ : Type} (Led : σ → List (Addr × Obj)) (ps : σ → List (Str × Value)) (Facts : σ → Prop) (x : Str) (stored : List Str) (m₀ : Str → Option Value) (P : Nat → σ → Prop) (i : Nat) (m : Str → Option Value) (nx : List (Addr × Obj)) : Prop :=
  ∃ c : σ, nx = Led c ∧ Facts c ∧ (∀ p ∈ ps c, m p.1 = some p.2) ∧ (∀ z, z ≠ x → (∀ p ∈ ps c, z ≠ p.1) → stored.contains z = false → m z = m₀ z) ∧ P i c

section
variable {prog : Program} {w : World} {A : Around} {E : Value → Shared → Prop} {s : Shared} {env : Env} {h₀ : Heap} {x : Str} {body : List Stmt} {Q : Flow → Shared → Prop}
theorem kst_vals {σ : Type} {l : Addr} {vs : List Value} {m₀ : Str → Option Value} (Led : σ → List (Addr × Obj)) (ps : σ → List (Str × Value)) (Facts : σ → Prop) (stored : List Str) (P : Nat → σ → Prop) (c₀ : σ)
    (hh : A.handled = none) (hl : h₀.IsList l vs.toArray) (F : Fr h₀ env.locals s.heap m₀) (N : News h₀ env.locals s.heap (Led c₀)) (hf : Facts c₀) (hk : ∀ p ∈ ps c₀, m₀ p.1 = some p.2) (hp : P 0 c₀)
    (turn : ∀ (c : σ) (i : Nat) v (u : Str → Option Value) h tk own, vs[i]? = some v → OwnOff own ((Led c₀).map (·.1)) → Facts c → P i c →
      Fr h₀ env.locals h (fun y => if y = x then some v else kstB (fun z => if stored.contains z then u z else m₀ z) (ps c) y) → News h₀ env.locals h (Led c ++ own) →
      wpAny (model prog w) A (execs body env) (InvPostN h₀ env.locals (JS Led ps Facts x stored m₀ P (i + 1)) own ((Led c₀).map (·.1)) { s with heap := h, toks := tk } Q) E { s with heap := h, toks := tk })
    (done : ∀ (c : σ) (u : Str → Option Value) h tk, Facts c → P vs.length c → Fr h₀ env.locals h (fun y => if y = x then u y else kstB (fun z => if stored.contains z then u z else m₀ z) (ps c) y) → News h₀ env.locals h (Led c) → Q .next { s with heap := h, toks := tk }) :
    wpAny (model prog w) A (pyIter (.ref l)) (fun it s₂ => LoopAtV prog w A h₀ env x body Q E it s₂) E s := by
  have hls : s.heap.IsList l vs.toArray := hl.at fun o e => F.keep l o e
  obtain ⟨ol, hol, _⟩ := id hl
  have hlt : l < h₀.objs.size := Heap.lt_size hol
  have hne : l ≠ s.heap.objs.size := Nat.ne_of_lt (Nat.lt_trans (Nat.lt_of_lt_of_le hlt F.above) F.ns.lt)
  refine wpAny_pyIter_list hls ?_
  have W := Walks.list (prog := prog) (w := w) hh s.heap.objs.size l hne vs.toArray
  refine loop_invN (fun i m nx => JS Led ps Facts x stored m₀ P i m nx) W ?_ ?_ ?_ ?_ ⟨⟨_, Heap.get?_push_size _ rfl, rfl, rfl⟩, hls.push _⟩ (F.push _) (fun p hp => ⟨Heap.get?_push_of_some _ (N p hp).1, (N p hp).2⟩) ⟨c₀, rfl, hf, hk, fun _ _ _ _ => rfl, hp⟩ ?_ ?_
  · intro hm
    rcases List.mem_cons.mp hm with e | hm
    · exact absurd F.ns.lt (e ▸ Nat.lt_irrefl _)
    · exact absurd (Nat.lt_of_lt_of_le hlt F.above) ((List.mem_singleton.mp hm) ▸ Nat.lt_irrefl _)
  · intro b hb
    rw [List.mem_singleton.mp hb]
    exact next_is_new F
  · intro p hp hI
    exact absurd (Heap.lt_size (N p hp).1) ((List.mem_singleton.mp hI) ▸ Nat.lt_irrefl _)
  · intro p hp hI
    rcases List.mem_cons.mp hI with e | hm
    · exact absurd (Heap.lt_size (N p hp).1) (e ▸ Nat.lt_irrefl _)
    · have := (N p hp).2.2; rw [List.mem_singleton.mp hm, hol] at this; cases this
  · rintro i v m₁ nx h tk own hi hv _ hoff ⟨c, rfl, hf', h1, h2, hp'⟩ F₁ N₁
    exact turn c i v m₁ h tk own (by simpa using hv) hoff hf' hp' (kst_fr h1 h2 F₁) N₁
  · rintro m₁ nx h tk ⟨c, rfl, hf', h1, h2, hp'⟩ F₁ N₁
    have hp'' : P vs.length c := by simpa using hp'
    exact done c m₁ h tk hf' hp'' (kst_frOut h1 h2 F₁) N₁
end
theorem js_end {h₀ : Heap} {L : Addr} {σ : Type} {Led : σ → List (Addr × Obj)} {ps : σ → List (Str × Value)} {Facts : σ → Prop} {x : Str} {stored : List Str} {m₀ m' : Str → Option Value} {P : Nat → σ → Prop} {i : Nat} {own news' : List (Addr × Obj)} {adr : List Addr} {s₁ : Shared} {h' : Heap} {tk : Nat} (c : σ)
    (F : Fr h₀ L h' m') (N : News h₀ L h' news') (hn : ∀ p ∈ Led c ++ own, p ∈ news') (ha : (Led c).map (·.1) = adr) (hS : Facts c) (hp : P i c) (hk : ∀ p ∈ ps c, m' p.1 = some p.2) (hr : ∀ z, z ≠ x → (∀ p ∈ ps c, z ≠ p.1) → stored.contains z = false → m' z = m₀ z) :
    InvEndN h₀ L (JS Led ps Facts x stored m₀ P i) own adr s₁ { s₁ with heap := h', toks := tk } :=
  ⟨h', tk, m', news', Led c, rfl, F, N, fun p hp => hn p (List.mem_append_left _ hp), fun p hp => hn p (List.mem_append_right _ hp), ha, c, rfl, hS, hk, hr, hp⟩
end Mine
end

section
local macro_rules | `(tactic| walk_at "pad") => `(tactic| fail "pad")
local macro_rules | `(tactic| walk_at "pad") => `(tactic| fail "pad")
local macro_rules | `(tactic| walk_at "pad") => `(tactic| fail "pad")
local macro_rules | `(tactic| walk_at "pad") => `(tactic| fail "pad")
local macro_rules | `(tactic| walk_at "pad") => `(tactic| fail "pad")
local macro_rules | `(tactic| walk_at "pad") => `(tactic| fail "pad")
local macro_rules | `(tactic| walk_at "pad") => `(tactic| fail "pad")
local macro_rules | `(tactic| walk_at "pad") => `(tactic| fail "pad")
local macro_rules | `(tactic| walk_at "pad") => `(tactic| fail "pad")
local macro_rules | `(tactic| walk_at "pad") => `(tactic| fail "pad")
local macro_rules | `(tactic| walk_at "pad") => `(tactic| fail "pad")
local macro_rules | `(tactic| walk_at "pad") => `(tactic| fail "pad")
local macro_rules | `(tactic| walk_at "pad") => `(tactic| fail "pad")
local macro_rules | `(tactic| walk_at "pad") => `(tactic| fail "pad")
theorem Mine.freshC4 : True ∧ True := by
  w_top off
  walk1
  all_goals exact True.intro
end

/-! C4 -/
section
open PySem PySem.W PyProof.Rows PySem.Calls
set_option maxRecDepth 100000
set_option maxHeartbeats 400000
namespace Mine
theorem filled4 : ∀ (p : Params), hd.heap_39 p = hd.heap_39 p ∧ PySem.Challenge.rw_mj0093_01 = PySem.Challenge.rw_mj0093_01 := by
  k_fill; exact fun _ => ⟨rfl, rfl⟩
local macro_rules | `(tactic| ktr_enter) => `(tactic| (refine' enter ?k1 ?k2 ?k3 ?k6 ?k7 ?k8 ?k9 ?kB ?_ ?c2 ?c3 ?c4 ?c5; (case k1 => k_asm); (case k2 => k_asm); (case k3 => k_asm);  (case k6 => k_is); (case k7 => k_is); (case k8 => ktr_room); (case k9 => exact BindsTo.of_eq rfl); (case c5 => decide); (case kB => exact locs rfl); (case c2 => exact rfl); (case c3 => exact rfl); (case c4 => exact rfl)))

variable {w : World} {dp un : Nat} {gd : Option (List Code)} {outer : List Env} {base : Heap} {mean : ExcName → Option Value} {mg mb : Str → Option Value} {s : Shared} {Q E : Value → Shared → Prop}

local macro_rules | `(tactic| walk_at "exec For Name Name cons nil") => `(tactic| (refine halt ?_))
local macro_rules | `(tactic| walk_at "exec For Name Name") => `(tactic| (refine halt ?_))
local macro_rules | `(tactic| walk_at "exec For") => `(tactic| (refine halt ?_))
local macro_rules | `(tactic| walk_at "pyIter ref") => `(tactic| (refine halt ?_))
local macro_rules | `(tactic| walk_at "InvEndN") => `(tactic| (refine halt ?_))

local macro_rules | `(tactic| walk_at "call builtin:str.split") => `(tactic| (refine halt ?_))
local macro_rules | `(tactic| walk_at "setItem ref str") => `(tactic| (refine halt ?_))
theorem set_pairs {prog : Program} {A : Around} {h₀ : Heap} {L d : Addr} {m : Str → Option Value} {pre post : List (Addr × Obj)} {o : Obj} {kvs : List (Str × Value)} {k : Str} {tk : Tok} {v : Value} {Q : Unit → Shared → Prop}
    (F : Fr h₀ L s.heap m) (N : News h₀ L s.heap (pre ++ (d, o) :: post)) (h1 : ∀ p ∈ pre, p.1 ≠ d) (h2 : ∀ p ∈ post, p.1 ≠ d) (hod : o.IsDictOf (PySem.strKind prog w) kvs) (hsz : kvs.length ≤ sizeLine)
    (h : ∀ h' o', Fr h₀ L h' m → News h₀ L h' (pre ++ (d, o') :: post) → o'.IsDictOf (PySem.strKind prog w) (stored kvs k v) → Q () { s with heap := h', toks := s.toks + 1 }) :
    wpAny (model prog w) A (setItem (.ref d) (.str k tk) v) Q E s := by
  have D := N (d, o) (by simp)
  have hm : s.heap.DictOf (PySem.strKind prog w) d kvs := Heap.dictOf_iff.mpr ⟨o, D.1, hod⟩
  refine wpAny_setItem_pairs (knd := PySem.strKind prog w) (k := k) (strKind_is _ _ _ _) hm (fun h' hm' hs' => ?_) hsz
  obtain ⟨o', ho', hod'⟩ := Heap.dictOf_iff.mp hm'
  have F' : Fr h₀ L h' m := ⟨F.ns.sameBut hs' (Ne.symm D.2.1), fun b x q => (hs'.2 b (fun z => by have := D.2.2; rw [← z, q] at this; cases this)).trans (F.keep b x q), F.above⟩
  exact h h' o' F' (news_set N h1 h2 hs' ho') hod'

/-- what the elements are: a key without '=', an equals sign, a value that begins with no quote -/
structure Elts (tgt : List (List Nat × List Nat)) (es : List Str) : Prop where
  are : es = tgt.map fun p => S (p.1 ++ 61 :: p.2)
  key : ∀ p ∈ tgt, 61 ∉ p.1
  val : ∀ p ∈ tgt, ∃ c r, p.2 = c :: r ∧ c ≠ 34
  len : ∀ p ∈ tgt, p.1.length + p.2.length ≤ 50000
  nodup : (tgt.map (·.1)).Nodup
  few : tgt.length ≤ 1000

abbrev KSt := List (Str × Value) × Obj
def PK (tgt : List (List Nat × List Nat)) (i : Nat) (c : KSt) : Prop :=
  c.1.map (·.1) = (tgt.take i).map (fun p => S p.1) ∧ StrsAre (c.1.map (·.2)) ((tgt.take i).map fun p => S p.2)

theorem c_keqv {l : Addr} {vs : List Value} {es : List Str} {tgt : List (List Nat × List Nat)} (a : Amb w dp un gd outer base mean mg mb s.heap) (hl : s.heap.IsList l vs.toArray) (hS : StrsAre vs es) (hE : Elts tgt es)
    (h : ∀ D kvs h' tk, s.heap.get? D = none → (D == sysModules) = false → h'.DictOf (strKind PR w) D kvs → kvs.map (·.1) = tgt.map (fun p => S p.1) → StrsAre (kvs.map (·.2)) (tgt.map fun p => S p.2) → Ext s.heap h' → Q (.ref D) { s with heap := h', toks := tk }) :
    wpAny (model PR w) (AR dp un gd outer) (call (.ref 53) [.ref l]) Q E s := by
  obtain ⟨B, X, T, hdp, hun⟩ := a
  refine wpAny_call ?_
  ktr_enter
  intro g L' h₁ hg F' N' B' X' T'; (try dsimp only)
  clear B X T
  k_steps
  refine Halt.mk (For_invV g rfl rfl ?_)
  k_steps
  rename Fr _ _ _ _ => F9
  rename News _ _ _ [(_, _)] => N9
  rename Obj.IsDictOf (PySem.strKind _ _) _ _ => hD0
  rename_i aD _ oD hlo _ _ _ _ _
  subst hg
  refine' Halt.mk (kst_vals (σ := KSt) (fun c => [(aD, c.2)]) (fun _ => []) (fun c => c.2.IsDictOf (PySem.strKind PR w) c.1) [Str.ofString "k", Str.ofString "v"] (PK tgt) ([], oD) rfl hl F9 N9 hD0 ?hk ?hp ?turn ?done)
  case hk => exact fun _ hp => nomatch hp
  case hp => exact ⟨rfl, .nil⟩
  case turn =>
    rintro ⟨kvs, od⟩ i v u h9 tk9 own hv hoff hod hpk F8 N8
    dsimp only at hod F8 N8 ⊢
    clear F9 N9
    obtain ⟨y, t, rfl, hy⟩ := hS.item i v hv
    have hi : i < tgt.length := by
      have := (List.getElem?_eq_some_iff.mp hy).1
      rw [hE.are] at this; simpa using this
    have hmem : tgt[i] ∈ tgt := List.getElem_mem hi
    have hyp : y = S (tgt[i].1 ++ 61 :: tgt[i].2) := by
      have h2 := hy
      rw [hE.are, List.getElem?_map, List.getElem?_eq_getElem hi] at h2
      exact (Option.some.inj h2).symm
    obtain ⟨c, r, hcr, hc34⟩ := hE.val _ hmem
    have hlen := hE.len _ hmem
    have hyl : y.length ≤ 50001 := by rw [hyp, S_len]; simp; omega
    have hsp := split1 tgt[i].1 tgt[i].2 (hE.key _ hmem)
    rw [← hyp] at hsp
    have hv1 : (S tgt[i].2).length = r.length + 1 := by rw [S_len, hcr]; rfl
    rw [hcr] at hlen
    simp only [List.length_cons] at hlen
    have hv0 : (Txt.item (S tgt[i].2) 0 == Str.ofString "\"") = false := by
      obtain ⟨d, hd, hi'⟩ := item_at (x := S tgt[i].2) (i := 0) (Int.le_refl _) (by rw [hv1]; omega)
      rw [S_list, hcr] at hd
      simp at hd
      rw [hi', q_is, one_eq]; exact decide_eq_false (by rw [← hd]; exact hc34)
    k_steps
    refine Halt.mk (splitN2A F8 N8 (by decide) (by decide) ?_ (by rw [sizeLine_eq]; omega))
    intro ll h8 tk8 hll _ _ _ F7 N7
    rw [hsp] at hll
    obtain ⟨t1, t2, rfl⟩ : ∃ t1 t2, ll = [(S tgt[i].1, t1), (S tgt[i].2, t2)] := by
      match ll, hll with
      | [(a, t1), (b, t2)], e => simp at e; exact ⟨t1, t2, by rw [e.1, e.2]⟩
    have haD : aD < h9.objs.size := Heap.lt_size (N8 _ (.head _)).1
    clear F8 N8
    simp only [strValues, List.map_cons, List.map_nil] at N7
    generalize hvv : S tgt[i].2 = vv at *
    generalize hkk : S tgt[i].1 = kk at *
    k_steps
    rename Fr _ _ _ _ => F6
    rename News _ _ _ _ => N6
    have htake : tgt.take (i + 1) = tgt.take i ++ [tgt[i]] := by rw [List.take_add_one, List.getElem?_eq_getElem hi]; rfl
    have hkn : kk ∉ kvs.map (·.1) := by
      rw [hpk.1, ← hkk]
      intro hm
      obtain ⟨q, hq, e⟩ := List.mem_map.mp hm
      have hnd := hE.nodup
      have e2 : tgt = tgt.take i ++ tgt[i] :: tgt.drop (i + 1) := by rw [← List.singleton_append, ← List.append_assoc, ← htake, List.take_append_drop]
      rw [e2, List.map_append, List.map_cons] at hnd
      exact (List.nodup_append.mp hnd).2.2 q.1 (List.mem_map_of_mem hq) tgt[i].1 (.head _) (S_inj e)
    have hst : stored kvs kk (.str vv t2) = kvs ++ [(kk, .str vv t2)] := by
      unfold stored
      rw [if_neg]
      intro hany
      obtain ⟨q, hq, e⟩ := List.any_eq_true.mp hany
      exact hkn (List.mem_map.mpr ⟨q, hq, of_decide_eq_true e⟩)
    have hkl : kvs.length ≤ 1000 := by
      have e := congrArg List.length hpk.1
      have := hE.few
      simp at e; omega
    refine Halt.mk (set_pairs (pre := [(h9.objs.size, _)]) (post := own) (k := kk) (v := .str vv t2) F6 N6 ?h1 ?h2 hod ?sz ?_)
    case h1 => intro p hp; rw [List.mem_singleton.mp hp]; exact Nat.ne_of_gt haD
    case h2 => exact fun p hp => hoff p hp aD (.head _)
    case sz => rw [sizeLine_eq]; omega
    intro h5 o5 F5 N5 hod5
    clear F6 N6
    rw [hst] at hod5
    k_steps
    rename Fr _ _ _ _ => F4
    rename News _ _ _ _ => N4
    refine Halt.mk (js_end (kvs ++ [(kk, .str vv t2)], o5) F4 N4 ?n1 rfl hod5 ?p1 ?k1 ?k2)
    case n1 => intro p hp; simp at hp ⊢; rcases hp with h | h <;> simp [h]
    case p1 =>
      refine ⟨?_, ?_⟩
      · show (kvs ++ [(kk, Value.str vv t2)]).map (·.1) = (tgt.take (i + 1)).map fun p => S p.1
        rw [htake, List.map_append, List.map_append, hpk.1, ← hkk]; rfl
      · show StrsAre ((kvs ++ [(kk, Value.str vv t2)]).map (·.2)) ((tgt.take (i + 1)).map fun p => S p.2)
        rw [htake, List.map_append, List.map_append]
        have := KStt.strs_snoc (x := vv) (t := t2) hpk.2
        rw [← hvv] at this ⊢
        exact this
    case k1 => exact fun _ hp => nomatch hp
    case k2 => (intro z z0 _ z2; simp at z2; simp [kstB, z0, z2])
  case done =>
    rintro ⟨kvs, od⟩ u h9 tk9 hod hpk F8 N8
    dsimp only at hod F8 N8 ⊢
    clear F9 N9
    have hln : vs.length = tgt.length := by rw [hS.len_eq, hE.are, List.length_map]
    rw [hln] at hpk
    obtain ⟨hp1, hp2⟩ := hpk
    rw [List.take_length] at hp1 hp2
    k_steps
    rename Fr _ _ _ _ => F7
    rename News _ _ _ _ => N7
    have D := N7 _ (.head _)
    exact h aD kvs _ _ D.2.2 hlo (Heap.dictOf_iff.mpr ⟨od, D.1, hod⟩) hp1 hp2 F7.keep
end Mine
end

/-! X1 -/
section
open PySem PySem.W PyProof.Rows PySem.Calls Builtin Builtin.Str Builtin.BaseException Builtin.Exceptions
set_option maxRecDepth 100000
set_option maxHeartbeats 400000
namespace Mine
section
variable {prog : Program} {w : World} {A : Around} {E : Value → Shared → Prop} {s : Shared} {K : Frag} {e t0 C : Addr} {o : Obj} {vs : Array Value} {m : Str} {tk : Tok}

theorem own_entry {Q : Fin → Shared → Prop} (ho : s.heap.get? e = some o) (hd : o.data = .fields vs) (h0 : vs[0]? = some (.ref t0)) (ht : s.heap.TupAt t0 [.str m tk]) (hq : Q (.done (.ret (.str m tk))) s) :
    wpAny (model prog w) A (Builtin.«BaseException.__str__» ⟨[.ref e], []⟩) Q E s := by
  have hb : ∀ {Q' : Value × List Value → Shared → Prop} , Q' (.ref t0, [.str m tk]) s → wpAny (model prog w) A (bexcArgs (.ref e)) Q' E s := by
    intro Q' hq'
    obtain ⟨ot, k, hto, _, htd⟩ := ht
    unfold bexcArgs
    exact wpAny_bind (wpAny_field ho hd h0 (wpAny_bind (wpAny_seqItems hto htd (wpAny_pure hq'))))
  unfold Builtin.«BaseException.__str__»
  repeat (first | with_reducible refine hb ?_ | wp_step)
  exact hq

theorem own_check {M : Model} {Q : Unit → Shared → Prop} (X : K.In s.heap) (q : ktsIn K C "BaseException" = true) (ho : s.heap.get? e = some o) (hc : o.cls = .ref C) (hq : Q () s) :
    wpAny M A (checkBuiltinCall "BaseException.__str__" ⟨[.ref e], []⟩) Q E s := by
  obtain ⟨nm, qn, N, bs, bm, hdct, sn, sub, ab, col, dd, k0, k1, k2, k3, k5, newId, hC, hb, _⟩ := kts_cls X q
  have hk : builtinKind "BaseException.__str__" = some .slot := by decide +kernel
  have hsplit : splitId "BaseException.__str__" = some ("BaseException", "__str__") := by decide +kernel
  have hcB : (Value.ref C :: bm).contains (.type "BaseException") = true := by rw [List.contains_cons, hb, Bool.or_true]
  have ha := PySem.F.args_bexc_str (.ref e)
  obtain ⟨hp, g, d, t, os⟩ := s
  simp only [checkBuiltinCall, hk, hsplit]
  refine wpAny_bind ?_
  unfold isInstance
  repeat (first | (with_reducible refine wpAny_loadPart_at ho ?_; rw [hc]) | (with_reducible refine wpAny_isSubtype_exc hC ?_; rw [hcB]) | wp_step)
  exact hq

theorem own_call {Q : Value → Shared → Prop} (X : K.In s.heap) (q : ktsIn K C "BaseException" = true) (ho : s.heap.get? e = some o) (hc : o.cls = .ref C) (hd : o.data = .fields vs) (h0 : vs[0]? = some (.ref t0)) (ht : s.heap.TupAt t0 [.str m tk]) (hq : Q (.str m tk) s) :
    wpAny (model prog w) A (call (.builtin "BaseException.__str__") [.ref e]) Q E s := by
  refine wpAny_call (codeAny_call_builtin (by decide +kernel) PySem.F.entry_bexc_str (own_check X q ho hc ?_))
  exact own_entry ho hd h0 ht hq

theorem own_strOf {Q : Value → Shared → Prop} (hu : A.units < cLine) (X : K.In s.heap) (hs : findIn K (.ref C) "__str__" = some (some (.builtin "BaseException.__str__"))) (q : ktsIn K C "BaseException" = true) (ho : s.heap.get? e = some o) (hc : o.cls = .ref C) (hd : o.data = .fields vs) (h0 : vs[0]? = some (.ref t0)) (ht : s.heap.TupAt t0 [.str m tk]) (hq : Q (.str m tk) s) :
    wpAny (model prog w) A (strOf (.ref e)) Q E s := by
  have hty : Looks (model prog w) s.heap (typeOf (.ref e)) (.ref C) := hc ▸ (Looks.ld ho).andThen .now
  have hsp : ∀ {Q' : Option Value → Shared → Prop}, Q' (some (.str m tk)) s → wpAny (model prog w) A (callSpecial? (.ref e) (Str.ofString "__str__")) Q' E s := by
    intro Q' hq'
    refine wpAny_bind (wpAny_bind (hty.here ((looks_findIn X hs).here (wpAny_holding ?_))))
    have hb : bindSpecial (.builtin "BaseException.__str__") (.ref e) = pure (.builtin "BaseException.__str__", [.ref e]) := PySem.F.excStr_ValueError.str.bind _
    rw [hb]
    exact wpAny_bind (wpAny_pure (wpAny_bind (own_call X q ho hc hd h0 ht (wpAny_pure hq'))))
  unfold Builtin.Str.strOf
  repeat (first | with_reducible refine wpAny_cRoomFor hu ?_ | with_reducible refine hsp ?_ | wp_step)
  exact hq

theorem own_str {Q : Value → Shared → Prop} (hu : A.units + 2 < cLine) (X : K.In s.heap) (hs : findIn K (.ref C) "__str__" = some (some (.builtin "BaseException.__str__"))) (q : ktsIn K C "BaseException" = true) (ho : s.heap.get? e = some o) (hc : o.cls = .ref C) (hd : o.data = .fields vs) (h0 : vs[0]? = some (.ref t0)) (ht : s.heap.TupAt t0 [.str m tk]) (hq : Q (.str m tk) s) :
    wpAny (model prog w) A (call (.type "str") [.ref e]) Q E s :=
  callType_new PySem.F.called_str (by decide) (PySem.F.typeCall_str_1 _) (PySem.F.newCall_str_1 _) (fun obj => PySem.F.args_object_init_2 obj _) PySem.F.entry_str_new
    (meets_str_new (S := fun A' R s' => A'.units + 1 < cLine ∧ s' = s ∧ R (.ok (.ret (.str m tk))) s')
      fun _ _ A' _ s' hqq => hqq.2.1 ▸ own_strOf (A := A'.in1) hqq.1 X hs q ho hc hd h0 ht (hqq.2.1 ▸ hqq.2.2))
    ⟨(show A.units + 1 + 1 < cLine from hu), rfl, typeIs_str _ _ _, hq⟩
end
end Mine
end

section
local macro_rules | `(tactic| walk_at "pad") => `(tactic| fail "pad")
local macro_rules | `(tactic| walk_at "pad") => `(tactic| fail "pad")
local macro_rules | `(tactic| walk_at "pad") => `(tactic| fail "pad")
local macro_rules | `(tactic| walk_at "pad") => `(tactic| fail "pad")
local macro_rules | `(tactic| walk_at "pad") => `(tactic| fail "pad")
local macro_rules | `(tactic| walk_at "pad") => `(tactic| fail "pad")
local macro_rules | `(tactic| walk_at "pad") => `(tactic| fail "pad")
local macro_rules | `(tactic| walk_at "pad") => `(tactic| fail "pad")
local macro_rules | `(tactic| walk_at "pad") => `(tactic| fail "pad")
local macro_rules | `(tactic| walk_at "pad") => `(tactic| fail "pad")
local macro_rules | `(tactic| walk_at "pad") => `(tactic| fail "pad")
local macro_rules | `(tactic| walk_at "pad") => `(tactic| fail "pad")
local macro_rules | `(tactic| walk_at "pad") => `(tactic| fail "pad")
local macro_rules | `(tactic| walk_at "pad") => `(tactic| fail "pad")
theorem Mine.freshC5 : True ∧ True := by
  w_top off
  walk1
  all_goals exact True.intro
end

/-! C5 -/
section
open PySem PySem.W PyProof.Rows PySem.Calls
set_option maxRecDepth 100000
set_option maxHeartbeats 400000
namespace Mine
theorem filled5 : ∀ (p : Params), hd.heap_39 p = hd.heap_39 p ∧ PySem.Challenge.rw_mj0093_01 = PySem.Challenge.rw_mj0093_01 := by
  k_fill; exact fun _ => ⟨rfl, rfl⟩
local macro_rules | `(tactic| ktr_enter) => `(tactic| (refine' enter ?k1 ?k2 ?k3 ?k6 ?k7 ?k8 ?k9 ?kB ?_ ?c2 ?c3 ?c4 ?c5; (case k1 => k_asm); (case k2 => k_asm); (case k3 => k_asm);  (case k6 => k_is); (case k7 => k_is); (case k8 => ktr_room); (case k9 => exact BindsTo.of_eq rfl); (case c5 => decide); (case kB => exact locs rfl); (case c2 => exact rfl); (case c3 => exact rfl); (case c4 => exact rfl)))

variable {w : World} {dp un : Nat} {gd : Option (List Code)} {outer : List Env} {base : Heap} {mean : ExcName → Option Value} {mg mb : Str → Option Value} {s : Shared} {Q E : Value → Shared → Prop}

local macro_rules | `(tactic| walk_at "exec While Compare cons nil") => `(tactic| (k_here; refine halt ?_))
section
local macro_rules | `(tactic| walk_at "leaving ref") => `(tactic| (refine halt ?_))
theorem c_parse_raise {x : Str} {tx : Tok} (a : Amb w dp un gd outer base mean mg mb s.heap) (hx : x.length ≤ 100000)
    (h257 : (Txt.slice x none (some 3) == Str.ofString "257") = false)
    (h : ∀ e t' h' tk, RaisedS base s.heap outer e (.ref 37) t' [.str x tx] [] h' → s.heap.UpToSlots h' → E (.ref e) { s with heap := h', toks := tk }) :
    wpAny (model PR w) (AR dp un gd outer) (call (.ref 46) [.str x tx]) Q E s := by
  obtain ⟨B, X, T, hdp, hun⟩ := a
  refine wpAny_call ?_
  ktr_enter
  intro g L' h₁ hg F' N' B' X' T'; (try dsimp only)
  clear B X T
  k_steps
  · subst hg
    rename Heap.MadeExcOf _ _ _ _ _ => hm
    rename Fr _ _ _ _ => F9
    rename News _ _ _ _ => N9
    refine Halt.mk (leave_raiseS B' hm (by assumption) (by assumption) ?_)
    intro h' t RS _ U
    exact h _ _ _ _ RS U
  · exfalso
    rename (Txt.slice x none _ != _) = false => hc
    simp [bne, h257] at hc
  · exfalso
    rename (Txt.slice x none _ != _) = false => hc
    simp [bne, h257] at hc
end

theorem Amb.deeper {L : Addr} {f : Addr} {cd : Value} {h₀ h : Heap} {m : Str → Option Value} {name : Str} {scope : Scope} (a : Amb w dp un gd outer base mean mg mb h₀) (F : Fr h₀ L h m) (hk : scope.kind = .function) (hdp : dp < 400) (hun : un < 400) :
    Amb w (dp + 1) (un + 3) gd (envOf name scope L f cd :: outer) base mean mg mb h where
  B := a.B.push F hk
  X := a.X.keeps F.keep
  T := a.T.keeps F.keep
  hdp := by omega
  hun := by omega

local macro_rules | `(tactic| walk_at "call ref") => `(tactic| (refine halt ?_))
/-- the heap grew; of the frames' objects the slots may have turned -/
def Turn (fs : List Addr) (h h' : Heap) : Prop := ∃ g, KtsTurn fs h g ∧ Ext g h'
local macro_rules | `(tactic| walk_at "call type:str") => `(tactic| (refine halt ?_))
theorem c_told_raise {x : Str} {tx : Tok} (a : Amb w dp un gd outer base mean mg mb s.heap) (hdp : dp < 400) (hun : un < 400) (hx : x.length ≤ 100000)
    (XB : (hd.heap_39 w.params).In base) (TB : Top hd.view_39 (looseW hd.view_39 []) mean mg mb base) (D : KtsDicts (outer.filterMap (·.frame)) s.heap)
    (h257 : (Txt.slice x none (some 3) == Str.ofString "257") = false)
    (h : ∀ D t1 t2 h' tk, s.heap.get? D = none → h'.get? D = some { cls := .type "tuple", data := .seq #[.str (Str.ofString "refused") t1, .str x t2] } → Turn (outer.filterMap (·.frame)) s.heap h' → Q (.ref D) { s with heap := h', toks := tk }) :
    wpAny (model PR w) (AR dp un gd outer) (call (.ref 79) [.str x tx]) Q E s := by
  have am := a
  obtain ⟨B, X, T, _, _⟩ := a
  refine wpAny_call ?_
  ktr_enter
  intro g L' h₁ hg F' N' B' X' T'; (try dsimp only)
  clear B X T
  subst hg
  k_steps
  refine Halt.mk (c_parse_raise (am.deeper F' rfl hdp hun) hx h257 ?_)
  intro e t' h' tk R U
  refine caught_SOB (C := 37) R F' B' U XB TB D KtsTurn.refl (by k_is) (by kts_isx) ?_
  intro h9 g9 n9 tk9 T9 F9 N9 G9 _ B9 X9 P9 D9
  clear F' N' B' X' T' am
  obtain ⟨oe, ot, ws, nt, hm1, hm2, hoec, hoed, hoe0, hotc, hotd⟩ := G9
  have hoe := (N9 _ hm1).1
  have hot := (N9 _ hm2).1
  k_steps
  refine Halt.mk (own_str (K := hd.heap_39 w.params) (C := 37) ?u (X9.keeps F9.keep) (by k_is) (by kts_isx) hoe hoec hoed hoe0 ⟨ot, nt, hot, hotc, hotd⟩ ?_)
  case u => (show un + 3 + 2 < cLine; have := cLine_is; omega)
  k_steps
  rename News _ _ _ [(_, _)] => N8
  rename Fr g9 L' _ _ => F8
  have D8 := N8 _ (.head _)
  refine h _ _ _ _ _ ?_ D8.1 ⟨g9, T9, F8.keep⟩
  cases q : s.heap.get? _ with
  | none => rfl
  | some o => obtain ⟨sl, hs⟩ := T9.up q; rw [D8.2.2] at hs; cases hs

theorem c_told_ok {x : Str} {tx : Tok} (a : Amb w dp un gd outer base mean mg mb s.heap) (hdp : dp < 400) (hun : un < 400) (hx : x.length ≤ 100000) (hx5 : 5 ≤ x.length)
    (h257 : (Txt.slice x none (some 3) == Str.ofString "257") = true) (hq : (Txt.slice x (some 3) (some 5) == Str.ofString " \"") = true)
    (h : ∀ r t h' tk, r.cps.toList = p257 (x.cps.toList.drop 5) → Ext s.heap h' → Q (.str r t) { s with heap := h', toks := tk }) :
    wpAny (model PR w) (AR dp un gd outer) (call (.ref 79) [.str x tx]) Q E s := by
  have am := a
  obtain ⟨B, X, T, _, _⟩ := a
  refine wpAny_call ?_
  ktr_enter
  intro g L' h₁ hg F' N' B' X' T'; (try dsimp only)
  clear B X T
  subst hg
  k_steps
  refine Halt.mk (c_parse (am.deeper F' rfl hdp hun) hx hx5 h257 hq ?_)
  intro r t h' tk hr hk
  exact h r t h' tk hr fun b o e => hk b o (F'.keep b o e)
end Mine
end

/-! CU -/
section
open PySem PySem.W PyProof.Rows PySem.Calls
set_option maxRecDepth 100000
set_option maxHeartbeats 400000
namespace Mine
section
variable {prog : Program} {w : World} {A : Around} {E : Value → Shared → Prop} {s : Shared} {R : Result → Shared → Prop}

/-- one turn of a list comprehension without tests, any target -/
theorem compLoop_any {elt target iter : Expr} {scope : Scope} {pos : Pos} {it acc : Value} {env : Env} (I : Nat → Shared → Prop)
    (turn : ∀ n s, I n s → wpAny (model prog w) A (pyNext it) (fun r s₁ => match r with
      | none => R (.ok .next) s₁
      | some v => wpAny (model prog w) A (letOwnedTupleGo target it v) (fun _ s₁' => wpAny (model prog w) A (assign target env v) (fun _ s₂ => wpAny (model prog w) A (eval elt env) (fun x s₃ =>
          wpAny (model prog w) A (call (.builtin "list.append") [acc, x]) (fun _ s₄ => ∃ m, m < n ∧ I m s₄) (notedBy (model prog w) A env fun e s' => R (.error e) s') s₃)
          (notedBy (model prog w) A env fun e s' => R (.error e) s') s₂) (notedBy (model prog w) A env fun e s' => R (.error e) s') s₁') (notedBy (model prog w) A env fun e s' => R (.error e) s') s₁) (notedBy (model prog w) A env fun e s' => R (.error e) s') s)
    (n : Nat) (h : I n s) :
    codeAny (model prog w) A (.compLoop (.ListComp elt [⟨target, iter, [], 0⟩] scope pos) 0 it acc env) R s := by
  refine codeAny_loop rfl I (fun n s hI => ?_) n h
  show wpAny _ _ ((compTurn (.ListComp elt [⟨target, iter, [], 0⟩] scope pos) 0 it acc env).onRaise (fun x => do noteFrame x env; theTreesLotGoes x)) _ _ s
  refine wpAny_noted ?_
  rw [compTurn_list1]
  refine wpAny_bind (wpAny_standAt (wpAny_bind (wpAny_mono (turn n s hI) (fun r s₁ h₁ => ?_) fun _ _ h' => h')))
  cases r with
  | none => exact wpAny_pure h₁
  | some v =>
    exact wpAny_bind (wpAny_mono h₁ (fun _ s₁' h₁' => wpAny_bind (wpAny_mono h₁' (fun _ s₂ h₂ => wpAny_bind (wpAny_bind (wpAny_mono h₂ (fun x s₃ h₃ => wpAny_bind (wpAny_mono h₃
      (fun _ s₄ h₄ => wpAny_pure (wpAny_pure ⟨rfl, h₄⟩)) fun _ _ h' => h')) fun _ _ h' => h'))) fun _ _ h' => h')) fun _ _ h' => h')

/-- what a comprehension (its own frame at C) draws from -/
structure Src (prog : Program) (w : World) (A : Around) (I : Addr) (fp wr : List Addr) (n : Nat) (target : Expr) (scope : Scope) (cl : List (Str × Addr)) (env : Env) (Bd : Nat → (Str → Option Value) → Prop) (St : Nat → Heap → Prop) : Prop where
  sub : ∀ b ∈ wr, b ∈ fp
  frame : ∀ i h h', St i h → (∀ b ∈ fp, ∀ o, h.get? b = some o → h'.get? b = some o) → St i h'
  adv : ∀ (C : Addr) (i : Nat) (s : Shared) (m : Str → Option Value) (Q : Shared → Prop) (E : Value → Shared → Prop), C ∉ fp → i < n → St i s.heap → s.heap.Ns C m →
    (∀ h' tk m', St (i + 1) h' → h'.Ns C m' → Bd i m' → (∀ b o, b ∉ wr → b ≠ C → s.heap.get? b = some o → h'.get? b = some o) → Q { s with heap := h', toks := tk }) →
    wpAny (model prog w) A (pyNext (.ref I)) (fun r s₁ => match r with
      | none => False
      | some v => wpAny (model prog w) A (letOwnedTupleGo target (.ref I) v) (fun _ s₂ => wpAny (model prog w) A (assign target (compEnvC scope cl C env) v) (fun _ s₃ => Q s₃) E s₂) E s₁) E s
  done : ∀ (s : Shared) (Q : Option Value → Shared → Prop) (E : Value → Shared → Prop), St n s.heap →
    (∀ h' tk, (∀ b o, b ∉ wr → s.heap.get? b = some o → h'.get? b = some o) → Q none { s with heap := h', toks := tk }) → wpAny (model prog w) A (pyNext (.ref I)) Q E s
  self : ∀ i (s : Shared) (Q : Value → Shared → Prop) (E : Value → Shared → Prop), St i s.heap → Q (.ref I) s → wpAny (model prog w) A (pyIter (.ref I)) Q E s

theorem adv_toks {I : Addr} {target : Expr} {cenv : Env} {Q : Shared → Prop} (h1 : 1 ≤ s.toks)
    (h : wpAny (model prog w) A (pyNext (.ref I)) (fun r s₁ => match r with
      | none => False
      | some v => wpAny (model prog w) A (letOwnedTupleGo target (.ref I) v) (fun _ s₂ => wpAny (model prog w) A (assign target cenv v) (fun _ s₃ => 1 ≤ s₃.toks → Q s₃) E s₂) E s₁) E s) :
    wpAny (model prog w) A (pyNext (.ref I)) (fun r s₁ => match r with
      | none => False
      | some v => wpAny (model prog w) A (letOwnedTupleGo target (.ref I) v) (fun _ s₂ => wpAny (model prog w) A (assign target cenv v) (fun _ s₃ => Q s₃) E s₂) E s₁) E s := by
  refine wpAny_mono (wpAny_toks_of h1 h) (fun r s₁ h₁ => ?_) fun _ _ x => x.2
  cases r with
  | none => exact h₁.2
  | some v =>
    refine wpAny_mono (wpAny_toks_of h₁.1 h₁.2) (fun _ s₂ h₂ => ?_) fun _ _ x => x.2
    exact wpAny_with_toks h₂.1 (wpAny_mono h₂.2 (fun _ _ x => x) fun _ _ x _ => x)

/-- the block of a comprehension, its invariant over the heap and the values so far -/
theorem comp_block {elt target iter : Expr} {scope : Scope} {cl : List (Str × Addr)} {pos : Pos} {env : Env} {I : Addr} {fp wr : List Addr} {n : Nat} {Bd : Nat → (Str → Option Value) → Prop} {St : Nat → Heap → Prop}
    (W : Src prog w A I fp wr n target scope cl env Bd St) (hsz : n ≤ sizeLine) (Inv : Addr → Addr → Nat → List Value → Heap → Prop) {RR : Value → Addr → Result → Shared → Prop}
    (hcell : ∀ y ∈ scope.names, y.2 ≠ .cell) (hkind : scope.kind = .function) (hst : St 0 s.heap) (hfp : ∀ b ∈ fp, b < s.heap.objs.size) (htk : 1 ≤ s.toks)
    (hinv : ∀ C D i ys h h', s.heap.objs.size ≤ C → s.heap.objs.size ≤ D → Inv C D i ys h → (∀ b o, b ∉ wr → b ≠ C → b ≠ D → h.get? b = some o → h'.get? b = some o) → Inv C D i ys h')
    (h0 : ∀ C D, s.heap.objs.size ≤ C → s.heap.objs.size ≤ D → Inv C D 0 [] s.heap)
    (helt : ∀ C D i ys s₃ m₃ E', s.heap.objs.size ≤ C → s.heap.objs.size ≤ D → i < n → ys.length = i → Inv C D i ys s₃.heap → s₃.heap.Ns C m₃ → Bd i m₃ → (∃ oD, s₃.heap.get? D = some oD) → (∀ b ∈ fp, ∃ o, s₃.heap.get? b = some o) → 1 ≤ s₃.toks →
      wpAny (model prog w) A (eval elt (compEnvC scope cl C env)) (fun y s₄ => ∃ h' tk, s₄ = { s₃ with heap := h', toks := tk } ∧ Inv C D (i + 1) (ys ++ [y]) h' ∧ (∀ b o, b = C ∨ b = D ∨ b ∈ fp → s₃.heap.get? b = some o → h'.get? b = some o)) E' s₃)
    (hfpo : ∀ i h, St i h → ∀ b ∈ fp, ∃ o, h.get? b = some o)
    (hRR : ∀ D C h' tk m' ys, s.heap.objs.size ≤ D → s.heap.objs.size ≤ C → D ≠ C → h'.Ns C m' → h'.PlainList D ys → ys.toList.length = n → Inv C D n ys.toList h' → 1 ≤ tk → RR (.ref D) C (.ok .next) { s with heap := h', toks := tk }) :
    wpAny (model prog w) A (newList []) (fun acc s₃ => wpAny (model prog w) A (newFunctionEnv scope env.globals cl [] env.qual none .none (some env)) (fun cenv s₄ =>
      codeAny (model prog w) A (.compStart (.ListComp elt [⟨target, iter, [], 0⟩] scope pos) 0 (.ref I) acc { cenv with scope := relabel scope env }) (RR acc cenv.locals) s₄) E s₃) E s := by
  refine wpAny_newObj_type (wpAny_newFunctionEnv hcell (by intro y hy; simp at hy) (fun h₁ hns₁ hsb₁ => ?_) hkind)
  dsimp only at hns₁ hsb₁ ⊢
  generalize hH2 : s.heap.push { cls := .type "list", dict := none, data := .seq ([] : List Value).toArray } = H2 at hns₁ hsb₁ ⊢
  have hC : H2.objs.size = s.heap.objs.size + 1 := by rw [← hH2, Heap.size_push]
  have hDC : s.heap.objs.size ≠ H2.objs.size := by rw [hC]; exact Nat.ne_of_lt (Nat.lt_succ_self _)
  have hCle : s.heap.objs.size ≤ H2.objs.size := by rw [hC]; exact Nat.le_succ _
  have below : ∀ b, b < s.heap.objs.size → b ≠ H2.objs.size ∧ b ≠ s.heap.objs.size := fun b hb => ⟨by rw [hC]; exact Nat.ne_of_lt (Nat.lt_succ_of_lt hb), Nat.ne_of_lt hb⟩
  have hDf : s.heap.objs.size ∉ fp := fun hm => Nat.lt_irrefl _ (hfp _ hm)
  have hCf : H2.objs.size ∉ fp := fun hm => by have := hfp _ hm; rw [hC] at this; exact Nat.lt_irrefl _ (Nat.lt_of_succ_lt this)
  have hDw : s.heap.objs.size ∉ wr := fun hm => hDf (W.sub _ hm)
  have hCw : H2.objs.size ∉ wr := fun hm => hCf (W.sub _ hm)
  have old : ∀ b o, s.heap.get? b = some o → h₁.get? b = some o := fun b o e => hsb₁.extBut b o (below b (Heap.lt_size e)).1 (Heap.get?_push_of_some _ (hH2 ▸ Heap.get?_push_of_some _ e))
  have hacc : h₁.PlainList s.heap.objs.size #[] := ⟨_, hsb₁.extBut _ _ hDC (Heap.get?_push_of_some _ (hH2 ▸ Heap.get?_push_size _ rfl))⟩
  have hst₁ : St 0 h₁ := W.frame _ _ _ hst fun b _ o e => old b o e
  have loop : ∀ s₃ : Shared, s₃ = { s with heap := h₁, toks := s.toks + ([] : List (Str × Value)).length } →
      codeAny (model prog w) A (.compLoop (.ListComp elt [⟨target, iter, [], 0⟩] scope pos) 0 (.ref I) (.ref s.heap.objs.size) (compEnvC scope cl H2.objs.size env))
        (RR (.ref s.heap.objs.size) H2.objs.size) s₃ := by
    rintro s₃ rfl
    refine compLoop_any (fun k s' => ∃ h' tk m' ys i, s' = { s with heap := h', toks := tk } ∧ i ≤ n ∧ k = n + 1 - i ∧ ys.toList.length = i ∧ St i h' ∧ h'.Ns H2.objs.size m' ∧ h'.PlainList s.heap.objs.size ys ∧
      Inv H2.objs.size s.heap.objs.size i ys.toList h' ∧ 1 ≤ tk) ?_ (n + 1) ⟨h₁, _, _, #[], 0, rfl, Nat.zero_le _, rfl, rfl, hst₁, hns₁, hacc, hinv _ _ _ _ _ _ hCle (Nat.le_refl _) (h0 _ _ hCle (Nat.le_refl _)) (fun b o _ _ _ e => old b o e), htk⟩
    rintro k s' ⟨h', tk, m', ys, i, rfl, hi, rfl, hyl, hst', hn', hl', hI', htk'⟩
    by_cases hlt : i < n
    · refine wpAny_mono (adv_toks (Q := fun s₂ => wpAny (model prog w) A (eval elt (compEnvC scope cl H2.objs.size env)) (fun x s₃ =>
          wpAny (model prog w) A (call (.builtin "list.append") [.ref s.heap.objs.size, x]) (fun _ s₄ => ∃ m, m < n + 1 - i ∧ ∃ h' tk m' ys i, s₄ = { s with heap := h', toks := tk } ∧ i ≤ n ∧ m = n + 1 - i ∧ ys.toList.length = i ∧ St i h' ∧ h'.Ns H2.objs.size m' ∧ h'.PlainList s.heap.objs.size ys ∧
      Inv H2.objs.size s.heap.objs.size i ys.toList h' ∧ 1 ≤ tk) (notedBy (model prog w) A (compEnvC scope cl H2.objs.size env) fun e s' => RR (.ref s.heap.objs.size) H2.objs.size (.error e) s') s₃)
          (notedBy (model prog w) A (compEnvC scope cl H2.objs.size env) fun e s' => RR (.ref s.heap.objs.size) H2.objs.size (.error e) s') s₂) htk' (W.adv _ i _ m' _ _ hCf hlt hst' hn' fun h₂ tk₂ m₂ hst₂ hn₂ hb₂ hk₂ ht₂ => ?_)) (fun r s₁ h₁ => ?_) fun _ _ x => x
      · have hl₂ : h₂.PlainList s.heap.objs.size ys := hl'.at fun o e => hk₂ _ o hDw hDC e
        have hI₂ := hinv _ _ _ _ _ h₂ hCle (Nat.le_refl _) hI' fun b o hbw hbC _ e => hk₂ b o hbw hbC e
        have ht₂' : 1 ≤ tk₂ := ht₂
        refine wpAny_mono (wpAny_toks_of (n := 1) ht₂ (helt _ _ i ys.toList _ m₂ _ hCle (Nat.le_refl _) hlt hyl hI₂ hn₂ hb₂ (let ⟨c, e⟩ := hl₂; ⟨_, e⟩) (hfpo _ _ hst₂) ht₂)) (fun y s₄ h₄ => ?_) fun _ _ x => x.2
        obtain ⟨ht₄, h₄, tk₄, rfl, hI₄, hk₄⟩ := h₄
        have hl₄ : h₄.PlainList s.heap.objs.size ys := hl₂.at fun o e => hk₄ _ o (.inr (.inl rfl)) e
        have hys : ys.size ≤ sizeLine := by
          have : ys.size = i := by rw [← hyl]; simp
          omega
        refine wpAny_list_append_plain (hsz := hys) hl₄ fun h₅ hl₅ hs₅ => ?_
        refine ⟨n + 1 - (i + 1), by omega, h₅, tk₄, m₂, ys.push y, i + 1, rfl, hlt, rfl, by simp at hyl ⊢; exact hyl, ?_, ?_, hl₅, ?_, ht₄⟩
        · refine W.frame _ _ _ hst₂ fun b hb o e => hs₅.extBut b o (fun q => hDf (q ▸ hb)) (hk₄ b o (.inr (.inr hb)) e)
        · exact (hn₂.at' fun o e => hk₄ _ o (.inl rfl) e).sameBut hs₅ (Ne.symm hDC)
        · rw [Array.toList_push]
          exact hinv _ _ _ _ _ h₅ hCle (Nat.le_refl _) hI₄ fun b o _ _ hbD e => hs₅.extBut b o hbD e
      · cases r with
        | none => exact h₁.elim
        | some v => exact h₁
    · have hin : i = n := by omega
      subst hin
      refine wpAny_with_toks (n := 1) htk' (W.done _ _ _ hst' fun h₂ tk₂ hk₂ ht₂ => ?_)
      exact hRR _ _ h₂ tk₂ m' ys (Nat.le_refl _) hCle hDC (hn'.at' fun o e => hk₂ _ o hCw e) (hl'.at fun o e => hk₂ _ o hDw e) hyl (hinv _ _ _ _ _ h₂ hCle (Nat.le_refl _) hI' fun b o hbw _ _ e => hk₂ b o hbw e) ht₂
  exact codeAny_compStart_list (loop _ rfl) (W.self 0 _ _ _ hst₁ (loop _ rfl))
end
end Mine
end

/-! CS -/
section
open PySem PySem.W PyProof.Rows PySem.Calls
set_option maxRecDepth 100000
set_option maxHeartbeats 400000
namespace Mine
section
variable {prog : Program} {w : World} {A : Around} {E : Value → Shared → Prop} {s : Shared} {env : Env} {scope : Scope} {cl : List (Str × Addr)}

theorem Src.name {I : Addr} {fp wr : List Addr} {n : Nat} {P : Nat → Value → Prop} {St : Nat → Heap → Prop} {x : Str} {px : Pos} (W : Walks prog w A I fp wr n P St)
    (hkind : scope.kind = .function) (hx : scope.names.lookup x = some .local) :
    Src prog w A I fp wr n (.Name x px) scope cl env (fun i m => ∃ v, P i v ∧ m x = some v) St where
  sub := W.sub
  frame := W.frame
  adv := fun C i s m Q E hC hi st hn hQ => by
    have hCw : C ∉ wr := fun h => hC (W.sub _ h)
    refine W.item i s _ _ hi st fun v h' tk hP st' hk => ?_
    show wpAny _ A (pure ()) _ E _
    refine wpAny_pure (wpAny_assign_Name (wpAny_storeName_local (lookup_relabel_local hx) (hn.at' fun o e => hk _ o hCw e) (fun h₂ hn₂ hs₂ => ?_) (by simp [compEnvC, relabel, hkind])))
    exact hQ h₂ _ _ (W.frame _ _ _ st' fun b hb o e => hs₂.extBut b o (fun q => hC ((show b = C from q) ▸ hb)) e) hn₂ ⟨v, hP, by simp⟩ fun b o hb hbC e => hs₂.extBut b o hbC (hk b o hb e)
  done := W.done
  self := W.self

theorem Src.pair {I : Addr} {fp wr : List Addr} {n : Nat} {Pt : Nat → Array Value → Prop} {St : Nat → Heap → Prop} {Mid : Nat → Addr → Heap → Prop} {x x₂ : Str} {px px₂ tp : Pos} {k : Nat} (hh : A.handled = none) (W : WalksU prog w A I fp wr n Pt St Mid)
    (hpair : ∀ i vals, Pt i vals → ∃ v₁ v₂, vals = #[v₁, v₂])
    (hkind : scope.kind = .function) (hx : scope.names.lookup x = some .local) (hx₂ : scope.names.lookup x₂ = some .local) (hxx : x ≠ x₂) :
    Src prog w A I fp wr n (.Tuple [.Name x px, .Name x₂ px₂] k tp) scope cl env (fun i m => ∃ v₁ v₂, Pt i #[v₁, v₂] ∧ m x = some v₁ ∧ m x₂ = some v₂) St where
  sub := W.sub
  frame := W.frame
  adv := fun C i s m Q E hC hi st hn hQ => by
    have hCw : C ∉ wr := fun h => hC (W.sub _ h)
    refine W.item i s _ _ hi st fun T vals h' tk hP hT hMid hk => ?_
    obtain ⟨v₁, v₂, rfl⟩ := hpair i vals hP
    refine W.go _ _ _ i T _ _ _ hMid fun h₂ st₂ hk₂ => ?_
    have hTw := W.apart i T h' hMid
    have hT₂ : IsTup h₂ T #[v₁, v₂] := let ⟨o, ho, r⟩ := hT; ⟨o, hk₂ T o hTw ho, r⟩
    refine assign_Tuple_tuple hh hT₂ rfl rfl fun h₅ he => ?_
    have he' : ∀ b o, h₂.get? b = some o → h₅.get? b = some o := fun b o e => he b o (Nat.ne_of_lt (Heap.lt_size e)) e
    refine assignInOrder_cons (wpAny_assign_Name (wpAny_storeName_local (lookup_relabel_local hx) (((hn.at' fun o e => hk _ o hCw e).at' fun o e => hk₂ _ o hCw e).at' fun o e => he' _ o e) (fun h₆ hn₆ hs₆ => ?_) (by simp [compEnvC, relabel, hkind])))
    refine assignInOrder_cons (wpAny_assign_Name (wpAny_storeName_local (lookup_relabel_local hx₂) hn₆ (fun h₃ hn₃ hs₃ => ?_) (by simp [compEnvC, relabel, hkind])))
    refine assignInOrder_nil ?_
    have old3 : ∀ b o, b ≠ C → h₂.get? b = some o → h₃.get? b = some o := fun b o hb e => hs₃.extBut b o hb (hs₆.extBut b o hb (he' b o e))
    exact hQ h₃ _ _ (W.frame _ _ _ st₂ fun b hb o e => old3 b o (fun q => hC (q ▸ hb)) e) hn₃ ⟨v₁, v₂, hP, by simp [hxx], by simp⟩ fun b o hb hbC e => old3 b o hbC (hk₂ b o hb (hk b o hb e))
  done := W.done
  self := W.self

/-- all that a comprehension asks behind its iterator -/
def CompAt (prog : Program) (w : World) (A : Around) (elt target : Expr) (scope : Scope) (cl : List (Str × Addr)) (env : Env) (Q : Value → Shared → Prop) (it : Value) (s : Shared) : Prop :=
  ∃ (I : Addr) (fp wr : List Addr) (n : Nat) (Bd : Nat → (Str → Option Value) → Prop) (St : Nat → Heap → Prop) (Inv : Addr → Addr → Nat → List Value → Heap → Prop),
    it = .ref I ∧ Src prog w A I fp wr n target scope cl env Bd St ∧ n ≤ sizeLine ∧ St 0 s.heap ∧ (∀ b ∈ fp, b < s.heap.objs.size) ∧ 1 ≤ s.toks ∧
    (∀ C D i ys h h', s.heap.objs.size ≤ C → s.heap.objs.size ≤ D → Inv C D i ys h → (∀ b o, b ∉ wr → b ≠ C → b ≠ D → h.get? b = some o → h'.get? b = some o) → Inv C D i ys h') ∧
    (∀ C D, s.heap.objs.size ≤ C → s.heap.objs.size ≤ D → Inv C D 0 [] s.heap) ∧
    (∀ C D i ys s₃ m₃ E', s.heap.objs.size ≤ C → s.heap.objs.size ≤ D → i < n → ys.length = i → Inv C D i ys s₃.heap → s₃.heap.Ns C m₃ → Bd i m₃ → (∃ oD, s₃.heap.get? D = some oD) → (∀ b ∈ fp, ∃ o, s₃.heap.get? b = some o) → 1 ≤ s₃.toks →
      wpAny (model prog w) A (eval elt (compEnvC scope cl C env)) (fun y s₄ => ∃ h' tk, s₄ = { s₃ with heap := h', toks := tk } ∧ Inv C D (i + 1) (ys ++ [y]) h' ∧ (∀ b o, b = C ∨ b = D ∨ b ∈ fp → s₃.heap.get? b = some o → h'.get? b = some o)) E' s₃) ∧
    (∀ i h, St i h → ∀ b ∈ fp, ∃ o, h.get? b = some o) ∧
    (∀ C D h' tk ys, s.heap.objs.size ≤ C → s.heap.objs.size ≤ D → h'.PlainList D ys → ys.toList.length = n → Inv C D n ys.toList h' → 1 ≤ tk → Q (.ref D) { s with heap := h', toks := tk })

theorem comp_eval {elt target iter : Expr} {pos : Pos} {Q : Value → Shared → Prop}
    (hclos : closureFor scope env = pure cl) (hcell : ∀ y ∈ scope.names, y.2 ≠ .cell) (hkind : scope.kind = .function) (hnames : ∀ y ∈ scope.names, y.2 = .local → scope.names.lookup y.1 = some .local)
    (h : wpAny (model prog w) A (eval iter env) (fun xv s₁ => wpAny (model prog w) A (pyIter xv) (fun it s₂ => CompAt prog w A elt target scope cl env Q it s₂) E s₁) E s)
    (hs : ∀ x, foldedSetIterable iter env x = pure x) :
    wpAny (model prog w) A (eval (.ListComp elt [⟨target, iter, [], 0⟩] scope pos) env) Q E s := by
  rw [eval_ListComp]
  refine wpAny_comprehension_free (use := none) rfl hs hclos hkind hnames (wpAny_mono h (fun xv s₁ h₁ => wpAny_mono h₁ (fun it s₂ h₂ => ?_) fun _ _ e => e) fun _ _ e => e)
  obtain ⟨I, fp, wr, n, Bd, St, Inv, rfl, W, hsz, hst, hfp, htk, hinv, h0, helt, hfpo, hQ⟩ := h₂
  refine comp_block (RR := fun acc C => compPost (model prog w) A E none Q acc C) W hsz Inv hcell hkind hst hfp htk hinv h0 helt hfpo ?_
  intro D C h' tk m' ys hD hC hDC hn hpl hlen hI ht
  refine ⟨m', hn, fun h'' hs'' => ?_⟩
  exact hQ C D h'' tk ys hC hD (hpl.extBut hs''.extBut hDC) hlen (hinv _ _ _ _ _ _ hC hD hI fun b o _ hbC _ e => hs''.extBut b o hbC e) ht
end
end Mine
end

/-! LW -/
section
open PySem PySem.W PyProof.Rows PySem.Calls
set_option maxRecDepth 100000
set_option maxHeartbeats 400000
namespace Mine
def lawOf : Stmt → List Stmt × Scope
  | .FunctionDef _ _ body _ _ _ scope _ _ _ => (body, scope)
  | _ => ([], default)
def lawPair : List Stmt × Scope := lawOf (PR.main.body.getLastD (.Pass default))
def lawBody : List Stmt := lawPair.1
def lawScope : Scope := lawPair.2
def st (k : Nat) : Stmt := lawBody.getD k (.Pass default)
theorem law_len : lawBody.length = 10 := by decide +kernel
theorem law_is : lawBody = [st 0, st 1, st 2, st 3, st 4, st 5, st 6, st 7, st 8, st 9] := rfl
abbrev lawEnv (L fa : Addr) (cd : Value) : Env := envOfC (Str.ofString "law") lawScope L fa cd
end Mine
end

/-! GP -/
section
open PySem PySem.W PyProof.Rows PySem.Calls
namespace Mine
/-- an end that the walk leaves as it is -/
structure Fin2 (P : Flow → Shared → Prop) (f : Flow) (s : Shared) : Prop where
  out : P f s
structure GS where
  pre : List (List (List Nat))
  cur : List (List Nat)
  last : List Nat
def GS.all (g : GS) : List (List (List Nat)) := g.pre ++ [g.cur ++ [g.last]]
def signOf (x : Int) : Nat :=
  if x.fmod 8 = 1 then 34 else if x.fmod 8 = 2 then 92 else if x.fmod 8 = 3 then 44 else if x.fmod 8 = 4 then 32 else if x.fmod 8 = 5 then 61 else (97 + (x.fdiv 8).fmod 26).toNat
def gstep (g : GS) (x : Int) : GS :=
  if x.fmod 8 = 0 then { g with cur := g.cur ++ [g.last], last := [] }
  else if x.fmod 8 = 7 then { pre := g.pre ++ [g.cur ++ [g.last]], cur := [], last := [] }
  else { g with last := g.last ++ [signOf x] }
def g0 : GS := ⟨[], [], []⟩
def grun (xs : List Int) : GS := xs.foldl gstep g0
theorem grun_snoc (xs : List Int) (x : Int) : grun (xs ++ [x]) = gstep (grun xs) x := by simp [grun]

/-- the ledger bears these lists of texts -/
inductive PreAre (rst : List (Addr × Obj)) : List Value → List (List (List Nat)) → Prop
  | nil : PreAre rst [] []
  | cons {a : Addr} {us : List Value} {n : Nat} {ws : List (List Nat)} {rs : List Value} {pre : List (List (List Nat))} : (a, W.listOf us.toArray n) ∈ rst → StrsAre us (ws.map S) → PreAre rst rs pre → PreAre rst (.ref a :: rs) (ws :: pre)
theorem PreAre.mono {rst rst' : List (Addr × Obj)} (hs : ∀ p ∈ rst, p ∈ rst') : ∀ {rs pre}, PreAre rst rs pre → PreAre rst' rs pre
  | _, _, .nil => .nil
  | _, _, .cons hm h t => .cons (hs _ hm) h (t.mono hs)
theorem PreAre.snoc {rst : List (Addr × Obj)} {a : Addr} {us : List Value} {n : Nat} {ws : List (List Nat)} (hm : (a, W.listOf us.toArray n) ∈ rst) (hS : StrsAre us (ws.map S)) : ∀ {rs pre}, PreAre rst rs pre → PreAre rst (rs ++ [.ref a]) (pre ++ [ws])
  | _, _, .nil => .cons hm hS .nil
  | _, _, .cons h1 h2 t => .cons h1 h2 (t.snoc hm hS)
theorem PreAre.length {rst : List (Addr × Obj)} : ∀ {rs pre}, PreAre rst rs pre → rs.length = pre.length
  | _, _, .nil => rfl
  | _, _, .cons _ _ t => by simp [t.length]

/-- the state of the building loop -/
structure GSt where
  aC : Addr
  us : List Value
  lst : Str
  tl : Tok
  nU : Nat
  nG : Nat
  rs : List Value
  rst : List (Addr × Obj)
abbrev GSt.led (c : GSt) (aG : Addr) : List (Addr × Obj) := [(aG, W.listOf (c.rs.toArray.push (Value.ref c.aC)) c.nG), (c.aC, W.listOf (c.us.toArray.push (Value.str c.lst c.tl)) c.nU)]
structure JG (aG : Addr) (fp : List Addr) (rest : List (Addr × Obj)) (xs : List Int) (i : Nat) (c : GSt) : Prop where
  off : OwnOff c.rst [aG, c.aC]
  ne : aG ≠ c.aC
  ap : ∀ p ∈ c.led aG ++ c.rst, p.1 ∉ fp
  cur : StrsAre c.us ((grun (xs.take i)).cur.map S)
  last : c.lst = S (grun (xs.take i)).last
  pre : PreAre c.rst c.rs (grun (xs.take i)).pre
  sub : ∀ p ∈ rest, p ∈ c.rst
  len1 : c.rs.length ≤ i
  len2 : c.us.length ≤ i
  len3 : c.lst.length ≤ i

theorem map_eta {m : Str → Option Value} {x : Str} {v : Value} (h : m x = some v) : m = fun y => if y = x then some v else m y := by
  funext y
  by_cases e : y = x
  · rw [if_pos e, e, h]
  · rw [if_neg e]

section
variable {prog : Program} {w : World} {A : Around} {E : Value → Shared → Prop} {s : Shared} {env : Env} {base : Heap} {body : List Stmt} {Q : Flow → Shared → Prop} {aG D : Addr} {rest : List (Addr × Obj)} {ws : List Value} {xs : List Int} {m : Str → Option Value}
theorem groups_loop (c₀ : GSt) (hh : A.handled = none) (F : Fr base env.locals s.heap m) (hm : m (Str.ofString "groups") = some (.ref aG)) (hl : s.heap.IsList D ws.toArray) (hI : IntsAre ws xs) (hDL : D ≠ env.locals) (hDb : base.get? D = none)
    (N : News base env.locals s.heap (c₀.led aG ++ c₀.rst)) (J : JG aG [s.heap.objs.size, D] rest xs 0 c₀)
    (turn : ∀ (c : GSt) (i : Nat) (x : Int) (t : Tok) (m₁ : Str → Option Value) h tk own oD oI, xs[i]? = some x → JG aG [s.heap.objs.size, D] rest xs i c → (s.heap.objs.size, oI) ∈ own → (D, oD) ∈ own → OwnOff (c.rst ++ own) [aG, c.aC] →
      Fr base env.locals h (fun y => if y = Str.ofString "x" then some (.int x t) else if y = Str.ofString "groups" then some (.ref aG) else m₁ y) → News base env.locals h (c.led aG ++ (c.rst ++ own)) →
      wpAny (model prog w) A (execs body env) (Fin2 fun f s₂ => f = .next ∧ ∃ c' h' tk' m', s₂ = { s with heap := h', toks := tk' } ∧ Fr base env.locals h' m' ∧ m' (Str.ofString "groups") = some (.ref aG) ∧ News base env.locals h' (c'.led aG ++ (c'.rst ++ own)) ∧ JG aG [s.heap.objs.size, D] rest xs (i + 1) c') E { s with heap := h, toks := tk })
    (done : ∀ (c : GSt) (m₁ : Str → Option Value) h tk, JG aG [s.heap.objs.size, D] rest xs xs.length c → Fr base env.locals h m₁ → m₁ (Str.ofString "groups") = some (.ref aG) → News base env.locals h (c.led aG ++ c.rst) → Q .next { s with heap := h, toks := tk }) :
    wpAny (model prog w) A (pyIter (.ref D)) (fun it s₂ => LoopAtV prog w A base env (Str.ofString "x") body Q E it s₂) E s := by
  obtain ⟨oD, hoD, _⟩ := id hl
  have hne : D ≠ s.heap.objs.size := Nat.ne_of_lt (Heap.lt_size hoD)
  refine wpAny_pyIter_list hl ?_
  have W := Walks.list (prog := prog) (w := w) hh s.heap.objs.size D hne ws.toArray
  have hlen : ws.toArray.size = xs.length := by simp [hI.length]
  rw [hlen] at W
  refine ⟨s.heap.objs.size, _, _, xs.length, _, _, m, c₀.led aG ++ c₀.rst, fun i m₁ nw => m₁ (Str.ofString "groups") = some (.ref aG) ∧ ∃ c, nw = c.led aG ++ c.rst ∧ JG aG [s.heap.objs.size, D] rest xs i c, rfl, W, ?_, ?_, ?_, ⟨⟨_, Heap.get?_push_size _ rfl, rfl, rfl⟩, hl.push _⟩, F.push _, (fun p hp => ⟨Heap.get?_push_of_some _ (N p hp).1, (N p hp).2⟩), ⟨hm, c₀, rfl, J⟩, ?_, ?_⟩
  · intro hmem
    rcases List.mem_cons.mp hmem with e | hmem
    · exact absurd F.ns.lt (e ▸ Nat.lt_irrefl _)
    · exact hDL (List.mem_singleton.mp hmem).symm
  · intro b hb
    rw [List.mem_singleton.mp hb]
    exact next_is_new F
  · intro p hp hI'
    exact J.ap p hp (List.mem_cons.mpr (.inl (List.mem_singleton.mp hI')))
  · rintro i v m₁ nw s₁ own ⟨h, tk, rfl⟩ hi hP ⟨hm₁, c, rfl, Jc⟩ hoff hown hownat hownall st F₁ N₁
    obtain ⟨t, hx⟩ := hI.get i xs[i] (by simp [hi])
    have hv : v = .int xs[i] t := by
      have hP' : ws[i]? = some v := by simpa using hP
      rw [hx] at hP'; exact (Option.some.inj hP').symm
    subst hv
    obtain ⟨oI', hoI', _⟩ := st.1
    obtain ⟨oD', hoD', _⟩ := st.2
    have hIo := hownall _ (List.mem_cons_self ..) (next_is_new F) _ hoI'
    have hDo := hownall D (List.mem_cons_of_mem _ (List.mem_cons_self ..)) hDb _ hoD'
    have hoff' : OwnOff (c.rst ++ own) [aG, c.aC] := by
      intro p hp b hb e
      rcases List.mem_append.mp hp with hp | hp
      · exact Jc.off p hp b hb e
      · have hpf := hown p hp
        rcases List.mem_cons.mp hb with rfl | hb
        · exact Jc.ap (b, _) (List.mem_append_left _ (.head _)) (e ▸ hpf)
        · rw [List.mem_singleton.mp hb] at e
          exact Jc.ap (c.aC, _) (List.mem_append_left _ (.tail _ (.head _))) (e ▸ hpf)
    have N₂ : News base env.locals h (c.led aG ++ (c.rst ++ own)) := fun p hp => N₁ p (by
      rcases List.mem_append.mp hp with q | q
      · exact List.mem_append_right _ (List.mem_append_left _ q)
      · rcases List.mem_append.mp q with q | q
        · exact List.mem_append_right _ (List.mem_append_right _ q)
        · exact List.mem_append_left _ q)
    rw [map_eta hm₁] at F₁
    refine wpAny_mono (turn c i xs[i] t m₁ h tk own _ _ (by simp [hi]) Jc hIo hDo hoff' F₁ N₂) (fun f s₂ hp => ?_) fun _ _ e => e
    obtain ⟨rfl, c', h', tk', m', rfl, F', hm', N', J'⟩ := hp.out
    refine .next ⟨rfl, h', tk', m', c'.led aG ++ c'.rst, rfl, F', fun p hp => N' p ?_, fun p hp hq => J'.ap p hp (List.mem_cons.mpr (.inl (List.mem_singleton.mp hq))), hm', c', rfl, J'⟩
    rcases List.mem_append.mp hp with q | q
    · exact List.mem_append_right _ (List.mem_append_right _ q)
    · rcases List.mem_append.mp q with q | q
      · exact List.mem_append_left _ q
      · exact List.mem_append_right _ (List.mem_append_left _ q)
  · rintro h' tk m' nw' F' N' _ ⟨hm', c, rfl, Jc⟩
    exact done c m' h' tk Jc F' hm' N'
end
end Mine
end

/-! LG -/
section
open PySem PySem.W PyProof.Rows PySem.Calls
set_option maxRecDepth 100000
set_option maxHeartbeats 400000
namespace Mine
section
variable {prog : Program} {w : World} {A : Around} {E : Value → Shared → Prop} {s : Shared} {h₀ : Heap} {L d : Addr} {m : Str → Option Value} {nw pre post : List (Addr × Obj)} {xs : Array Value} {v v0 : Value} {n : Nat} {u : Tok}

theorem last_at (xs : Array Value) (v : Value) : (xs.push v)[(-1 + ((xs.push v).size : Int)).toNat]? = some v := by
  have e : (-1 + ((xs.push v).size : Int)).toNat = xs.size := by simp; omega
  rw [e]; simp

theorem item_last {value slice : Expr} {Q : Value → Shared → Prop} (N : News h₀ L s.heap nw) (hm : (d, W.listOf (xs.push v) n) ∈ nw) (h : Q v s)
    (hs : subscripted slice false (.ref d) (.int (-1) u) = operate [.ref d, .int (-1) u] (getItem (.ref d) (.int (-1) u)) := by with_unfolding_all rfl) :
    wpAny (model prog w) A (subscriptTail value slice (.ref d) (.int (-1) u)) Q E s := by
  have hl : s.heap.IsList d (xs.push v) := ⟨_, (N _ hm).1, rfl, _, rfl⟩
  exact tail_any hl.typeIs slot_list_getitem.lookup (wpAny_getItem_list_neg hl (by decide) (by simp; omega) (by decide) (last_at xs v) h) hs

theorem item_lit {value slice : Expr} {Q : Value → Shared → Prop} {k : Int} (N : News h₀ L s.heap nw) (hm : (d, W.listOf xs n) ∈ nw) (h0 : 0 ≤ k) (h1 : k < 1000) (hx : xs[k.toNat]? = some v) (h : Q v s)
    (hs : subscripted slice false (.ref d) (.int k u) = operate [.ref d, .int k u] (getItem (.ref d) (.int k u)) := by with_unfolding_all rfl) :
    wpAny (model prog w) A (subscriptTail value slice (.ref d) (.int k u)) Q E s := by
  have hl : s.heap.IsList d xs := ⟨_, (N _ hm).1, rfl, _, rfl⟩
  exact tail_any hl.typeIs slot_list_getitem.lookup (wpAny_getItem_list hl h0 (by omega) hx h) hs

theorem fr_same {h h' : Heap} {b : Addr} (F : Fr h₀ L h m) (hs : Heap.SameBut b h h') (hb : b ≠ L) (hb0 : h₀.get? b = none) : Fr h₀ L h' m :=
  ⟨F.ns.sameBut hs (Ne.symm hb), fun c o e => (hs.2 c (fun z => by rw [z, hb0] at e; cases e)).trans (F.keep c o e), F.above⟩

theorem append_led {Q : Value → Shared → Prop} (F : Fr h₀ L s.heap m) (N : News h₀ L s.heap (pre ++ (d, W.listOf xs n) :: post)) (h1 : ∀ p ∈ pre, p.1 ≠ d) (h2 : ∀ p ∈ post, p.1 ≠ d) (hsz : xs.size ≤ sizeLine)
    (h : ∀ h' n', Fr h₀ L h' m → News h₀ L h' (pre ++ (d, W.listOf (xs.push v) n') :: post) → Q .none { s with heap := h' }) :
    wpAny (model prog w) A (call (.builtin "list.append") [.ref d, v]) Q E s := by
  have D := N (d, W.listOf _ n) (List.mem_append_right _ (.head _))
  refine wpAny_list_append_plain ⟨n, D.1⟩ (fun h' hl hs => ?_) hsz
  obtain ⟨n', hn'⟩ := hl
  exact h h' n' (fr_same F hs D.2.1 D.2.2) (news_set N h1 h2 hs hn')

theorem set_last {Q : Unit → Shared → Prop} (F : Fr h₀ L s.heap m) (N : News h₀ L s.heap (pre ++ (d, W.listOf (xs.push v0) n) :: post)) (h1 : ∀ p ∈ pre, p.1 ≠ d) (h2 : ∀ p ∈ post, p.1 ≠ d)
    (h : ∀ h' n', Fr h₀ L h' m → News h₀ L h' (pre ++ (d, W.listOf (xs.push v) n') :: post) → Q () { s with heap := h' }) :
    wpAny (model prog w) A (setItem (.ref d) (.int (-1) u) v) Q E s := by
  have D := N (d, W.listOf _ n) (List.mem_append_right _ (.head _))
  refine ki_setBack D.1 (by decide) (by simp; omega) (by decide) ?_
  have e : (-1 + ((xs.push v0).size : Int)).toNat = xs.size := by simp; omega
  rw [e]
  have e2 : (xs.push v0).setIfInBounds xs.size v = xs.push v := by
    apply Array.toList_inj.mp
    simp [Array.toList_setIfInBounds]
  exact h _ n (fr_same F (Heap.SameBut.update ..) D.2.1 D.2.2) (ki_turn _ N h1 h2 e2 (by simp))
end
end Mine
end

/-! GJ -/
section
open PySem PySem.W PyProof.Rows PySem.Calls
namespace Mine
theorem take_snoc {xs : List Int} {i : Nat} {x : Int} (h : xs[i]? = some x) : xs.take (i + 1) = xs.take i ++ [x] := by
  rw [List.take_add_one, h]; rfl
section
variable {prog : Program} {w : World} {A : Around} {E : Value → Shared → Prop} {s : Shared} {h₀ : Heap} {L d : Addr} {nw : List (Addr × Obj)} {n : Nat} {u : Tok}
theorem item6 {value slice : Expr} {Q : Value → Shared → Prop} {t1 t2 t3 t4 t5 t6 : Tok} {c6 : Str} {x : Int} (N : News h₀ L s.heap nw)
    (hm : (d, W.listOf #[.str (Str.ofString "\"") t1, .str (Str.ofString "\\") t2, .str (Str.ofString ",") t3, .str (Str.ofString " ") t4, .str (Str.ofString "=") t5, .str c6 t6] n) ∈ nw)
    (hc6 : c6 = S [(97 + (x.fdiv 8).fmod 26).toNat]) (h16 : x.fmod 8 = 1 ∨ x.fmod 8 = 2 ∨ x.fmod 8 = 3 ∨ x.fmod 8 = 4 ∨ x.fmod 8 = 5 ∨ x.fmod 8 = 6)
    (h : ∀ sg t9, sg = S [signOf x] → Q (.str sg t9) s)
    (hs : subscripted slice false (.ref d) (.int (x.fmod 8 - 1) u) = operate [.ref d, .int (x.fmod 8 - 1) u] (getItem (.ref d) (.int (x.fmod 8 - 1) u)) := by with_unfolding_all rfl) :
    wpAny (model prog w) A (subscriptTail value slice (.ref d) (.int (x.fmod 8 - 1) u)) Q E s := by
  have hq : S [34] = Str.ofString "\"" := q_is.symm
  have hb : S [92] = Str.ofString "\\" := bs_is.symm
  have hc : S [44] = Str.ofString "," := cm_is.symm
  have hsp : S [32] = Str.ofString " " := by decide +kernel
  have he : S [61] = Str.ofString "=" := eq_is.symm
  have key : ∃ sg t9, #[Value.str (Str.ofString "\"") t1, .str (Str.ofString "\\") t2, .str (Str.ofString ",") t3, .str (Str.ofString " ") t4, .str (Str.ofString "=") t5, .str c6 t6][(x.fmod 8 - 1).toNat]? = some (.str sg t9) ∧ sg = S [signOf x] := by
    rcases h16 with e | e | e | e | e | e
    · exact ⟨_, t1, by rw [e]; rfl, by simp [signOf, e, hq]⟩
    · exact ⟨_, t2, by rw [e]; rfl, by simp [signOf, e, hb]⟩
    · exact ⟨_, t3, by rw [e]; rfl, by simp [signOf, e, hc]⟩
    · exact ⟨_, t4, by rw [e]; rfl, by simp [signOf, e, hsp]⟩
    · exact ⟨_, t5, by rw [e]; rfl, by simp [signOf, e, he]⟩
    · exact ⟨_, t6, by rw [e]; rfl, by simp [signOf, e, hc6]⟩
  obtain ⟨sg, t9, hx, hsg⟩ := key
  exact item_lit N hm (by omega) (by omega) hx (h sg t9 hsg) hs
end
theorem emptyS : Str.ofString "" = S [] := e_is
section
variable {aG : Addr} {fp : List Addr} {rest : List (Addr × Obj)} {xs : List Int} {i : Nat} {aC : Addr} {us : List Value} {lst : Str} {tl t : Tok} {nU nG n' : Nat} {rs : List Value} {rst own : List (Addr × Obj)} {x : Int}
  (J : JG aG fp rest xs i ⟨aC, us, lst, tl, nU, nG, rs, rst⟩) (hx : xs[i]? = some x)
include J hx
theorem jg0 (h0 : x.fmod 8 = 0) : JG aG fp rest xs (i + 1) ⟨aC, us ++ [.str lst tl], Str.ofString "", t, n', nG, rs, rst⟩ where
  off := J.off
  ne := J.ne
  ap := fun p hp => by
    rcases List.mem_append.mp hp with hp | hp
    · rcases List.mem_cons.mp hp with rfl | hp
      · exact J.ap (aG, _) (List.mem_append_left _ (.head _))
      · rw [List.mem_singleton.mp hp]; exact (show aC ∉ fp from J.ap (aC, W.listOf (us.toArray.push (.str lst tl)) nU) (List.mem_append_left _ (.tail _ (.head _))))
    · exact J.ap p (List.mem_append_right _ hp)
  cur := by
    rw [take_snoc hx, grun_snoc]
    have e : (gstep (grun (xs.take i)) x).cur = (grun (xs.take i)).cur ++ [(grun (xs.take i)).last] := by simp [gstep, h0]
    rw [e, List.map_append]
    have := KStt.strs_snoc (x := lst) (t := tl) J.cur
    rw [show lst = S (grun (xs.take i)).last from J.last] at this ⊢
    exact this
  last := by
    rw [take_snoc hx, grun_snoc, emptyS]
    have e : (gstep (grun (xs.take i)) x).last = [] := by simp [gstep, h0]
    rw [e]
  pre := by
    rw [take_snoc hx, grun_snoc]
    have e : (gstep (grun (xs.take i)) x).pre = (grun (xs.take i)).pre := by simp [gstep, h0]
    rw [e]; exact J.pre
  sub := J.sub
  len1 := Nat.le_succ_of_le J.len1
  len2 := by have := J.len2; simp at this ⊢; exact this
  len3 := by show (Str.ofString "").length ≤ _; rw [show (Str.ofString "").length = 0 by decide]; exact Nat.zero_le _

theorem jg7 {aN : Addr} {oI oD : Obj} {I D : Addr} (hfp : fp = [I, D]) (hI : (I, oI) ∈ own) (hD : (D, oD) ∈ own)
    (hlt : ∀ p ∈ (GSt.mk aC us lst tl nU nG rs rst).led aG ++ (rst ++ own), p.1 < aN) (h7 : x.fmod 8 = 7) :
    JG aG fp rest xs (i + 1) ⟨aN, [], Str.ofString "", t, 0, n', rs ++ [.ref aC], (aC, W.listOf (us.toArray.push (.str lst tl)) nU) :: rst⟩ where
  off := fun p hp b hb e => by
    rcases List.mem_cons.mp hb with rfl | hb
    · rcases List.mem_cons.mp hp with rfl | hp
      · exact J.ne e.symm
      · exact J.off p hp b (.head _) e
    · rw [List.mem_singleton.mp hb] at e
      rcases List.mem_cons.mp hp with rfl | hp
      · exact Nat.ne_of_lt (hlt _ (List.mem_append_left _ (.tail _ (.head _)))) e
      · exact Nat.ne_of_lt (hlt p (List.mem_append_right _ (List.mem_append_left _ hp))) e
  ne := Nat.ne_of_lt (hlt _ (List.mem_append_left _ (.head _)))
  ap := fun p hp hm => by
    have hnf : aN ∉ fp := by
      rw [hfp]; intro hm
      rcases List.mem_cons.mp hm with e | hm
      · exact Nat.ne_of_lt (hlt _ (List.mem_append_right _ (List.mem_append_right _ hI))) e.symm
      · exact Nat.ne_of_lt (hlt _ (List.mem_append_right _ (List.mem_append_right _ hD))) (List.mem_singleton.mp hm).symm
    rcases List.mem_append.mp hp with hp | hp
    · rcases List.mem_cons.mp hp with rfl | hp
      · exact J.ap (aG, _) (List.mem_append_left _ (.head _)) hm
      · rw [List.mem_singleton.mp hp] at hm; exact hnf hm
    · rcases List.mem_cons.mp hp with rfl | hp
      · exact J.ap (aC, _) (List.mem_append_left _ (.tail _ (.head _))) hm
      · exact J.ap p (List.mem_append_right _ hp) hm
  cur := by
    rw [take_snoc hx, grun_snoc]
    have e : (gstep (grun (xs.take i)) x).cur = [] := by simp [gstep, h7]
    rw [e]; exact .nil
  last := by
    rw [take_snoc hx, grun_snoc, emptyS]
    have e : (gstep (grun (xs.take i)) x).last = [] := by simp [gstep, h7]
    rw [e]
  pre := by
    rw [take_snoc hx, grun_snoc]
    have e : (gstep (grun (xs.take i)) x).pre = (grun (xs.take i)).pre ++ [(grun (xs.take i)).cur ++ [(grun (xs.take i)).last]] := by simp [gstep, h7]
    rw [e]
    refine PreAre.snoc (us := us ++ [.str lst tl]) (n := nU) ?_ ?_ (J.pre.mono fun p hp => .tail _ hp)
    · rw [show (us ++ [Value.str lst tl]).toArray = us.toArray.push (.str lst tl) by simp]; exact .head _
    · have := KStt.strs_snoc (x := lst) (t := tl) J.cur
      rw [List.map_append]
      rw [show lst = S (grun (xs.take i)).last from J.last] at this ⊢
      exact this
  sub := fun p hp => .tail _ (J.sub p hp)
  len1 := by have := J.len1; simp at this ⊢; exact this
  len2 := Nat.zero_le _
  len3 := by show (Str.ofString "").length ≤ _; rw [show (Str.ofString "").length = 0 by decide]; exact Nat.zero_le _

theorem jgs {sg : Str} (h0 : x.fmod 8 ≠ 0) (h7 : x.fmod 8 ≠ 7) (hs : sg = S [signOf x]) : JG aG fp rest xs (i + 1) ⟨aC, us, lst ++ sg, t, n', nG, rs, rst⟩ where
  off := J.off
  ne := J.ne
  ap := fun p hp => by
    rcases List.mem_append.mp hp with hp | hp
    · rcases List.mem_cons.mp hp with rfl | hp
      · exact J.ap (aG, _) (List.mem_append_left _ (.head _))
      · rw [List.mem_singleton.mp hp]; exact (show aC ∉ fp from J.ap (aC, W.listOf (us.toArray.push (.str lst tl)) nU) (List.mem_append_left _ (.tail _ (.head _))))
    · exact J.ap p (List.mem_append_right _ hp)
  cur := by
    rw [take_snoc hx, grun_snoc]
    have e : (gstep (grun (xs.take i)) x).cur = (grun (xs.take i)).cur := by simp [gstep, h0, h7]
    rw [e]; exact J.cur
  last := by
    rw [take_snoc hx, grun_snoc]
    have e : (gstep (grun (xs.take i)) x).last = (grun (xs.take i)).last ++ [signOf x] := by simp [gstep, h0, h7]
    rw [e, ← S_cat, ← hs, show lst = S (grun (xs.take i)).last from J.last]
  pre := by
    rw [take_snoc hx, grun_snoc]
    have e : (gstep (grun (xs.take i)) x).pre = (grun (xs.take i)).pre := by simp [gstep, h0, h7]
    rw [e]; exact J.pre
  sub := J.sub
  len1 := Nat.le_succ_of_le J.len1
  len2 := Nat.le_succ_of_le J.len2
  len3 := by
    have := J.len3
    show (lst ++ sg).length ≤ i + 1
    rw [Str.length_append, hs, S_len]
    simp at this ⊢; exact this
end
end Mine
end

section
local macro_rules | `(tactic| walk_at "pad") => `(tactic| fail "pad")
local macro_rules | `(tactic| walk_at "pad") => `(tactic| fail "pad")
local macro_rules | `(tactic| walk_at "pad") => `(tactic| fail "pad")
local macro_rules | `(tactic| walk_at "pad") => `(tactic| fail "pad")
local macro_rules | `(tactic| walk_at "pad") => `(tactic| fail "pad")
local macro_rules | `(tactic| walk_at "pad") => `(tactic| fail "pad")
local macro_rules | `(tactic| walk_at "pad") => `(tactic| fail "pad")
local macro_rules | `(tactic| walk_at "pad") => `(tactic| fail "pad")
local macro_rules | `(tactic| walk_at "pad") => `(tactic| fail "pad")
local macro_rules | `(tactic| walk_at "pad") => `(tactic| fail "pad")
local macro_rules | `(tactic| walk_at "pad") => `(tactic| fail "pad")
local macro_rules | `(tactic| walk_at "pad") => `(tactic| fail "pad")
local macro_rules | `(tactic| walk_at "pad") => `(tactic| fail "pad")
local macro_rules | `(tactic| walk_at "pad") => `(tactic| fail "pad")
theorem Mine.freshLS2 : True ∧ True := by
  w_top off
  walk1
  all_goals exact True.intro
end

/-! LS2 -/
section
open PySem PySem.W PyProof.Rows PySem.Calls
set_option maxRecDepth 100000
set_option maxHeartbeats 400000
namespace Mine
theorem filledL2 : ∀ (p : Params), hd.heap_39 p = hd.heap_39 p ∧ PySem.Challenge.rw_mj0093_01 = PySem.Challenge.rw_mj0093_01 := by
  k_fill; exact fun _ => ⟨rfl, rfl⟩
local macro_rules | `(tactic| walk_at "pyIter ref") => `(tactic| (refine halt ?_))
local macro_rules | `(tactic| walk_at "call builtin:list.append") => `(tactic| (refine halt ?_))
local macro_rules | `(tactic| walk_at "subscriptTail List BinOp ref int") => `(tactic| (refine halt ?_))
local macro_rules | `(tactic| walk_at "last subscriptTail") => `(tactic| (refine halt ?_))
local macro_rules | `(tactic| walk_at "setItem ref int") => `(tactic| (refine halt ?_))
local macro_rules | `(tactic| walk_at "subscriptTail Name UnaryOp ref int") => `(tactic| ((with_reducible show wpAny _ _ (subscriptTail _ _ (Value.ref _) (Value.int (-1) _)) _ _ _); (rename News _ _ _ _ => lgN); (first | refine item_last lgN (List.Mem.head _) ?_ | refine item_last lgN (List.Mem.tail _ (List.Mem.head _)) ?_ | refine item_last lgN (List.Mem.tail _ (List.Mem.tail _ (List.Mem.head _))) ?_)))
local macro_rules | `(tactic| walk_at "subscriptTail Subscript UnaryOp ref int") => `(tactic| ((with_reducible show wpAny _ _ (subscriptTail _ _ (Value.ref _) (Value.int (-1) _)) _ _ _); (rename News _ _ _ _ => lgN); (first | refine item_last lgN (List.Mem.head _) ?_ | refine item_last lgN (List.Mem.tail _ (List.Mem.head _)) ?_ | refine item_last lgN (List.Mem.tail _ (List.Mem.tail _ (List.Mem.head _))) ?_)))
theorem allLt_mem {d : Addr} (l : List (Addr × Obj)) (h : AllLt d l) (p : Addr × Obj) (hp : p ∈ l) : p.1 < d := by
  induction l with
  | nil => cases hp
  | cons q r ih =>
    rcases List.mem_cons.mp hp with e | hp
    · rw [e]; exact h.1
    · exact ih h.2 hp
variable {w : World} {dp un : Nat} {gd : Option (List Code)} {base : Heap} {mean : ExcName → Option Value} {mg mb : Str → Option Value} {s : Shared} {Q : Flow → Shared → Prop} {E : Value → Shared → Prop} {L fa l aG aI : Addr} {cd : Value} {m : Str → Option Value}

theorem news_swap {h₀ h : Heap} {L : Addr} {a b c : Addr × Obj} {r : List (Addr × Obj)} (N : News h₀ L h ([a] ++ b :: c :: r)) : News h₀ L h (b :: a :: c :: r) := fun p hp => N p (by
  rcases List.mem_cons.mp hp with rfl | hp
  · exact .tail _ (.head _)
  · rcases List.mem_cons.mp hp with rfl | hp
    · exact .head _
    · exact .tail _ (.tail _ hp))
theorem News.tl {h₀ h : Heap} {L : Addr} {a b : Addr × Obj} {r : List (Addr × Obj)} (N : News h₀ L h ([a, b] ++ r)) : News h₀ L h (b :: r) := fun p hp => N p (.tail _ hp)
def forBody : Stmt → List Stmt
  | .For _ _ b _ _ => b
  | _ => []
theorem turn0 {xs : List Int} {D I : Addr} {rest : List (Addr × Obj)} {s₀ : Shared} (c : GSt) (i : Nat) (x : Int) (t : Tok) (m₁ : Str → Option Value) (h : Heap) (tk : Nat) (own : List (Addr × Obj)) (oD oI : Obj)
    (X : (hd.heap_39 w.params).In base) (T : Top hd.view_39 (looseW hd.view_39 []) mean mg mb base) (hx9 : xs.length ≤ 15) (hc0 : x.fmod 8 = 0)
    (hx : xs[i]? = some x) (J : JG aG [I, D] rest xs i c) (hIo : (I, oI) ∈ own) (hDo : (D, oD) ∈ own) (hoff' : OwnOff (c.rst ++ own) [aG, c.aC])
    (F8 : Fr base L h (fun y => if y = Str.ofString "x" then some (.int x t) else if y = Str.ofString "groups" then some (.ref aG) else m₁ y)) (N8 : News base L h (c.led aG ++ (c.rst ++ own))) :
    wpAny (model PR w) (AR dp un gd [lawEnv L fa cd]) (execs (forBody (st 1)) (lawEnv L fa cd)) (Fin2 fun f s₂ => f = .next ∧ ∃ c' h' tk' m', s₂ = { s₀ with heap := h', toks := tk' } ∧ Fr base L h' m' ∧ m' (Str.ofString "groups") = some (.ref aG) ∧ News base L h' (c'.led aG ++ (c'.rst ++ own)) ∧ JG aG [I, D] rest xs (i + 1) c') E { s₀ with heap := h, toks := tk } := by
  obtain ⟨aC, us, lst, tl, nU, nG, rs, rst⟩ := c
  change wpAny _ _ (execs (_ :: _) _) _ _ _
  have jl1 : rs.length ≤ i := J.len1
  have jl2 : us.length ≤ i := J.len2
  have jl3 : lst.length ≤ i := J.len3
  have jne : aG ≠ aC := J.ne
  have hi15 : i < 15 := Nat.lt_of_lt_of_le (List.getElem?_eq_some_iff.mp hx).1 hx9
  dsimp only [GSt.led] at N8 hoff'
  (repeat' ((fail_if_success (with_reducible show Fin2 _ _ _)); (fail_if_success (with_reducible show Halt _)); (first | (k_unfold; (try dsimp only)) | walk1 | (dsimp only; walk1))))
  · rename Fr _ _ _ _ => F7
    rename News _ _ _ _ => N7
    rename Int.fmod x 8 = 0 => h0
    refine Halt.mk (append_led (pre := [(aG, _)]) (d := aC) (post := rst ++ own) F7 N7 ?a1 ?a2 ?a3 ?_)
    case a1 => intro p hp; rw [List.mem_singleton.mp hp]; exact jne
    case a2 => exact fun p hp => hoff' p hp aC (.tail _ (.head _))
    case a3 => rw [sizeLine_eq]; simp; omega
    intro h6 n6 F6 N6
    (try clear F7 N7); (try clear F8 N8)
    (repeat' ((fail_if_success (with_reducible show Fin2 _ _ _)); (fail_if_success (with_reducible show Halt _)); (first | (k_unfold; (try dsimp only)) | walk1 | (dsimp only; walk1))))
    rename Fr _ _ _ _ => F5
    rename News _ _ _ _ => N5
    rw [show us.toArray.push (Value.str lst tl) = (us ++ [Value.str lst tl]).toArray from by simp] at N5
    refine' ⟨rfl, ⟨aC, us ++ [.str lst tl], Str.ofString "", ?tt, n6, nG, rs, rst⟩, _, _, _, rfl, F5, rfl, N5, jg0 J hx h0⟩
  all_goals (exfalso; omega)

theorem turn7 {xs : List Int} {D I : Addr} {rest : List (Addr × Obj)} {s₀ : Shared} (c : GSt) (i : Nat) (x : Int) (t : Tok) (m₁ : Str → Option Value) (h : Heap) (tk : Nat) (own : List (Addr × Obj)) (oD oI : Obj)
    (X : (hd.heap_39 w.params).In base) (T : Top hd.view_39 (looseW hd.view_39 []) mean mg mb base) (hx9 : xs.length ≤ 15) (hc7 : x.fmod 8 = 7)
    (hx : xs[i]? = some x) (J : JG aG [I, D] rest xs i c) (hIo : (I, oI) ∈ own) (hDo : (D, oD) ∈ own) (hoff' : OwnOff (c.rst ++ own) [aG, c.aC])
    (F8 : Fr base L h (fun y => if y = Str.ofString "x" then some (.int x t) else if y = Str.ofString "groups" then some (.ref aG) else m₁ y)) (N8 : News base L h (c.led aG ++ (c.rst ++ own))) :
    wpAny (model PR w) (AR dp un gd [lawEnv L fa cd]) (execs (forBody (st 1)) (lawEnv L fa cd)) (Fin2 fun f s₂ => f = .next ∧ ∃ c' h' tk' m', s₂ = { s₀ with heap := h', toks := tk' } ∧ Fr base L h' m' ∧ m' (Str.ofString "groups") = some (.ref aG) ∧ News base L h' (c'.led aG ++ (c'.rst ++ own)) ∧ JG aG [I, D] rest xs (i + 1) c') E { s₀ with heap := h, toks := tk } := by
  obtain ⟨aC, us, lst, tl, nU, nG, rs, rst⟩ := c
  change wpAny _ _ (execs (_ :: _) _) _ _ _
  have jl1 : rs.length ≤ i := J.len1
  have jl2 : us.length ≤ i := J.len2
  have jl3 : lst.length ≤ i := J.len3
  have jne : aG ≠ aC := J.ne
  have hi15 : i < 15 := Nat.lt_of_lt_of_le (List.getElem?_eq_some_iff.mp hx).1 hx9
  dsimp only [GSt.led] at N8 hoff'
  (repeat' ((fail_if_success (with_reducible show Fin2 _ _ _)); (fail_if_success (with_reducible show Halt _)); (first | (k_unfold; (try dsimp only)) | walk1 | (dsimp only; walk1))))
  · exfalso; omega
  · rename Fr _ _ _ _ => F7
    rename News _ _ _ _ => N7
    rename Int.fmod x 8 = 7 => h7
    rename ∀ p ∈ _, Prod.fst p < _ => hlt7
    rename_i aN _
    refine Halt.mk (append_led (pre := [(aN, _)]) (d := aG) (post := (aC, _) :: (rst ++ own)) F7 N7 ?a1 ?a2 ?a3 ?_)
    case a1 => intro p hp; rw [List.mem_singleton.mp hp]; exact Nat.ne_of_gt (hlt7 _ (.head _))
    case a2 =>
      intro p hp
      rcases List.mem_cons.mp hp with rfl | hp
      · exact jne.symm
      · exact hoff' p hp aG (.head _)
    case a3 => rw [sizeLine_eq]; simp; omega
    intro h6 n6 F6 N6
    (try clear F7 N7); (try clear F8 N8)
    (repeat' ((fail_if_success (with_reducible show Fin2 _ _ _)); (fail_if_success (with_reducible show Halt _)); (first | (k_unfold; (try dsimp only)) | walk1 | (dsimp only; walk1))))
    rename Fr _ _ _ _ => F5
    rename News _ _ _ _ => N5
    rw [show rs.toArray.push (Value.ref aC) = (rs ++ [Value.ref aC]).toArray from by simp] at N5
    have N4 := news_swap N5
    refine' ⟨rfl, ⟨aN, [], Str.ofString "", ?t7, 0, n6, rs ++ [.ref aC], (aC, W.listOf (us.toArray.push (.str lst tl)) nU) :: rst⟩, _, _, _, rfl, F5, rfl, N4, jg7 J hx rfl hIo hDo hlt7 h7⟩
  · exfalso; omega

set_option maxHeartbeats 700000 in
theorem turnS {xs : List Int} {D I : Addr} {rest : List (Addr × Obj)} {s₀ : Shared} (c : GSt) (i : Nat) (x : Int) (t : Tok) (m₁ : Str → Option Value) (h : Heap) (tk : Nat) (own : List (Addr × Obj)) (oD oI : Obj)
    (X : (hd.heap_39 w.params).In base) (T : Top hd.view_39 (looseW hd.view_39 []) mean mg mb base) (hx9 : xs.length ≤ 15) (hcA : x.fmod 8 ≠ 0) (hcB : x.fmod 8 ≠ 7)
    (hx : xs[i]? = some x) (J : JG aG [I, D] rest xs i c) (hIo : (I, oI) ∈ own) (hDo : (D, oD) ∈ own) (hoff' : OwnOff (c.rst ++ own) [aG, c.aC])
    (F8 : Fr base L h (fun y => if y = Str.ofString "x" then some (.int x t) else if y = Str.ofString "groups" then some (.ref aG) else m₁ y)) (N8 : News base L h (c.led aG ++ (c.rst ++ own))) :
    wpAny (model PR w) (AR dp un gd [lawEnv L fa cd]) (execs (forBody (st 1)) (lawEnv L fa cd)) (Fin2 fun f s₂ => f = .next ∧ ∃ c' h' tk' m', s₂ = { s₀ with heap := h', toks := tk' } ∧ Fr base L h' m' ∧ m' (Str.ofString "groups") = some (.ref aG) ∧ News base L h' (c'.led aG ++ (c'.rst ++ own)) ∧ JG aG [I, D] rest xs (i + 1) c') E { s₀ with heap := h, toks := tk } := by
  obtain ⟨aC, us, lst, tl, nU, nG, rs, rst⟩ := c
  change wpAny _ _ (execs (_ :: _) _) _ _ _
  have jl1 : rs.length ≤ i := J.len1
  have jl2 : us.length ≤ i := J.len2
  have jl3 : lst.length ≤ i := J.len3
  have jne : aG ≠ aC := J.ne
  have hi15 : i < 15 := Nat.lt_of_lt_of_le (List.getElem?_eq_some_iff.mp hx).1 hx9
  dsimp only [GSt.led] at N8 hoff'
  (repeat' ((fail_if_success (with_reducible show Fin2 _ _ _)); (fail_if_success (with_reducible show Halt _)); (first | (k_unfold; (try dsimp only)) | walk1 | (dsimp only; walk1))))
  · exfalso; omega
  · exfalso; omega
  · rename Fr _ _ _ _ => F7
    rename News _ _ _ _ => N7
    rename Int.fmod x 8 ≠ 0 => h0
    rename Int.fmod x 8 ≠ 7 => h7
    have hb := Int.fmod_nonneg_of_pos x (by decide : (0 : Int) < 8)
    have hb2 := Int.fmod_lt_of_pos x (by decide : (0 : Int) < 8)
    have h16 : x.fmod 8 = 1 ∨ x.fmod 8 = 2 ∨ x.fmod 8 = 3 ∨ x.fmod 8 = 4 ∨ x.fmod 8 = 5 ∨ x.fmod 8 = 6 := by omega
    refine Halt.mk (item_last N7 (List.Mem.tail _ (List.Mem.head _)) ?_)
    (repeat' ((fail_if_success (with_reducible show Fin2 _ _ _)); (fail_if_success (with_reducible show Halt _)); (first | (k_unfold; (try dsimp only)) | walk1 | (dsimp only; walk1))))
    rename Fr _ _ _ _ => F6
    rename News _ _ _ _ => N6
    rename ∀ p ∈ _, Prod.fst p < _ => hlt7
    refine Halt.mk (item6 (x := x) N6 (List.Mem.head _) ?c6 h16 ?_)
    case c6 => rfl
    intro sg t9 hsg
    have hsl : sg.length = 1 := by rw [hsg, S_len]; rfl
    (repeat' ((fail_if_success (with_reducible show Fin2 _ _ _)); (fail_if_success (with_reducible show Halt _)); (first | (k_unfold; (try dsimp only)) | walk1 | (dsimp only; walk1))))
    rename Fr _ _ _ _ => F5
    rename News _ _ _ _ => N5
    refine Halt.mk (set_last (pre := [_, (aG, _)]) (d := aC) (post := rst ++ own) F5 N5 ?a1 ?a2 ?_)
    case a1 =>
      intro p hp
      rcases List.mem_cons.mp hp with rfl | hp
      · exact Nat.ne_of_gt (hlt7 _ (.tail _ (.head _)))
      · rw [List.mem_singleton.mp hp]; exact jne
    case a2 => exact fun p hp => hoff' p hp aC (.tail _ (.head _))
    intro h4 n4 F4 N4
    (try clear F5 N5); (try clear F6 N6); (try clear F7 N7); (try clear F8 N8)
    repeat (refine wpAny_execs_nil ?_)
    refine' ⟨rfl, ⟨aC, us, lst ++ sg, ?t8, n4, nG, rs, rst⟩, _, _, _, rfl, F4, rfl, News.tl N4, jgs J hx h0 h7 hsg⟩

theorem s1 {t0 : Tok} {rest : List (Addr × Obj)} {vs : List Value} {ns : List Int} (hE : PassesOwn (model PR w) (AR dp un gd [lawEnv L fa cd]) (lawEnv L fa cd) E)
    (X : (hd.heap_39 w.params).In base) (T : Top hd.view_39 (looseW hd.view_39 []) mean mg mb base)
    (F : Fr base L s.heap (fun y => if y = Str.ofString "groups" then some (.ref aG) else if y = Str.ofString "script" then some (.ref l) else m y))
    (N : News base L s.heap ([(aG, W.listOf #[.ref aI] 0), (aI, W.listOf #[.str (Str.ofString "") t0] 0)] ++ rest)) (hoff : OwnOff rest [aG, aI]) (hne : aG ≠ aI)
    (hl : base.IsList l vs.toArray) (hI : IntsAre vs ns) (hn : ns.length ≤ 63)
    (h : ∀ (c : GSt) (fp : List Addr) (m₁ : Str → Option Value) h tk, JG aG fp rest ([1, 2, 3] ++ ns.take 12) ([1, 2, 3] ++ ns.take 12).length c → Fr base L h m₁ → m₁ (Str.ofString "groups") = some (.ref aG) → News base L h (c.led aG ++ c.rst) → Q .next { s with heap := h, toks := tk }) :
    wpAny (model PR w) (AR dp un gd [lawEnv L fa cd]) (exec (st 1) (lawEnv L fa cd)) Q E s := by
  change wpAny _ _ (exec (Stmt.For (Expr.Name _ _) _ _ [] _) _) _ _ _
  refine For_invV base rfl rfl ?_ (fun _ => rfl) hE
  k_steps
  rename Fr _ _ _ _ => F9
  rename News _ _ _ _ => N9
  rename IntsAre _ ([1, 2, 3] ++ _) => hI9
  rename _ ∧ _ ∧ AllLt _ _ => hlt9
  rename_i D ws h9
  obtain ⟨hlt1, hlt2, hlt3⟩ := hlt9
  have hx9 : ([1, 2, 3] ++ ns.take 12).length ≤ 15 := by simp; omega
  generalize hxs : [1, 2, 3] ++ ns.take 12 = xs at *
  rename ∀ (c : GSt) (_ : List Addr), _ => hEnd
  have hD : ∀ p ∈ [(aG, W.listOf #[.ref aI] 0), (aI, W.listOf #[.str (Str.ofString "") t0] 0)] ++ rest, p.1 < D := allLt_mem _ hlt3
  have DD := N9 _ (.head _)
  have N8 : News base L h9 ([(aG, W.listOf #[.ref aI] 0), (aI, W.listOf #[.str (Str.ofString "") t0] 0)] ++ rest) := fun p hp => N9 p (.tail _ (.tail _ (.tail _ hp)))
  refine Halt.mk (groups_loop (rest := rest) (xs := xs) ⟨aI, [], Str.ofString "", t0, 0, 0, [], rest⟩ rfl F9 rfl ⟨_, DD.1, rfl, _, rfl⟩ hI9 DD.2.1 DD.2.2 N8 ?J ?turn ?done)
  case J =>
    refine ⟨hoff, hne, fun p hp hm => ?_, .nil, rfl, .nil, fun p hp => hp, Nat.le_refl _, Nat.le_refl _, by show (Str.ofString "").length ≤ 0; decide⟩
    rcases List.mem_cons.mp hm with e | hm
    · exact absurd (Heap.lt_size (N8 p hp).1) (e ▸ Nat.lt_irrefl _)
    · exact absurd (hD p hp) ((List.mem_singleton.mp hm) ▸ Nat.lt_irrefl _)
  case done => exact fun c m₁ h tk J F hm N => hEnd c _ m₁ h tk J F hm N
  case turn =>
    intro c i x t m₁ h tk own oD oI hx J hIo hDo hoff' F8 N8
    by_cases hc0 : x.fmod 8 = 0
    · exact turn0 c i x t m₁ h tk own oD oI X T hx9 hc0 hx J hIo hDo hoff' F8 N8
    · by_cases hc7 : x.fmod 8 = 7
      · exact turn7 c i x t m₁ h tk own oD oI X T hx9 hc7 hx J hIo hDo hoff' F8 N8
      · exact turnS c i x t m₁ h tk own oD oI X T hx9 hc0 hc7 hx J hIo hDo hoff' F8 N8
end Mine
end

/-! CE -/
section
open PySem PySem.W PyProof.Rows PySem.Calls
set_option maxRecDepth 100000
set_option maxHeartbeats 400000
namespace Mine
section
variable {prog : Program} {w : World} {A : Around} {E : Value → Shared → Prop} {s : Shared} {env : Env} {scope : Scope} {cl : List (Str × Addr)}

/-- as Ext, but of the objects at fs the slots may have turned -/
def Tn (fs : List Addr) (h h' : Heap) : Prop := (∀ b o, h.get? b = some o → b ∉ fs → h'.get? b = some o) ∧ (∀ b o, h.get? b = some o → b ∈ fs → ∃ sl, h'.get? b = some { o with slots := sl })
theorem Tn.of_ext {fs : List Addr} {h h' : Heap} (k : Ext h h') : Tn fs h h' := ⟨fun b o e _ => k b o e, fun b o e _ => ⟨o.slots, k b o e⟩⟩
theorem Tn.of_turn {fs : List Addr} {h h' : Heap} (k : Turn fs h h') : Tn fs h h' := by
  obtain ⟨g, T, k⟩ := k
  exact ⟨fun b o e hb => k b o (T.other b o e hb), fun b o e hb => let ⟨sl, hs⟩ := T.frame b o e hb; ⟨sl, k _ _ hs⟩⟩
theorem Tn.trans {fs : List Addr} {h h' h'' : Heap} (x : Tn fs h h') (y : Tn fs h' h'') : Tn fs h h'' :=
  ⟨fun b o e hb => y.1 b o (x.1 b o e hb) hb, fun b o e hb => let ⟨_, hs⟩ := x.2 b o e hb; let ⟨sl, hs'⟩ := y.2 b _ hs hb; ⟨sl, hs'⟩⟩
theorem Tn.ext {h h' : Heap} (x : Tn [] h h') : Ext h h' := fun b o e => x.1 b o e (fun hm => nomatch hm)

/-- a comprehension whose elements are plain values or new objects; the rest stays (up to slots at fs) -/
theorem compAt_tn {elt target : Expr} {Q : Value → Shared → Prop} {I : Addr} {fp wr : List Addr} {n : Nat} {Bd : Nat → (Str → Option Value) → Prop} {St : Nat → Heap → Prop}
    (fs : List Addr) (hB : Heap) (P : Nat → Value → Prop) (PO : Nat → Obj → Prop)
    (W : Src prog w A I fp wr n target scope cl env Bd St) (hsz : n ≤ sizeLine) (hst : St 0 s.heap) (hfp : ∀ b ∈ fp, b < s.heap.objs.size) (htk : 1 ≤ s.toks)
    (hext : Ext hB s.heap) (hwr : ∀ b ∈ wr, hB.get? b = none) (hfpo : ∀ i h, St i h → ∀ b ∈ fp, ∃ o, h.get? b = some o) (hfs : ∀ b ∈ fs, (∃ o, hB.get? b = some o) ∧ b ∉ fp)
    (helt : ∀ C i s₃ m₃ E', i < n → s.heap.objs.size ≤ C → Tn fs hB s₃.heap → s₃.heap.Ns C m₃ → Bd i m₃ → 1 ≤ s₃.toks →
      wpAny (model prog w) A (eval elt (compEnvC scope cl C env)) (fun y s₄ => ∃ h' tk, s₄ = { s₃ with heap := h', toks := tk } ∧ Tn fs s₃.heap h' ∧ (P i y ∨ ∃ T o, y = .ref T ∧ s₃.heap.get? T = none ∧ h'.get? T = some o ∧ PO i o)) E' s₃)
    (hQ : ∀ D h' tk ys, s.heap.objs.size ≤ D → h'.PlainList D ys → ys.toList.length = n → (∀ j y, ys.toList[j]? = some y → P j y ∨ ∃ T o, y = .ref T ∧ T ≠ D ∧ hB.get? T = none ∧ h'.get? T = some o ∧ PO j o) → Tn fs hB h' → 1 ≤ tk → Q (.ref D) { s with heap := h', toks := tk }) :
    CompAt prog w A elt target scope cl env Q (.ref I) s := by
  have hBlt : ∀ b o, hB.get? b = some o → b < s.heap.objs.size := fun b o e => Heap.lt_size (hext b o e)
  refine ⟨I, fp, wr, n, Bd, St, fun C D i ys h => Tn fs hB h ∧ ∀ j y, ys[j]? = some y → P j y ∨ ∃ T o, y = .ref T ∧ T ≠ C ∧ T ≠ D ∧ T ∉ wr ∧ hB.get? T = none ∧ h.get? T = some o ∧ PO j o, rfl, W, hsz, hst, hfp, htk, ?_, ?_, ?_, hfpo, ?_⟩
  · rintro C D i ys h h' hC hD ⟨ht, hy⟩ hk
    refine ⟨⟨fun b o e hb => hk b o (fun hm => ?_) (fun q => ?_) (fun q => ?_) (ht.1 b o e hb), fun b o e hb => ?_⟩, fun j y hj => ?_⟩
    · rw [hwr b hm] at e; cases e
    · exact absurd (hBlt b o e) (by rw [q]; exact Nat.not_lt.mpr hC)
    · exact absurd (hBlt b o e) (by rw [q]; exact Nat.not_lt.mpr hD)
    · obtain ⟨sl, hs⟩ := ht.2 b o e hb
      refine ⟨sl, hk b _ (fun hm => ?_) (fun q => ?_) (fun q => ?_) hs⟩
      · rw [hwr b hm] at e; cases e
      · exact absurd (hBlt b o e) (by rw [q]; exact Nat.not_lt.mpr hC)
      · exact absurd (hBlt b o e) (by rw [q]; exact Nat.not_lt.mpr hD)
    · rcases hy j y hj with hp | ⟨T, o, e, h1, h2, h3, h4, h5, h6⟩
      · exact .inl hp
      · exact .inr ⟨T, o, e, h1, h2, h3, h4, hk T o h3 h1 h2 h5, h6⟩
  · exact fun C D _ _ => ⟨Tn.of_ext hext, fun j y hj => by simp at hj⟩
  · rintro C D i ys s₃ m₃ E' hC hD hi hyl ⟨ht, hy⟩ hn hb hDo hfo ht3
    refine wpAny_mono (helt C i s₃ m₃ E' hi hC ht hn hb ht3) (fun y s₄ h₄ => ?_) fun _ _ e => e
    obtain ⟨h', tk, rfl, htn, hv⟩ := h₄
    refine ⟨h', tk, rfl, ⟨ht.trans htn, fun j y' hj => ?_⟩, fun b o hb' e => htn.1 b o e fun hm => ?_⟩
    · rcases Nat.lt_or_ge j ys.length with hlt | hge
      · rw [List.getElem?_append_left hlt] at hj
        rcases hy j y' hj with hp | ⟨T, o, e, h1, h2, h3, h4, h5, h6⟩
        · exact .inl hp
        · refine .inr ⟨T, o, e, h1, h2, h3, h4, htn.1 T o h5 (fun hm => ?_), h6⟩
          obtain ⟨⟨o', ho'⟩, _⟩ := hfs T hm
          rw [h4] at ho'; cases ho'
      · rw [List.getElem?_append_right hge] at hj
        have hj0 : j - ys.length = 0 := by
          rcases Nat.eq_zero_or_pos (j - ys.length) with h | h
          · exact h
          · rw [List.getElem?_eq_none (by simp only [List.length_singleton]; exact h)] at hj; cases hj
        have hjl : j = i := by omega
        rw [hj0] at hj
        obtain rfl : y = y' := by simpa using hj
        rcases hv with hp | ⟨T, o, e, h1, h2, h3⟩
        · exact .inl (hjl ▸ hp)
        · refine .inr ⟨T, o, e, fun q => ?_, fun q => ?_, fun hm => ?_, ?_, h2, hjl ▸ h3⟩
          · obtain ⟨oC, _, _, hoC, _⟩ := hn
            rw [← q, h1] at hoC; cases hoC
          · obtain ⟨oD, hoD⟩ := hDo
            rw [← q, h1] at hoD; cases hoD
          · obtain ⟨o', ho'⟩ := hfo T (W.sub T hm)
            rw [h1] at ho'; cases ho'
          · cases q : hB.get? T with
            | none => rfl
            | some o' =>
              by_cases hm : T ∈ fs
              · obtain ⟨sl, hs⟩ := ht.2 T o' q hm; rw [h1] at hs; cases hs
              · have := ht.1 T o' q hm; rw [h1] at this; cases this
    · obtain ⟨⟨o', ho'⟩, hnf⟩ := hfs b hm
      rcases hb' with rfl | rfl | hb'
      · exact absurd (hBlt _ o' ho') (Nat.not_lt.mpr hC)
      · exact absurd (hBlt _ o' ho') (Nat.not_lt.mpr hD)
      · exact hnf hb'
  · rintro C D h' tk ys hC hD hpl hlen ⟨ht, hy⟩ ht1
    exact hQ D h' tk ys hD hpl hlen (fun j y hj => (hy j y hj).imp id fun ⟨T, o, e, _, h2, _, h4, h5, h6⟩ => ⟨T, o, e, h2, h4, h5, h6⟩) ht ht1
end
end Mine
end

section
local macro_rules | `(tactic| walk_at "pad") => `(tactic| fail "pad")
local macro_rules | `(tactic| walk_at "pad") => `(tactic| fail "pad")
local macro_rules | `(tactic| walk_at "pad") => `(tactic| fail "pad")
local macro_rules | `(tactic| walk_at "pad") => `(tactic| fail "pad")
local macro_rules | `(tactic| walk_at "pad") => `(tactic| fail "pad")
local macro_rules | `(tactic| walk_at "pad") => `(tactic| fail "pad")
local macro_rules | `(tactic| walk_at "pad") => `(tactic| fail "pad")
local macro_rules | `(tactic| walk_at "pad") => `(tactic| fail "pad")
local macro_rules | `(tactic| walk_at "pad") => `(tactic| fail "pad")
local macro_rules | `(tactic| walk_at "pad") => `(tactic| fail "pad")
local macro_rules | `(tactic| walk_at "pad") => `(tactic| fail "pad")
local macro_rules | `(tactic| walk_at "pad") => `(tactic| fail "pad")
local macro_rules | `(tactic| walk_at "pad") => `(tactic| fail "pad")
local macro_rules | `(tactic| walk_at "pad") => `(tactic| fail "pad")
theorem Mine.freshLS3 : True ∧ True := by
  w_top off
  walk1
  all_goals exact True.intro
end

/-! LS3 -/
section
open PySem PySem.W PyProof.Rows PySem.Calls
set_option maxRecDepth 100000
set_option maxHeartbeats 400000
namespace Mine
theorem filledL3 : ∀ (p : Params), hd.heap_39 p = hd.heap_39 p ∧ PySem.Challenge.rw_mj0093_01 = PySem.Challenge.rw_mj0093_01 := by
  k_fill; exact fun _ => ⟨rfl, rfl⟩
variable {w : World} {dp un : Nat} {gd : Option (List Code)} {base : Heap} {mean : ExcName → Option Value} {mg mb : Str → Option Value} {s : Shared} {Q : Flow → Shared → Prop} {E : Value → Shared → Prop} {L fa l aG aI : Addr} {cd : Value} {m : Str → Option Value}

theorem store_cell {prog : Program} {A : Around} {env : Env} {h₀ : Heap} {c : Addr} {pre post : List (Addr × Obj)} {o : Obj} {v₀ : Option Value} {v : Value} {x : Str} {Q : Unit → Shared → Prop} (F : Fr h₀ L s.heap m) (N : News h₀ L s.heap (pre ++ (c, o) :: post)) (h1 : ∀ p ∈ pre, p.1 ≠ c) (h2 : ∀ p ∈ post, p.1 ≠ c) (hd : o.data = .cell v₀)
    (hk : env.scope.kind = .function) (hl : env.kindOf x = some .cell) (hc : env.cells.lookup x = some c)
    (h : ∀ h' o', Fr h₀ L h' m → News h₀ L h' (pre ++ (c, o') :: post) → o'.data = .cell (some v) → Q () { s with heap := h' }) :
    wpAny (model prog w) A (storeName env x v) Q E s := by
  have D := N (c, o) (List.mem_append_right _ (.head _))
  refine wpAny_storeName_cell hk hl hc ⟨o, D.1, hd⟩ fun h' hv hs => ?_
  obtain ⟨o', ho', hd'⟩ := hv
  exact h h' o' (fr_same F hs D.2.1 D.2.2) (news_set N h1 h2 hs ho') hd'

theorem s2 {nw : List (Addr × Obj)} {oL : Obj} {v₀ : Option Value} (X : (hd.heap_39 w.params).In base) (T : Top hd.view_39 (looseW hd.view_39 []) mean mg mb base)
    (F : Fr base L s.heap m) (N : News base L s.heap ([(L + 1, oL)] ++ nw)) (hoff : OwnOff nw [L + 1]) (hoL : oL.data = .cell v₀)
    (h : ∀ aL oL' h' tk, Fr base L h' m → News base L h' ((aL, W.listOf #[] 0) :: (L + 1, oL') :: nw) → oL'.data = .cell (some (.ref aL)) → (∀ p ∈ (L + 1, oL') :: nw, p.1 ≠ aL) → Q .next { s with heap := h', toks := tk }) :
    wpAny (model PR w) (AR dp un gd [lawEnv L fa cd]) (exec (st 2) (lawEnv L fa cd)) Q E s := by
  change wpAny _ _ (exec (Stmt.Assign _ _ _) _) _ _ _
  (repeat' ((fail_if_success (with_reducible show Fin2 _ _ _)); (fail_if_success (with_reducible show Halt _)); (first | (k_unfold; (try dsimp only)) | walk1 | (dsimp only; walk1))))
  rename Fr _ _ _ _ => F9
  rename News _ _ _ _ => N9
  rename ∀ p ∈ _, Prod.fst p < _ => hlt
  rename_i aL _
  refine store_cell (pre := [(aL, _)]) (c := L + 1) (post := nw) F9 N9 ?_ (fun p hp => hoff p hp _ (.head _)) hoL rfl rfl rfl ?_
  · intro p hp; rw [List.mem_singleton.mp hp]; exact Nat.ne_of_gt (hlt _ (.head _))
  · intro h' o' F' N' hd'
    refine h aL o' h' _ F' N' hd' fun p hp => ?_
    rcases List.mem_cons.mp hp with rfl | hp
    · exact Nat.ne_of_lt (show L + 1 < aL from hlt (L + 1, oL) (.head _))
    · exact Nat.ne_of_lt (hlt p (.tail _ hp))
end Mine
end

/-! LL -/
section
open PySem PySem.W PyProof.Rows PySem.Calls
set_option maxRecDepth 100000
set_option maxHeartbeats 400000
namespace Mine
section
variable {prog : Program} {w : World} {A : Around} {E : Value → Shared → Prop} {s : Shared} {env : Env} {base : Heap} {body : List Stmt} {Q : Flow → Shared → Prop} {m : Str → Option Value} {x : Str}

/-- a for over an iterator made of objects that the ledger bears (Walks), the state c in the ledger's head -/
theorem loop_led {σ : Type} {I : Addr} {fp : List Addr} {n : Nat} {P : Nat → Value → Prop} {St : Nat → Heap → Prop} (led : σ → List (Addr × Obj)) (nw : List (Addr × Obj)) (J : Nat → σ → Prop) (M : (Str → Option Value) → Prop) (c₀ : σ)
    (W : Walks prog w A I fp [I] n P St) (hst : St 0 s.heap) (hLf : env.locals ∉ fp) (hI0 : base.get? I = none) (F : Fr base env.locals s.heap m) (N : News base env.locals s.heap (led c₀ ++ nw)) (hIn : ∀ p ∈ led c₀ ++ nw, p.1 ≠ I)
    (hadr : ∀ c, (led c).map (·.1) = (led c₀).map (·.1)) (hJ : J 0 c₀) (hM : M m)
    (turn : ∀ (c : σ) (i : Nat) (v : Value) (m₁ : Str → Option Value) h tk own, i < n → P i v → J i c → M m₁ → (∀ p ∈ own, p.1 ∈ fp) →
      Fr base env.locals h (fun y => if y = x then some v else m₁ y) → News base env.locals h (led c ++ (nw ++ own)) →
      wpAny (model prog w) A (execs body env) (Fin2 fun f s₂ => (f = .next ∧ ∃ c' h' tk' m', s₂ = { s with heap := h', toks := tk' } ∧ Fr base env.locals h' m' ∧ M m' ∧ News base env.locals h' (led c' ++ (nw ++ own)) ∧ J (i + 1) c') ∨ ∃ v, f = .ret v ∧ Q (.ret v) s₂) E { s with heap := h, toks := tk })
    (done : ∀ (c : σ) (m₁ : Str → Option Value) h tk, J n c → M m₁ → Fr base env.locals h m₁ → News base env.locals h (led c ++ nw) → Q .next { s with heap := h, toks := tk }) :
    LoopAtV prog w A base env x body Q E (.ref I) s := by
  refine ⟨I, fp, [I], n, P, St, m, led c₀ ++ nw, fun i m₁ nw₁ => M m₁ ∧ ∃ c, nw₁ = led c ++ nw ∧ J i c, rfl, W, hLf, fun b hb => by rw [List.mem_singleton.mp hb]; exact hI0, fun p hp hm => hIn p hp (List.mem_singleton.mp hm), hst, F, N, ⟨hM, c₀, rfl, hJ⟩, ?_, ?_⟩
  · rintro i v m₁ nw₁ s₁ own ⟨h, tk, rfl⟩ hi hP ⟨hM₁, c, rfl, Jc⟩ hoff hown hownat hownall st F₁ N₁
    have N₂ : News base env.locals h (led c ++ (nw ++ own)) := fun p hp => N₁ p (by
      rcases List.mem_append.mp hp with q | q
      · exact List.mem_append_right _ (List.mem_append_left _ q)
      · rcases List.mem_append.mp q with q | q
        · exact List.mem_append_right _ (List.mem_append_right _ q)
        · exact List.mem_append_left _ q)
    refine wpAny_mono (turn c i v m₁ h tk own hi hP Jc hM₁ hown F₁ N₂) (fun f s₂ hp => ?_) fun _ _ e => e
    rcases hp.out with ⟨rfl, c', h', tk', m', rfl, F', hM', N', J'⟩ | ⟨v', rfl, hq⟩
    · refine .next ⟨rfl, h', tk', m', led c' ++ nw, rfl, F', fun p hp => N' p ?_, fun p hp hq => ?_, hM', c', rfl, J'⟩
      · rcases List.mem_append.mp hp with q | q
        · exact List.mem_append_right _ (List.mem_append_right _ q)
        · rcases List.mem_append.mp q with q | q
          · exact List.mem_append_left _ q
          · exact List.mem_append_right _ (List.mem_append_left _ q)
      · have e := List.mem_singleton.mp hq
        rcases List.mem_append.mp hp with q | q
        · have : p.1 ∈ (led c₀).map (·.1) := by rw [← hadr c']; exact List.mem_map_of_mem q
          obtain ⟨p', hp', e'⟩ := List.mem_map.mp this
          exact hIn p' (List.mem_append_left _ hp') (e'.trans e)
        · exact hIn p (List.mem_append_right _ q) e
    · exact .ret hq
  · rintro h' tk m' nw' F' N' _ ⟨hM', c, rfl, Jc⟩
    exact done c m' h' tk Jc hM' F' N'
end
end Mine
end

/-! PL -/
section
open PySem PySem.W PyProof.Rows PySem.Calls
namespace Mine
open StrLaws (dbl)
def sufL (k : Nat) : List Nat := if k % 3 = 0 then [] else if k % 3 = 1 then [32, 105, 115, 32, 105, 116] else [32, 34, 116, 111, 111, 34, 32, 111, 114, 32, 115, 111]
def codeL (l : List Nat) : List Nat := if l.getLast? = some 61 then [50, 53, 48] else [50, 53, 55]
def replyL (l : List Nat) (k : Nat) : List Nat := codeL l ++ [32, 34] ++ dbl 34 l ++ [34] ++ sufL k

theorem S_ext {x y : Str} (h : x.cps.toList = y.cps.toList) : x = y := Str.ext' (Array.toList_inj.mp h)
theorem doubled_eq (l : List Nat) : Txt.replace (S l) (Str.ofString "\\") (Str.ofString "\\\\") = S (dbl 92 l) := by
  have e1 : Str.ofString "\\" = ⟨#[92]⟩ := bs_is
  have e2 : Str.ofString "\\\\" = ⟨#[92, 92]⟩ := by decide +kernel
  rw [e1, e2]
  exact S_ext (StrLaws.replace_double (S l) 92)
theorem quoted_eq (l : List Nat) : Txt.replace (S l) (Str.ofString "\"") (Str.ofString "\"\"") = S (dbl 34 l) := by
  have e1 : Str.ofString "\"" = ⟨#[34]⟩ := q_is
  have e2 : Str.ofString "\"\"" = ⟨#[34, 34]⟩ := by decide +kernel
  rw [e1, e2]
  exact S_ext (StrLaws.replace_double (S l) 34)

theorem slice_last_nil : Txt.slice (S []) (some (-1)) none = S [] := by decide +kernel
theorem slice_last (l : List Nat) (c : Nat) : Txt.slice (S (l ++ [c])) (some (-1)) none = S [c] := by
  have hlen : (S (l ++ [c])).length = l.length + 1 := by rw [S_len]; simp
  have hidx : Builtin.Str.strSliceIndices (some (-1)) none 1 (l.length + 1) = [l.length] := by
    unfold Builtin.Str.strSliceIndices sliceRange
    simp only [show (1 : Int) > 0 by decide, if_true]
    have e1 : (if (-1 : Int) < 0 then -1 + ((l.length + 1 : Nat) : Int) else -1) = (l.length : Int) := by rw [if_pos (by decide)]; push_cast; omega
    rw [e1]
    have e2 : max 0 (min (l.length : Int) ((l.length + 1 : Nat) : Int)) = (l.length : Int) := by omega
    rw [e2, if_pos (by push_cast; omega)]
    have e3 : (((l.length + 1 : Nat) : Int) - (l.length : Int) + 1 - 1) / 1 = 1 := by rw [Int.ediv_one]; push_cast; omega
    rw [e3]
    show (List.range 1).map _ = _
    simp [List.range_succ]
  unfold Txt.slice
  rw [hlen, hidx]
  by_cases hl : l = []
  · subst hl; rfl
  · have : ¬ (((1 : Int) == 1 && ([l.length].length == l.length + 1)) = true) := by
      have : l.length ≠ 0 := fun h => hl (List.eq_nil_of_length_eq_zero h)
      simp; omega
    rw [if_neg this]
    show (⟨([l.length].filterMap fun i => (S (l ++ [c])).cps[i]?).toArray⟩ : Str) = _
    simp [S]
theorem eq_lit : Str.ofString "=" = S [61] := eq_is
theorem last_eq (l : List Nat) : (Txt.slice (S l) (some (-1)) none == Str.ofString "=") = decide (l.getLast? = some 61) := by
  rw [eq_lit]
  rcases List.eq_nil_or_concat l with rfl | ⟨l', c, hl⟩
  · rw [slice_last_nil]; decide +kernel
  · rw [List.concat_eq_append] at hl; subst hl
    have hg : (l' ++ [c]).getLast? = some c := by simp
    rw [slice_last]
    by_cases h : c = 61
    · subst h
      rw [decide_eq_true hg]
      exact beq_iff_eq.mpr rfl
    · rw [decide_eq_false (by rw [hg]; intro q; exact h (Option.some.inj q))]
      rw [Bool.eq_false_iff]
      intro q
      have := S_inj (beq_iff_eq.mp q)
      exact h (by simpa using this)
theorem suf_eq (k : Nat) : suf (k : Int) = S (sufL k) := by
  have h : ((k : Int).fmod 3) = ((k % 3 : Nat) : Int) := by
    rw [Int.fmod_eq_emod_of_nonneg _ (by decide)]; rfl
  unfold suf sufL
  rw [h]
  have h3 : k % 3 = 0 ∨ k % 3 = 1 ∨ k % 3 = 2 := by omega
  rcases h3 with e | e | e
  · rw [e]; decide +kernel
  · rw [e]; decide +kernel
  · rw [e]; decide +kernel
theorem reply_eq (l : List Nat) (k : Nat) : replyS (S l) (k : Int) = S (replyL l k) := by
  have e1 : Str.ofString " \"" = S [32, 34] := by decide +kernel
  have e2 : Str.ofString "\"" = S [34] := q_is
  have e3 : Str.ofString "250" = S [50, 53, 48] := by decide +kernel
  have e4 : Str.ofString "257" = S [50, 53, 55] := by decide +kernel
  unfold replyS replyL codeL
  rw [last_eq, quoted_eq, suf_eq, e1, e2, e3, e4]
  by_cases h : l.getLast? = some 61
  · simp only [h, decide_true, if_true, S_cat]
  · simp only [h, decide_false, Bool.false_eq_true, if_false, S_cat]

noncomputable def joinL (sep : List Nat) : List (List Nat) → List Nat
  | [] => []
  | [x] => x
  | x :: rest => x ++ sep ++ joinL sep rest
theorem join_eq (sep : List Nat) : ∀ ls : List (List Nat), Str.join (S sep) (ls.map S) = S (joinL sep ls)
  | [] => rfl
  | [x] => rfl
  | x :: y :: r => by
    show S x ++ S sep ++ Str.join (S sep) ((y :: r).map S) = _
    rw [join_eq sep (y :: r), S_cat, S_cat]
    rfl
end Mine
end

section
local macro_rules | `(tactic| walk_at "pad") => `(tactic| fail "pad")
local macro_rules | `(tactic| walk_at "pad") => `(tactic| fail "pad")
local macro_rules | `(tactic| walk_at "pad") => `(tactic| fail "pad")
local macro_rules | `(tactic| walk_at "pad") => `(tactic| fail "pad")
local macro_rules | `(tactic| walk_at "pad") => `(tactic| fail "pad")
local macro_rules | `(tactic| walk_at "pad") => `(tactic| fail "pad")
local macro_rules | `(tactic| walk_at "pad") => `(tactic| fail "pad")
local macro_rules | `(tactic| walk_at "pad") => `(tactic| fail "pad")
local macro_rules | `(tactic| walk_at "pad") => `(tactic| fail "pad")
local macro_rules | `(tactic| walk_at "pad") => `(tactic| fail "pad")
local macro_rules | `(tactic| walk_at "pad") => `(tactic| fail "pad")
local macro_rules | `(tactic| walk_at "pad") => `(tactic| fail "pad")
local macro_rules | `(tactic| walk_at "pad") => `(tactic| fail "pad")
local macro_rules | `(tactic| walk_at "pad") => `(tactic| fail "pad")
theorem Mine.freshLS4 : True ∧ True := by
  w_top off
  walk1
  all_goals exact True.intro
end

/-! LS4 -/
section
open PySem PySem.W PyProof.Rows PySem.Calls
set_option maxRecDepth 100000
set_option maxHeartbeats 400000
namespace Mine
open StrLaws (dbl)
theorem filledL4 : ∀ (p : Params), hd.heap_39 p = hd.heap_39 p ∧ PySem.Challenge.rw_mj0093_01 = PySem.Challenge.rw_mj0093_01 := by
  k_fill; exact fun _ => ⟨rfl, rfl⟩
variable {w : World} {dp un : Nat} {gd : Option (List Code)} {base : Heap} {mean : ExcName → Option Value} {mg mb : Str → Option Value} {s : Shared} {Q : Flow → Shared → Prop} {E : Value → Shared → Prop} {L fa l aG aI aL : Addr} {cd : Value} {m : Str → Option Value}

def repsL (g : List (List Nat)) : List (List Nat) := g.zipIdx.map fun p => replyL p.1 p.2
noncomputable def listL (g : List (List Nat)) : List Nat := joinL [44, 32] ((repsL g).map (dbl 92))

theorem PreAre.get {rst : List (Addr × Obj)} : ∀ {rs pre}, PreAre rst rs pre → ∀ (i : Nat) (v : Value), rs[i]? = some v → ∃ a us n ws, v = .ref a ∧ pre[i]? = some ws ∧ (a, W.listOf us.toArray n) ∈ rst ∧ StrsAre us (ws.map S)
  | _, _, .cons hm hS _, 0, v, e => by simp at e; exact ⟨_, _, _, _, e.symm, rfl, hm, hS⟩
  | _, _, .cons _ _ t, i + 1, v, e => by
    obtain ⟨a, us, n, ws, h1, h2, h3, h4⟩ := t.get i v (by simpa using e)
    exact ⟨a, us, n, ws, h1, by simpa using h2, h3, h4⟩

theorem fresh_at {h : Heap} {b : Addr} (hb : h.objs.size ≤ b) : h.get? b = none := by
  cases e : h.get? b with
  | none => rfl
  | some o => exact absurd (Heap.lt_size e) (Nat.not_lt.mpr hb)
theorem strs_of_places : ∀ {ys : List Value} {ts : List Str}, ys.length = ts.length → (∀ (j : Nat) (y : Value), ys[j]? = some y → ∃ x t, y = Value.str x t ∧ ts[j]? = some x) → StrsAre ys ts
  | [], [], _, _ => .nil
  | y :: ys, x :: ts, hl, h => by
    obtain ⟨x', t, rfl, e⟩ := h 0 y rfl
    have : x = x' := by simpa using e
    subst this
    exact .cons _ _ (strs_of_places (by simpa using hl) fun j z hj => by simpa using h (j + 1) z (by simpa using hj))
theorem strs_pairs : ∀ {ys : List Value} {ts : List Str}, StrsAre ys ts → ∃ l : List (Str × Tok), ys = strValues l ∧ l.map (·.1) = ts
  | _, _, .nil => ⟨[], rfl, rfl⟩
  | _, _, .cons x t h => by
    obtain ⟨l, e1, e2⟩ := strs_pairs h
    exact ⟨(x, t) :: l, by rw [e1]; rfl, by rw [← e2]; rfl⟩
theorem sum_len_le (c : Nat) : ∀ ts : List Str, (∀ x ∈ ts, x.length ≤ c) → (ts.map (·.length)).sum ≤ c * ts.length
  | [], _ => Nat.zero_le _
  | x :: r, h => by
    have h1 := h x (.head _)
    have h2 := sum_len_le c r fun y hy => h y (.tail _ hy)
    simp only [List.map_cons, List.sum_cons, List.length_cons, Nat.mul_add, Nat.mul_one]
    omega
theorem law_amb {h : Heap} (X : (hd.heap_39 w.params).In base) (T : Top hd.view_39 (looseW hd.view_39 []) mean mg mb base) (F : Fr base L h m) (hdp : dp < 400) (hun : un < 400) :
    Amb w dp un gd [lawEnv L fa cd] base mean mg mb h where
  B := by
    obtain ⟨o, es, ep, ho, hd', _⟩ := id F.ns
    refine ⟨rfl, F.keep, ⟨by show lawScope.kind ≠ .module; decide, ⟨L, o, rfl, kts_self F, ho, fun vs e => by rw [hd'] at e; cases e⟩, trivial⟩⟩
  X := X.keeps F.keep
  T := T.keeps F.keep
  hdp := by omega
  hun := by omega

theorem fr_tn {h h' : Heap} (F : Fr base L h m) (t : Tn [L] h h') : Fr base L h' m := by
  obtain ⟨o, es, ep, ho, hd', hk, hf⟩ := id F.ns
  obtain ⟨sl, hs⟩ := t.2 L o ho (.head _)
  refine ⟨⟨_, es, ep, hs, hd', hk, hf⟩, fun b o e => t.1 b o (F.keep b o e) fun hm => ?_, F.above⟩
  rw [List.mem_singleton.mp hm, kts_self F] at e; cases e
theorem news_tn {h h' : Heap} {nw : List (Addr × Obj)} (N : News base L h nw) (t : Tn [L] h h') : News base L h' nw :=
  fun p hp => ⟨t.1 _ _ (N p hp).1 fun hm => (N p hp).2.1 (List.mem_singleton.mp hm), (N p hp).2⟩

theorem sufL_len (k : Nat) : (sufL k).length ≤ 12 := by
  unfold sufL; split
  · exact Nat.zero_le _
  · split <;> decide
theorem codeL_len (l : List Nat) : (codeL l).length = 3 := by unfold codeL; split <;> rfl
theorem replyL_len (l : List Nat) (k : Nat) : (replyL l k).length ≤ 2 * l.length + 18 := by
  unfold replyL
  have h1 := dbl_len 34 l
  have h2 := sufL_len k
  have h3 := codeL_len l
  simp only [List.length_append, List.length_cons, List.length_nil]
  omega
local macro_rules | `(tactic| walk_at "eval ListComp") => `(tactic| (refine halt ?_))
local macro_rules | `(tactic| walk_at "call type:enumerate") => `(tactic| (refine halt ?_))
local macro_rules | `(tactic| walk_at "call ref") => `(tactic| (refine halt ?_))
local macro_rules | `(tactic| walk_at "call builtin:list.append") => `(tactic| (refine halt ?_))
local macro_rules | `(tactic| walk_at "call builtin:str.join") => `(tactic| (refine halt ?_))

theorem turn3 {g : List (List Nat)} {a : Addr} {us xs : List Value} {n nx : Nat} {nw : List (Addr × Obj)} {oL : Obj} (X : (hd.heap_39 w.params).In base) (T : Top hd.view_39 (looseW hd.view_39 []) mean mg mb base) (hdp : dp < 400) (hun : un < 400)
    (F : Fr base L s.heap (fun y => if y = Str.ofString "names" then some (.ref a) else m y)) (N : News base L s.heap ([(aL, W.listOf xs.toArray nx), (L + 1, oL)] ++ nw)) (hoff : OwnOff nw [aL]) (hne : L + 1 ≠ aL) (hoL : oL.data = .cell (some (.ref aL)))
    (hm : (a, W.listOf us.toArray n) ∈ nw) (hS : StrsAre us (g.map S)) (hg : g.length ≤ 20) (hgn : ∀ nm ∈ g, nm.length ≤ 20) (hxs : xs.length ≤ 20)
    (h : ∀ t h' nx' tk, Fr base L h' (fun y => if y = Str.ofString "names" then some (.ref a) else m y) → News base L h' ([(aL, W.listOf (xs ++ [Value.str (S (listL g)) t]).toArray nx'), (L + 1, oL)] ++ nw) → Q .next { s with heap := h', toks := tk }) :
    wpAny (model PR w) (AR dp un gd [lawEnv L fa cd]) (execs (forBody (st 3)) (lawEnv L fa cd)) (Fin2 Q) E s := by
  change wpAny _ _ (execs (_ :: _) _) _ _ _
  (repeat' ((fail_if_success (with_reducible show Fin2 _ _ _)); (fail_if_success (with_reducible show Halt _)); (first | (k_unfold; (try dsimp only)) | walk1 | (dsimp only; walk1))))
  have hmN : (a, W.listOf us.toArray n) ∈ [(aL, W.listOf xs.toArray nx), (L + 1, oL)] ++ nw := .tail _ (.tail _ hm)
  have hla : s.heap.IsList a us.toArray := ⟨_, (N _ hmN).1, rfl, _, rfl⟩
  have hul : us.length = g.length := by rw [hS.len_eq, List.length_map]
  refine Halt.mk (comp_eval (closureFor_none (by decide)) (by decide) rfl (by decide) ?_ (fun _ => rfl))
  (repeat' ((fail_if_success (with_reducible show Fin2 _ _ _)); (fail_if_success (with_reducible show Halt _)); (first | (k_unfold; (try dsimp only)) | walk1 | (dsimp only; walk1))))
  refine Halt.mk (call_enumerate_list hla ?_)
  intro h1 he hit hsz1 hk1
  refine wpAny_pyIter_enum he ?_
  have hla1 : h1.IsList a us.toArray := hla.at fun o e => hk1 _ o e
  have halt : a < s.heap.objs.size := let ⟨_, e, _⟩ := hla; Heap.lt_size e
  have W1 := (WalksT.enumerate (prog := PR) (w := w) (A := AR dp un gd [lawEnv L fa cd]) rfl (s.heap.objs.size + 1) s.heap.objs.size a (Nat.succ_ne_self _) (Nat.ne_of_lt (Nat.lt_succ_of_lt halt)) (Nat.ne_of_lt halt) us.toArray).toU
  refine compAt_tn [] s.heap (fun i y => ∃ t, y = .str (S (dbl 92 (replyL (g.getD i []) i))) t) (fun _ _ => False) (Src.pair rfl W1 ?pair rfl rfl rfl (by decide)) ?sz ⟨⟨_, he⟩, hit, hla1⟩ ?fp ?tk (fun b o e => hk1 b o e) ?wr ?fpo (fun _ hm => nomatch hm) ?elt ?q
  case pair => rintro i vals ⟨t, x, _, rfl⟩; exact ⟨_, _, rfl⟩
  case sz => rw [sizeLine_eq]; simp; omega
  case tk => show 1 ≤ s.toks + 1; omega
  case fp =>
    intro b hb
    have hz : h1.objs.size = s.heap.objs.size + 2 := hsz1
    show b < h1.objs.size
    rw [hz]
    simp at hb
    rcases hb with rfl | rfl | rfl
    · exact Nat.lt_succ_self _
    · exact Nat.lt_succ_of_lt (Nat.lt_succ_self _)
    · exact Nat.lt_succ_of_lt (Nat.lt_succ_of_lt halt)
  case wr =>
    intro b hb
    simp at hb
    rcases hb with rfl | rfl
    · exact fresh_at (Nat.le_succ _)
    · exact fresh_at (Nat.le_refl _)
  case fpo =>
    rintro i h' ⟨⟨old, ho⟩, ⟨o2, ho2, _⟩, ⟨o3, ho3, _⟩⟩ b hb
    simp at hb
    rcases hb with rfl | rfl | rfl
    · exact ⟨_, ho⟩
    · exact ⟨_, ho2⟩
    · exact ⟨_, ho3⟩
  case elt =>
    rintro C i s₃ m₃ E' hi hC htn hns ⟨v₁, v₂, ⟨t, x, hx, hvals⟩, hk, hnm⟩ ht3
    have hgi : i < g.length := by rw [← hul]; simpa using hi
    obtain ⟨rfl, rfl⟩ : v₁ = .int i t ∧ v₂ = x := by simpa using hvals
    obtain ⟨nm', tt, rfl, hnm'⟩ := hS.item i v₂ (by simpa using hx)
    have hnmi : nm' = S g[i] := by
      rw [List.getElem?_map, List.getElem?_eq_getElem hgi] at hnm'
      exact (Option.some.inj hnm').symm
    have hgd : g.getD i [] = g[i] := by simp [hgi]
    have hnl : nm'.length ≤ 20 := by rw [hnmi, S_len]; exact hgn _ (List.getElem_mem hgi)
    have hke : Ext s.heap s₃.heap := htn.ext
    have F3 : Fr base L s₃.heap _ := fr_tn F (Tn.of_ext hke)
    have F6 : Fr s.heap C s₃.heap (fun y => if y = Str.ofString "k" then some (.int i t) else if y = Str.ofString "name" then some (.str nm' tt) else m₃ y) := by
      have e1 := map_eta hnm
      have e2 : m₃ = fun y => if y = Str.ofString "k" then some (.int i t) else if y = Str.ofString "name" then some (.str nm' tt) else m₃ y := by
        funext y
        by_cases h1 : y = Str.ofString "k"
        · rw [if_pos h1, h1, hk]
        · rw [if_neg h1]; exact congrFun e1 y
      rw [← e2]
      exact ⟨hns, hke, Nat.le_trans (by show s.heap.objs.size ≤ h1.objs.size; rw [show h1.objs.size = s.heap.objs.size + 2 from hsz1]; exact Nat.le_add_right _ 2) hC⟩
    have X3 := X.keeps F.keep
    have T3 := T.keeps F.keep
    clear h
    (repeat' ((fail_if_success (with_reducible show Fin2 _ _ _)); (fail_if_success (with_reducible show Halt _)); (first | (k_unfold; (try dsimp only)) | walk1 | (dsimp only; walk1))))
    (all_goals (try k_data))
    refine Halt.mk (wpAny_with_toks (n := 1) ht3 (c_reply (law_amb X T F3 hdp hun) ht3 (by omega) (by omega) (by omega) ?_))
    intro t5 h5 tk5 hk5 ht5
    rw [hnmi, reply_eq]
    have hrl : (S (replyL g[i] i)).length ≤ 1000 := by
      rw [S_len]
      have h1 := replyL_len g[i] i
      have h2 := hgn _ (List.getElem_mem hgi)
      omega
    have F35 : Fr base L h5 _ := fr_tn F3 (Tn.of_ext hk5)
    have F65 : Fr s.heap C h5 (fun y => if y = Str.ofString "k" then some (.int i t) else if y = Str.ofString "name" then some (.str nm' tt) else m₃ y) := ⟨F6.ns.keeps hk5, fun b o e => hk5 b o (F6.keep b o e), F6.above⟩
    (repeat' ((fail_if_success (with_reducible show Fin2 _ _ _)); (fail_if_success (with_reducible show Halt _)); (first | (k_unfold; (try dsimp only)) | walk1 | (dsimp only; walk1))))
    (all_goals (try k_data))
    refine Halt.mk (c_doubled (law_amb X T F35 hdp hun) ht5 (by omega) ?_)
    intro t6 h6 tk6 hk6
    rw [doubled_eq]
    exact ⟨h6, tk6, rfl, Tn.of_ext fun b o e => hk6 b o (hk5 b o e), .inl ⟨t6, by rw [hgd]⟩⟩
  case q =>
    intro D h' tk ys hD hpl hlen hv htn htk'
    have hke : Ext s.heap h' := htn.ext
    have F2 := fr_tn F (Tn.of_ext hke)
    have N2 := news_tn N (Tn.of_ext hke)
    have hys : StrsAre ys.toList (((repsL g).map (dbl 92)).map S) := by
      refine strs_of_places (by rw [hlen]; simp [repsL, hul]) fun j y hj => ?_
      rcases hv j y hj with ⟨t, rfl⟩ | ⟨_, _, _, _, _, _, hf⟩
      · have hjl : j < g.length := by
          have := (List.getElem?_eq_some_iff.mp hj).1
          rw [hlen] at this
          simpa [hul] using this
        refine ⟨_, t, rfl, ?_⟩
        simp [repsL, hjl]
      · exact hf.elim
    obtain ⟨nD, hDo⟩ := hpl
    have hDs : s.heap.objs.size ≤ D := Nat.le_trans (by show s.heap.objs.size ≤ h1.objs.size; rw [show h1.objs.size = s.heap.objs.size + 2 from hsz1]; exact Nat.le_add_right _ 2) hD
    have N3 : News base L h' ((D, W.listOf ys nD) :: ([(aL, W.listOf xs.toArray nx), (L + 1, oL)] ++ nw)) := fun p hp => by
      rcases List.mem_cons.mp hp with rfl | hp
      · refine ⟨hDo, Nat.ne_of_gt (Nat.lt_of_lt_of_le F.ns.lt hDs), ?_⟩
        cases q : base.get? D with
        | none => rfl
        | some o => exact absurd (Heap.lt_size (F.keep D o q)) (Nat.not_lt.mpr hDs)
      · exact N2 p hp
    have haLlt : aL < s.heap.objs.size := Heap.lt_size (N _ (.head _)).1
    clear F N
    (repeat' ((fail_if_success (with_reducible show Fin2 _ _ _)); (fail_if_success (with_reducible show Halt _)); (first | (k_unfold; (try dsimp only)) | walk1 | (dsimp only; walk1))))
    obtain ⟨lv, hlv, hlt⟩ := strs_pairs hys
    refine Halt.mk (SC.join (l := lv) (texts := ((repsL g).map (dbl 92)).map S) ⟨_, hDo, rfl, nD, ?_⟩ hlt ?_ ?_)
    · show Data.seq ys nD = _
      rw [← hlv]
    · refine joinOk_of_weight ?_ (by decide)
      have h1 := sum_len_le 200 (((repsL g).map (dbl 92)).map S) ?_
      · simp [repsL] at h1 ⊢; omega
      · intro x hx
        simp [repsL] at hx
        obtain ⟨r, k, hr, rfl⟩ := hx
        have hrm : r ∈ g := by
          have := List.mem_map_of_mem (f := Prod.fst) hr
          simpa using this
        have q1 := dbl_len 92 (replyL r k)
        have q2 := replyL_len r k
        have q3 := hgn r hrm
        rw [S_len]; omega
    intro t7 k7
    have hjn : Txt.join (Str.ofString ", ") (((repsL g).map (dbl 92)).map S) = S (listL g) := by
      rw [show Str.ofString ", " = S [44, 32] from by decide +kernel]
      exact (StrLaws.glued_eq_join _ _).trans (join_eq _ _)
    rw [hjn]
    (repeat' ((fail_if_success (with_reducible show Fin2 _ _ _)); (fail_if_success (with_reducible show Halt _)); (first | (k_unfold; (try dsimp only)) | walk1 | (dsimp only; walk1))))
    refine Halt.mk (append_led (pre := [(D, _)]) (d := aL) (post := (L + 1, oL) :: nw) F2 N3 ?a1 ?a2 ?a3 ?_)
    case a1 =>
      intro p hp
      rw [List.mem_singleton.mp hp]
      exact Nat.ne_of_gt (Nat.lt_of_lt_of_le haLlt hDs)
    case a2 =>
      intro p hp
      rcases List.mem_cons.mp hp with rfl | hp
      · exact hne
      · exact hoff p hp aL (.head _)
    case a3 => rw [sizeLine_eq]; simp; omega
    intro h8 n8 F8 N8
    rw [show xs.toArray.push (Value.str (S (listL g)) t7) = (xs ++ [Value.str (S (listL g)) t7]).toArray from by simp] at N8
    repeat (refine wpAny_execs_nil ?_)
    exact ⟨h t7 h8 n8 _ F8 fun p hp => N8 p (.tail _ hp)⟩

theorem s3 {rs : List Value} {gs : List (List (List Nat))} {nG : Nat} {nw : List (Addr × Obj)} {oL : Obj} (hE : PassesOwn (model PR w) (AR dp un gd [lawEnv L fa cd]) (lawEnv L fa cd) E) (X : (hd.heap_39 w.params).In base) (T : Top hd.view_39 (looseW hd.view_39 []) mean mg mb base) (hdp : dp < 400) (hun : un < 400)
    (F : Fr base L s.heap (fun y => if y = Str.ofString "groups" then some (.ref aG) else m y)) (N : News base L s.heap ((aL, W.listOf #[] 0) :: (L + 1, oL) :: nw)) (hap : ∀ p ∈ (L + 1, oL) :: nw, p.1 ≠ aL) (hoL : oL.data = .cell (some (.ref aL)))
    (hG : (aG, W.listOf rs.toArray nG) ∈ nw) (hP : PreAre nw rs gs) (hgs : gs.length ≤ 20) (hgl : ∀ g ∈ gs, g.length ≤ 20) (hgn : ∀ g ∈ gs, ∀ nm ∈ g, nm.length ≤ 20)
    (h : ∀ us n h' m' tk, Fr base L h' m' → m' (Str.ofString "groups") = some (.ref aG) → News base L h' ((aL, W.listOf us.toArray n) :: (L + 1, oL) :: nw) → StrsAre us ((gs.map listL).map S) → Q .next { s with heap := h', toks := tk }) :
    wpAny (model PR w) (AR dp un gd [lawEnv L fa cd]) (exec (st 3) (lawEnv L fa cd)) Q E s := by
  change wpAny _ _ (exec (Stmt.For (Expr.Name _ _) _ _ [] _) _) _ _ _
  refine For_invV base rfl rfl ?_ (fun _ => rfl) hE
  have GG := N _ (.tail _ (.tail _ hG))
  have hlG : s.heap.IsList aG rs.toArray := ⟨_, GG.1, rfl, _, rfl⟩
  have hGlt : aG < s.heap.objs.size := Heap.lt_size GG.1
  refine wpAny_Name (wpAny_loadName_local rfl rfl F.ns rfl ?_) (by decide)
  refine wpAny_pyIter_list hlG ?_
  have W1 := Walks.list (prog := PR) (w := w) (A := AR dp un gd [lawEnv L fa cd]) rfl s.heap.objs.size aG (Nat.ne_of_lt hGlt) rs.toArray
  have hrl : rs.length = gs.length := hP.length
  refine loop_led (σ := List Value × Nat) (fun c => [(aL, W.listOf c.1.toArray c.2)]) ((L + 1, oL) :: nw) (fun i c => StrsAre c.1 (((gs.take i).map listL).map S)) (fun m₁ => m₁ (Str.ofString "groups") = some (.ref aG)) ([], 0) W1 ⟨⟨_, Heap.get?_push_size _ rfl, rfl, rfl⟩, hlG.push _⟩ ?hLf (next_is_new F) (F.push _) (fun p hp => ⟨Heap.get?_push_of_some _ (N p hp).1, (N p hp).2⟩) ?hIn (fun _ => rfl) .nil rfl ?turn ?done
  case hLf =>
    intro hm
    rcases List.mem_cons.mp hm with e | hm
    · exact absurd F.ns.lt (e ▸ Nat.lt_irrefl _)
    · exact GG.2.1 (List.mem_singleton.mp hm).symm
  case hIn => exact fun p hp e => absurd (Heap.lt_size (N p hp).1) (e ▸ Nat.lt_irrefl _)
  case done =>
    rintro ⟨us, n⟩ m₁ h' tk hJ hM F' N'
    have e : gs.take rs.toArray.size = gs := by simp [hrl]
    rw [e] at hJ
    exact h us n h' m₁ tk F' hM N' hJ
  case turn =>
    rintro ⟨us, n⟩ i v m₁ h' tk own hi hv hJ hM hown F' N'
    obtain ⟨a, vs, nv, g, rfl, hg, hma, hS⟩ := hP.get i v (by simpa using hv)
    have hgm : g ∈ gs := List.mem_of_getElem? hg
    have hgi : i < gs.length := (List.getElem?_eq_some_iff.mp hg).1
    refine turn3 (m := m₁) (g := g) (a := a) (us := vs) (xs := us) (n := nv) (nx := n) (nw := nw ++ own) X T hdp hun F' N' ?_ (hap _ (.head _)) hoL (List.mem_append_left _ hma) hS (hgl g hgm) (hgn g hgm) ?_ ?_
    · intro p hp b hb
      rw [List.mem_singleton.mp hb]
      rcases List.mem_append.mp hp with q | q
      · exact hap p (.tail _ q)
      · have := hown p q
        rcases List.mem_cons.mp this with e | e
        · rw [e]; exact Nat.ne_of_gt (Heap.lt_size (N _ (.head _)).1)
        · rw [List.mem_singleton.mp e]; exact hap _ (.tail _ hG)
    · have := hJ.len_eq
      simp at this; omega
    · intro t h8 nx' tk' F8 N8
      refine .inl ⟨rfl, (us ++ [Value.str (S (listL g)) t], nx'), h8, tk', _, rfl, F8, ?_, ?_, ?_⟩
      · show (if Str.ofString "groups" = Str.ofString "names" then _ else m₁ (Str.ofString "groups")) = _
        rw [if_neg (by decide)]; exact hM
      · intro p hp
        refine N8 p ?_
        simp only [List.mem_append, List.mem_cons, List.not_mem_nil, or_false] at hp ⊢
        rcases hp with h | (h | h) | h
        · exact .inl (.inl h)
        · exact .inl (.inr h)
        · exact .inr (.inl h)
        · exact .inr (.inr h)
      · show StrsAre (us ++ [.str (S (listL g)) t]) (((gs.take (i + 1)).map listL).map S)
        rw [List.take_add_one, hg]
        simp only [Option.toList_some, List.map_append, List.map_cons, List.map_nil]
        exact KStt.strs_snoc hJ
end Mine
end

section
local macro_rules | `(tactic| walk_at "pad") => `(tactic| fail "pad")
local macro_rules | `(tactic| walk_at "pad") => `(tactic| fail "pad")
local macro_rules | `(tactic| walk_at "pad") => `(tactic| fail "pad")
local macro_rules | `(tactic| walk_at "pad") => `(tactic| fail "pad")
local macro_rules | `(tactic| walk_at "pad") => `(tactic| fail "pad")
local macro_rules | `(tactic| walk_at "pad") => `(tactic| fail "pad")
local macro_rules | `(tactic| walk_at "pad") => `(tactic| fail "pad")
local macro_rules | `(tactic| walk_at "pad") => `(tactic| fail "pad")
local macro_rules | `(tactic| walk_at "pad") => `(tactic| fail "pad")
local macro_rules | `(tactic| walk_at "pad") => `(tactic| fail "pad")
local macro_rules | `(tactic| walk_at "pad") => `(tactic| fail "pad")
local macro_rules | `(tactic| walk_at "pad") => `(tactic| fail "pad")
local macro_rules | `(tactic| walk_at "pad") => `(tactic| fail "pad")
local macro_rules | `(tactic| walk_at "pad") => `(tactic| fail "pad")
theorem Mine.freshLS5 : True ∧ True := by
  w_top off
  walk1
  all_goals exact True.intro
end

/-! LS5 -/
section
open PySem PySem.W PyProof.Rows PySem.Calls
set_option maxRecDepth 100000
set_option maxHeartbeats 400000
namespace Mine
open StrLaws (dbl)
theorem filledL5 : ∀ (p : Params), hd.heap_39 p = hd.heap_39 p ∧ PySem.Challenge.rw_mj0093_01 = PySem.Challenge.rw_mj0093_01 := by
  k_fill; exact fun _ => ⟨rfl, rfl⟩
variable {w : World} {dp un : Nat} {gd : Option (List Code)} {base : Heap} {mean : ExcName → Option Value} {mg mb : Str → Option Value} {s : Shared} {Q : Flow → Shared → Prop} {E : Value → Shared → Prop} {L fa l aG aI aL : Addr} {cd : Value} {m : Str → Option Value}
local macro_rules | `(tactic| walk_at "eval ListComp") => `(tactic| (refine halt ?_))
local macro_rules | `(tactic| walk_at "pyIter ref") => `(tactic| (refine halt ?_))
local macro_rules | `(tactic| walk_at "call ref") => `(tactic| (refine halt ?_))
local macro_rules | `(tactic| walk_at "call type:range") => `(tactic| (refine halt ?_))

theorem range_iter {prog : Program} {A : Around} {n : Nat} {t : Tok} {Q : Value → Shared → Prop} (hn : n ≤ 1000)
    (h : ∀ h2 tk, h2.objs.size = s.heap.objs.size + 2 → Ext s.heap h2 → IsRangeIter h2 (s.heap.objs.size + 1) (0 + ((0 : Nat) : Int) * 1) ((n : Int) - ((0 : Nat) : Int)) 1 → s.toks ≤ tk → Q (.ref (s.heap.objs.size + 1)) { s with heap := h2, toks := tk }) :
    wpAny (model prog w) A (call (.type "range") [.int n t]) (fun xv s₁ => wpAny (model prog w) A (pyIter xv) Q E s₁) E s := by
  refine call_range_1 ?_
  have hsz : Builtin.Range.rangeSize 0 (n : Int) 1 = n := by
    unfold Builtin.Range.rangeSize
    rw [if_pos (by decide)]
    by_cases h0 : (0 : Int) < n
    · rw [if_pos h0, Int.ediv_one]; omega
    · rw [if_neg h0]; omega
  have z : ∀ (hp : Heap) (o : Obj), (hp.push o).objs.size = hp.objs.size + 1 := fun hp o => Heap.size_push ..
  refine wpAny_pyIter_range (Heap.get?_push_size _ rfl) ?_ ?_
  · have hf : ∀ a : Int, 0 ≤ a → a ≤ 2000 → Builtin.Range.rangeFitsLong a = true := by
      intro a h0 h1
      unfold Builtin.Range.rangeFitsLong
      simp; omega
    unfold Builtin.Range.small
    rw [hsz, hf 0 (by omega) (by omega), hf n (by omega) (by omega), hf 1 (by omega) (by omega), if_pos (by decide), hf ((n : Int) + (1 - 1)) (by omega) (by omega)]
    simp
  · rw [hsz]
    simp only [z]
    refine h _ _ (by simp only [z]) (fun b o e => Heap.get?_push_of_some _ (Heap.get?_push_of_some _ e)) ?_ (by show s.toks ≤ s.toks + 1 + 1; omega)
    have := Heap.get?_push_size (s.heap.push { cls := .type "range", data := .fields #[.int 0 s.toks, .int n t, .int 1 (s.toks + 1)] }) (o := { cls := .type "range_iterator", data := .fields #[rawInt 0, rawInt n, rawInt 1] }) rfl
    rw [z] at this
    simpa using this

def keyS (k : Nat) : Str := Str.ofString "g" ++ Str.ofString (toString (k : Int))

theorem s4 {rs : List Value} {nG : Nat} {nw : List (Addr × Obj)} {oK : Obj} {v₀ : Option Value} (X : (hd.heap_39 w.params).In base) (T : Top hd.view_39 (looseW hd.view_39 []) mean mg mb base) (hdp : dp < 400) (hun : un < 400) (htk : 1 ≤ s.toks)
    (F : Fr base L s.heap (fun y => if y = Str.ofString "groups" then some (.ref aG) else m y)) (N : News base L s.heap ([(L + 2, oK), (aG, W.listOf rs.toArray nG)] ++ nw)) (hoff : OwnOff nw [L + 2]) (hne : aG ≠ L + 2) (hoK : oK.data = .cell v₀) (hrs : rs.length ≤ 20)
    (h : ∀ aK us oK' n h' tk, Fr base L h' (fun y => if y = Str.ofString "groups" then some (.ref aG) else m y) → News base L h' ([(aK, W.listOf us n), (L + 2, oK'), (aG, W.listOf rs.toArray nG)] ++ nw) → oK'.data = .cell (some (.ref aK)) → StrsAre us.toList ((List.range rs.length).map keyS) → Q .next { s with heap := h', toks := tk }) :
    wpAny (model PR w) (AR dp un gd [lawEnv L fa cd]) (exec (st 4) (lawEnv L fa cd)) Q E s := by
  change wpAny _ _ (exec (Stmt.Assign _ _ _) _) _ _ _
  (repeat' ((fail_if_success (with_reducible show Fin2 _ _ _)); (fail_if_success (with_reducible show Halt _)); (first | (k_unfold; (try dsimp only)) | walk1 | (dsimp only; walk1))))
  refine Halt.mk (comp_eval (closureFor_none (by decide)) (by decide) rfl (by decide) ?_ (fun _ => rfl))
  (repeat' ((fail_if_success (with_reducible show Fin2 _ _ _)); (fail_if_success (with_reducible show Halt _)); (first | (k_unfold; (try dsimp only)) | walk1 | (dsimp only; walk1))))
  have hlG : s.heap.IsList aG rs.toArray := ⟨_, (N _ (.tail _ (.head _))).1, rfl, _, rfl⟩
  refine call_len_list hlG (by simp; omega) ?_
  (repeat' ((fail_if_success (with_reducible show Fin2 _ _ _)); (fail_if_success (with_reducible show Halt _)); (first | (k_unfold; (try dsimp only)) | walk1 | (dsimp only; walk1))))
  have hsize : rs.toArray.size = rs.length := by simp
  rw [hsize]
  refine Halt.mk (range_iter (by omega) ?_)
  intro h2 tk2 hsz2 hk2 hit htk2
  have hz : h2.objs.size = s.heap.objs.size + 2 := hsz2
  have W1 := Walks.range (prog := PR) (w := w) (A := AR dp un gd [lawEnv L fa cd]) rfl (s.heap.objs.size + 1) 0 1 rs.length
  refine compAt_tn [] s.heap (fun i y => ∃ t, y = .str (keyS i) t) (fun _ _ => False) (Src.name W1 rfl rfl) ?sz hit ?fp ?tk hk2 ?wr ?fpo (fun _ hm => nomatch hm) ?elt ?q
  case sz => rw [sizeLine_eq]; omega
  case tk => exact Nat.le_trans (by show 1 ≤ s.toks + 1 + 1; omega) htk2
  case fp => intro b hb; rw [List.mem_singleton.mp hb]; show _ < h2.objs.size; rw [hz]; exact Nat.lt_succ_self _
  case wr => intro b hb; rw [List.mem_singleton.mp hb]; exact fresh_at (Nat.le_succ _)
  case fpo => intro i h' ho b hb; rw [List.mem_singleton.mp hb]; exact ⟨_, ho⟩
  case elt =>
    rintro C i s₃ m₃ E' hi hC htn hns ⟨v, ⟨t, rfl⟩, hk⟩ ht3
    have hke : Ext s.heap s₃.heap := htn.ext
    have e0 : (0 : Int) + (i : Int) * 1 = (i : Int) := by omega
    rw [e0] at hk
    have F3 : Fr base L s₃.heap _ := fr_tn F (Tn.of_ext hke)
    have F6 : Fr s.heap C s₃.heap (fun y => if y = Str.ofString "k" then some (.int i t) else m₃ y) := by
      rw [← map_eta hk]
      exact ⟨hns, hke, Nat.le_trans (by show s.heap.objs.size ≤ h2.objs.size; rw [hz]; exact Nat.le_add_right _ 2) hC⟩
    have X3 := X.keeps F.keep
    have T3 := T.keeps F.keep
    have hi20 : i < 20 := by omega
    clear h
    (repeat' ((fail_if_success (with_reducible show Fin2 _ _ _)); (fail_if_success (with_reducible show Halt _)); (first | (k_unfold; (try dsimp only)) | walk1 | (dsimp only; walk1))))
    (all_goals (try k_data))
    · exact Tn.of_ext fun _ _ e => e
    · exact .inl ⟨_, rfl⟩
  case q =>
    intro D h' tk ys hD hpl hlen hv htn htk'
    have hke : Ext s.heap h' := htn.ext
    have F2 := fr_tn F (Tn.of_ext hke)
    have N2 := news_tn N (Tn.of_ext hke)
    have hDs : s.heap.objs.size ≤ D := Nat.le_trans (by show s.heap.objs.size ≤ h2.objs.size; rw [hz]; exact Nat.le_add_right _ 2) hD
    have hys : StrsAre ys.toList ((List.range rs.length).map keyS) := by
      refine strs_of_places (by rw [hlen]; simp) fun j y hj => ?_
      have hjl : j < rs.length := by
        have := (List.getElem?_eq_some_iff.mp hj).1
        rw [hlen] at this; exact this
      rcases hv j y hj with ⟨t, rfl⟩ | ⟨_, _, _, _, _, _, hf⟩
      · exact ⟨_, t, rfl, by simp [hjl]⟩
      · exact hf.elim
    obtain ⟨nD, hDo⟩ := hpl
    have hc := N _ (.head _)
    have N3 : News base L h' ([(D, W.listOf ys nD)] ++ (L + 2, oK) :: ((aG, W.listOf rs.toArray nG) :: nw)) := fun p hp => by
      rcases List.mem_cons.mp hp with rfl | hp
      · refine ⟨hDo, Nat.ne_of_gt (Nat.lt_of_lt_of_le F.ns.lt hDs), ?_⟩
        cases q : base.get? D with
        | none => rfl
        | some o => exact absurd (Heap.lt_size (F.keep D o q)) (Nat.not_lt.mpr hDs)
      · exact N2 p hp
    refine store_cell (c := L + 2) F2 N3 ?_ ?_ hoK rfl rfl rfl ?_
    · intro p hp; rw [List.mem_singleton.mp hp]; exact Nat.ne_of_gt (Nat.lt_of_lt_of_le (Heap.lt_size hc.1) hDs)
    · intro p hp
      rcases List.mem_cons.mp hp with rfl | hp
      · exact hne
      · exact hoff p hp _ (.head _)
    · intro h9 o9 F9 N9 hd9
      exact h D ys o9 nD h9 tk F9 N9 hd9 hys
end Mine
end

section
local macro_rules | `(tactic| walk_at "pad") => `(tactic| fail "pad")
local macro_rules | `(tactic| walk_at "pad") => `(tactic| fail "pad")
local macro_rules | `(tactic| walk_at "pad") => `(tactic| fail "pad")
local macro_rules | `(tactic| walk_at "pad") => `(tactic| fail "pad")
local macro_rules | `(tactic| walk_at "pad") => `(tactic| fail "pad")
local macro_rules | `(tactic| walk_at "pad") => `(tactic| fail "pad")
local macro_rules | `(tactic| walk_at "pad") => `(tactic| fail "pad")
local macro_rules | `(tactic| walk_at "pad") => `(tactic| fail "pad")
local macro_rules | `(tactic| walk_at "pad") => `(tactic| fail "pad")
local macro_rules | `(tactic| walk_at "pad") => `(tactic| fail "pad")
local macro_rules | `(tactic| walk_at "pad") => `(tactic| fail "pad")
local macro_rules | `(tactic| walk_at "pad") => `(tactic| fail "pad")
local macro_rules | `(tactic| walk_at "pad") => `(tactic| fail "pad")
local macro_rules | `(tactic| walk_at "pad") => `(tactic| fail "pad")
theorem Mine.freshLS6 : True ∧ True := by
  w_top off
  walk1
  all_goals exact True.intro
end

/-! LS6 -/
section
open PySem PySem.W PyProof.Rows PySem.Calls
set_option maxRecDepth 100000
set_option maxHeartbeats 400000
namespace Mine
open StrLaws (dbl)
theorem filledL6 : ∀ (p : Params), hd.heap_39 p = hd.heap_39 p ∧ PySem.Challenge.rw_mj0093_01 = PySem.Challenge.rw_mj0093_01 := by
  k_fill; exact fun _ => ⟨rfl, rfl⟩
variable {w : World} {dp un : Nat} {gd : Option (List Code)} {base : Heap} {mean : ExcName → Option Value} {mg mb : Str → Option Value} {s : Shared} {Q : Flow → Shared → Prop} {E : Value → Shared → Prop} {L fa aK aS : Addr} {cd : Value} {m : Str → Option Value}
local macro_rules | `(tactic| walk_at "eval ListComp") => `(tactic| (refine halt ?_))
local macro_rules | `(tactic| walk_at "pyIter ref") => `(tactic| (refine halt ?_))
local macro_rules | `(tactic| walk_at "call ref") => `(tactic| (refine halt ?_))
local macro_rules | `(tactic| walk_at "call builtin:len") => `(tactic| (refine halt ?_))
local macro_rules | `(tactic| walk_at "call type:range") => `(tactic| (refine halt ?_))
local macro_rules | `(tactic| walk_at "call builtin:str.join") => `(tactic| (refine halt ?_))
local macro_rules | `(tactic| walk_at "subscriptTail Name Name ref int") => `(tactic| (refine halt ?_))

theorem leq1 : (Str.ofString "=").length = 1 := by decide
local macro_rules | `(tactic| walk_at "binaryOp Add str str") => `(tactic| ((with_reducible show wpAny _ _ (binaryOp Operator.Add (Value.str _ _) (Value.str _ _)) _ _ _); (refine add_strK ?h1 ?h2 ?_); (case h1 => (simp only [Str.length_append, leq1]; omega)); (case h2 => (dsimp only; omega)); intro _ _ _))
def keyL (k : Nat) : List Nat := (keyS k).cps.toList
theorem keyS_eq (k : Nat) : keyS k = S (keyL k) := rfl
def partL (l : List Nat) (k : Nat) : List Nat := keyL k ++ 61 :: dbl 92 (replyL l k)
def partsL (ls : List (List Nat)) : List (List Nat) := ls.zipIdx.map fun p => partL p.1 p.2
noncomputable def headerL (ls : List (List Nat)) : List Nat := joinL [44, 9] (partsL ls)

theorem strs_at : ∀ {ys : List Value} {ts : List Str}, StrsAre ys ts → ∀ (i : Nat) (x : Str), ts[i]? = some x → ∃ t, ys[i]? = some (Value.str x t)
  | _, _, .cons x t h, 0, y, e => by simp at e; subst e; exact ⟨t, rfl⟩
  | _, _, .cons x t h, i + 1, y, e => by obtain ⟨t', q⟩ := strs_at h i y (by simpa using e); exact ⟨t', by simpa using q⟩
theorem key_len : ∀ i, i < 20 → (keyS i).length ≤ 4 := by decide +kernel
theorem s5 {ks us : Array Value} {ls : List (List Nat)} {nK nS : Nat} {nw : List (Addr × Obj)} {oK oL : Obj} (X : (hd.heap_39 w.params).In base) (T : Top hd.view_39 (looseW hd.view_39 []) mean mg mb base) (hdp : dp < 400) (hun : un < 400)
    (F : Fr base L s.heap m) (N : News base L s.heap ([(aK, W.listOf ks nK), (L + 2, oK), (aS, W.listOf us nS), (L + 1, oL)] ++ nw)) (hoK : oK.data = .cell (some (.ref aK))) (hoL : oL.data = .cell (some (.ref aS)))
    (hks : StrsAre ks.toList ((List.range ls.length).map keyS)) (hus : StrsAre us.toList (ls.map S)) (hls : ls.length ≤ 20) (hll : ∀ l ∈ ls, l.length ≤ 3000)
    (h : ∀ t h' tk, Fr base L h' (fun y => if y = Str.ofString "header" then some (.str (S (headerL ls)) t) else m y) → News base L h' ([(aK, W.listOf ks nK), (L + 2, oK), (aS, W.listOf us nS), (L + 1, oL)] ++ nw) → Q .next { s with heap := h', toks := tk }) :
    wpAny (model PR w) (AR dp un gd [lawEnv L fa cd]) (exec (st 5) (lawEnv L fa cd)) Q E s := by
  change wpAny _ _ (exec (Stmt.Assign _ _ _) _) _ _ _
  (repeat' ((fail_if_success (with_reducible show Fin2 _ _ _)); (fail_if_success (with_reducible show Halt _)); (first | (k_unfold; (try dsimp only)) | walk1 | (dsimp only; walk1))))
  refine Halt.mk (comp_eval (show closureFor _ _ = pure _ from rfl) (by decide) rfl (by decide) ?_ (fun _ => rfl))
  (repeat' ((fail_if_success (with_reducible show Fin2 _ _ _)); (fail_if_success (with_reducible show Halt _)); (first | (k_unfold; (try dsimp only)) | walk1 | (dsimp only; walk1))))
  have hlK : s.heap.IsList aK ks := ⟨_, (N _ (.head _)).1, rfl, _, rfl⟩
  have hkl : ks.size = ls.length := by have := hks.len_eq; simpa using this
  have hul : us.size = ls.length := by have := hus.len_eq; simpa using this
  refine Halt.mk (call_len_list hlK (by omega) ?_)
  (repeat' ((fail_if_success (with_reducible show Fin2 _ _ _)); (fail_if_success (with_reducible show Halt _)); (first | (k_unfold; (try dsimp only)) | walk1 | (dsimp only; walk1))))
  rw [hkl]
  refine Halt.mk (range_iter (by omega) ?_)
  intro h2 tk2 hsz2 hk2 hit htk2
  have hz : h2.objs.size = s.heap.objs.size + 2 := hsz2
  have W1 := Walks.range (prog := PR) (w := w) (A := AR dp un gd [lawEnv L fa cd]) rfl (s.heap.objs.size + 1) 0 1 ls.length
  refine compAt_tn [] s.heap (fun i y => ∃ t, y = .str (S (partL (ls.getD i []) i)) t) (fun _ _ => False) (Src.name W1 rfl rfl) ?sz hit ?fp ?tk hk2 ?wr ?fpo (fun _ hm => nomatch hm) ?elt ?q
  case sz => rw [sizeLine_eq]; omega
  case tk => exact Nat.le_trans (by show 1 ≤ s.toks + 1 + 1 + 1; omega) htk2
  case fp => intro b hb; rw [List.mem_singleton.mp hb]; show _ < h2.objs.size; rw [hz]; exact Nat.lt_succ_self _
  case wr => intro b hb; rw [List.mem_singleton.mp hb]; exact fresh_at (Nat.le_succ _)
  case fpo => intro i h' ho b hb; rw [List.mem_singleton.mp hb]; exact ⟨_, ho⟩
  case elt =>
    rintro C i s₃ m₃ E' hi hC htn hns ⟨v, ⟨t, rfl⟩, hk⟩ ht3
    have hke : Ext s.heap s₃.heap := htn.ext
    have e0 : (0 : Int) + (i : Int) * 1 = (i : Int) := by omega
    rw [e0] at hk
    have F3 : Fr base L s₃.heap _ := fr_tn F (Tn.of_ext hke)
    have N3 := news_tn N (Tn.of_ext hke)
    have F6 : Fr s.heap C s₃.heap (fun y => if y = Str.ofString "k" then some (.int i t) else m₃ y) := by
      rw [← map_eta hk]
      exact ⟨hns, hke, Nat.le_trans (by show s.heap.objs.size ≤ h2.objs.size; rw [hz]; exact Nat.le_add_right _ 2) hC⟩
    have X3 := X.keeps F.keep
    have T3 := T.keeps F.keep
    have hi20 : i < 20 := by omega
    clear h
    (repeat' ((fail_if_success (with_reducible show Fin2 _ _ _)); (fail_if_success (with_reducible show Halt _)); (first | (k_unfold; (try dsimp only)) | walk1 | (dsimp only; walk1))))
    (all_goals (try k_data))
    obtain ⟨tK, hK⟩ := strs_at hks i (keyS i) (by simp [hi])
    obtain ⟨tS, hS⟩ := strs_at hus i (S ls[i]) (by simp [hi])
    have hkS := key_len i hi20
    have hgd : ls.getD i [] = ls[i] := by simp [hi]
    have hsl : (S ls[i]).length ≤ 3000 := by rw [S_len]; exact hll _ (List.getElem_mem hi)
    refine Halt.mk (item_lit N3 (List.Mem.head _) (by omega) (by omega) (v := .str (keyS i) tK) (by simpa using hK) ?_)
    generalize hkk : keyS i = kk at *
    (repeat' ((fail_if_success (with_reducible show Fin2 _ _ _)); (fail_if_success (with_reducible show Halt _)); (first | (k_unfold; (try dsimp only)) | walk1 | (dsimp only; walk1))))
    (all_goals (try k_data))
    refine Halt.mk (item_lit N3 (List.Mem.tail _ (List.Mem.tail _ (List.Mem.head _))) (by omega) (by omega) (v := .str (S ls[i]) tS) (by simpa using hS) ?_)
    (repeat' ((fail_if_success (with_reducible show Fin2 _ _ _)); (fail_if_success (with_reducible show Halt _)); (first | (k_unfold; (try dsimp only)) | walk1 | (dsimp only; walk1))))
    (all_goals (try k_data))
    refine Halt.mk (wpAny_with_toks (n := 1) (by assumption) (c_reply (law_amb X T F3 hdp hun) (by assumption) (by omega) (by omega) (by omega) ?_))
    intro t5 h5 tk5 hk5 ht5
    rw [reply_eq]
    have hrl : (S (replyL ls[i] i)).length ≤ 7000 := by
      rw [S_len]
      have h1 := replyL_len ls[i] i
      have h2 := hll _ (List.getElem_mem hi)
      omega
    have F35 : Fr base L h5 _ := fr_tn F3 (Tn.of_ext hk5)
    have F65 : Fr s.heap C h5 (fun y => if y = Str.ofString "k" then some (.int i t) else m₃ y) := ⟨F6.ns.keeps hk5, fun b o e => hk5 b o (F6.keep b o e), F6.above⟩
    (repeat' ((fail_if_success (with_reducible show Fin2 _ _ _)); (fail_if_success (with_reducible show Halt _)); (first | (k_unfold; (try dsimp only)) | walk1 | (dsimp only; walk1))))
    (all_goals (try k_data))
    refine Halt.mk (c_doubled (law_amb X T F35 hdp hun) ht5 (by omega) ?_)
    intro t6 h6 tk6 hk6
    rw [doubled_eq]
    have hdl : (S (dbl 92 (replyL ls[i] i))).length ≤ 14000 := by
      have := dbl_len 92 (replyL ls[i] i)
      rw [S_len] at hrl ⊢; omega
    refine PyProof.Rows.add_str (fun t7 k7 => ?_) (by rw [sizeLine_eq, Str.length_append, leq1]; omega)
    refine ⟨h6, k7, rfl, Tn.of_ext fun b o e => hk6 b o (hk5 b o e), .inl ⟨t7, ?_⟩⟩
    rw [hgd, partL, ← hkk, eq_lit, keyS_eq, S_cat, S_cat, List.append_assoc]
    rfl
  case q =>
    intro D h' tk ys hD hpl hlen hv htn htk'
    have hke : Ext s.heap h' := htn.ext
    have F2 := fr_tn F (Tn.of_ext hke)
    have N2 := news_tn N (Tn.of_ext hke)
    have hys : StrsAre ys.toList ((partsL ls).map S) := by
      refine strs_of_places (by rw [hlen]; simp [partsL]) fun j y hj => ?_
      have hjl : j < ls.length := by
        have := (List.getElem?_eq_some_iff.mp hj).1
        rw [hlen] at this; exact this
      rcases hv j y hj with ⟨t, rfl⟩ | ⟨_, _, _, _, _, _, hf⟩
      · exact ⟨_, t, rfl, by simp [partsL, hjl]⟩
      · exact hf.elim
    obtain ⟨nD, hDo⟩ := hpl
    clear F N
    (repeat' ((fail_if_success (with_reducible show Fin2 _ _ _)); (fail_if_success (with_reducible show Halt _)); (first | (k_unfold; (try dsimp only)) | walk1 | (dsimp only; walk1))))
    obtain ⟨lv, hlv, hlt⟩ := strs_pairs hys
    refine Halt.mk (SC.join (l := lv) (texts := (partsL ls).map S) ⟨_, hDo, rfl, nD, ?_⟩ hlt ?_ ?_)
    · show Data.seq ys nD = _
      rw [← hlv]
    · refine joinOk_of_weight ?_ (by decide)
      have h1 := sum_len_le 15000 ((partsL ls).map S) ?_
      · simp [partsL] at h1 ⊢; omega
      · intro x hx
        simp [partsL] at hx
        obtain ⟨r, k, hr, rfl⟩ := hx
        have hrm : r ∈ ls := by
          have := List.mem_map_of_mem (f := Prod.fst) hr
          simpa using this
        have hkl : k < ls.length := by
          have := List.mem_zipIdx hr
          omega
        have q1 := dbl_len 92 (replyL r k)
        have q2 := replyL_len r k
        have q3 := hll r hrm
        have q4 : (keyL k).length ≤ 4 := by have := key_len k (by omega); rw [keyS_eq, S_len] at this; exact this
        rw [S_len, partL]
        simp only [List.length_append, List.length_cons]
        omega
    intro t7 k7
    have hjn : Txt.join (Str.ofString ",\t") ((partsL ls).map S) = S (headerL ls) := by
      rw [show Str.ofString ",\t" = S [44, 9] from by decide +kernel]
      exact (StrLaws.glued_eq_join _ _).trans (join_eq _ _)
    rw [hjn]
    (repeat' ((fail_if_success (with_reducible show Fin2 _ _ _)); (fail_if_success (with_reducible show Halt _)); (first | (k_unfold; (try dsimp only)) | walk1 | (dsimp only; walk1))))
    exact h _ _ _ (by assumption) (by assumption)
end Mine
end

section
local macro_rules | `(tactic| walk_at "pad") => `(tactic| fail "pad")
local macro_rules | `(tactic| walk_at "pad") => `(tactic| fail "pad")
local macro_rules | `(tactic| walk_at "pad") => `(tactic| fail "pad")
local macro_rules | `(tactic| walk_at "pad") => `(tactic| fail "pad")
local macro_rules | `(tactic| walk_at "pad") => `(tactic| fail "pad")
local macro_rules | `(tactic| walk_at "pad") => `(tactic| fail "pad")
local macro_rules | `(tactic| walk_at "pad") => `(tactic| fail "pad")
local macro_rules | `(tactic| walk_at "pad") => `(tactic| fail "pad")
local macro_rules | `(tactic| walk_at "pad") => `(tactic| fail "pad")
local macro_rules | `(tactic| walk_at "pad") => `(tactic| fail "pad")
local macro_rules | `(tactic| walk_at "pad") => `(tactic| fail "pad")
local macro_rules | `(tactic| walk_at "pad") => `(tactic| fail "pad")
local macro_rules | `(tactic| walk_at "pad") => `(tactic| fail "pad")
local macro_rules | `(tactic| walk_at "pad") => `(tactic| fail "pad")
theorem Mine.freshLS7 : True ∧ True := by
  w_top off
  walk1
  all_goals exact True.intro
end

/-! LS7 -/
section
open PySem PySem.W PyProof.Rows PySem.Calls
set_option maxRecDepth 100000
set_option maxHeartbeats 400000
namespace Mine
theorem filledL7 : ∀ (p : Params), hd.heap_39 p = hd.heap_39 p ∧ PySem.Challenge.rw_mj0093_01 = PySem.Challenge.rw_mj0093_01 := by
  k_fill; exact fun _ => ⟨rfl, rfl⟩
variable {w : World} {dp un : Nat} {gd : Option (List Code)} {base : Heap} {mean : ExcName → Option Value} {mg mb : Str → Option Value} {s : Shared} {Q : Flow → Shared → Prop} {E : Value → Shared → Prop} {L fa aK aS : Addr} {cd : Value} {m : Str → Option Value}
local macro_rules | `(tactic| walk_at "call ref") => `(tactic| (refine halt ?_))

theorem s6 {x : Str} {tx : Tok} {nw : List (Addr × Obj)} {tgt : List (List Nat × List Nat)} (X : (hd.heap_39 w.params).In base) (T : Top hd.view_39 (looseW hd.view_39 []) mean mg mb base) (hdp : dp < 400) (hun : un < 400)
    (F : Fr base L s.heap m) (N : News base L s.heap nw) (hm : m (Str.ofString "header") = some (.str x tx)) (hx : x.length ≤ 1000000)
    (hpl : ∀ ws : List Str, ws.map (·.cps.toList) = hparts x.cps.toList → Elts tgt (ws.map Txt.strip))
    (h : ∀ D oD kvs h' tk, (D == sysModules) = false → oD.IsDictOf (strKind PR w) kvs → kvs.map (·.1) = tgt.map (fun p => S p.1) → StrsAre (kvs.map (·.2)) (tgt.map fun p => S p.2) → Fr base L h' (fun y => if y = Str.ofString "told" then some (.ref D) else m y) → News base L h' ((D, oD) :: nw) → (∀ p ∈ nw, p.1 ≠ D) → Q .next { s with heap := h', toks := tk }) :
    wpAny (model PR w) (AR dp un gd [lawEnv L fa cd]) (exec (st 6) (lawEnv L fa cd)) Q E s := by
  change wpAny _ _ (exec (Stmt.Assign _ _ _) _) _ _ _
  have hme := map_eta hm
  rw [hme] at F
  (repeat' ((fail_if_success (with_reducible show Fin2 _ _ _)); (fail_if_success (with_reducible show Halt _)); (first | (k_unfold; (try dsimp only)) | walk1 | (dsimp only; walk1))))
  refine Halt.mk (c_http (law_amb X T F hdp hun) hx ?_)
  intro D ys rs h1 tk1 hD hlst hS ws hws hrs hk
  subst hrs
  have F1 := fr_tn F (Tn.of_ext hk)
  have N1 := news_tn N (Tn.of_ext hk)
  have hL0 := F.ns.lt
  have hLh := kts_self F
  have hbk := F.keep
  have hEl := hpl ws hws
  clear hpl
  have hsub : ∀ p ∈ nw, s.heap.get? p.1 = some p.2 := fun p hp => (N p hp).1
  obtain ⟨oL, _, _, hoL, _⟩ := id F.ns
  clear F N
  (repeat' ((fail_if_success (with_reducible show Fin2 _ _ _)); (fail_if_success (with_reducible show Halt _)); (first | (k_unfold; (try dsimp only)) | walk1 | (dsimp only; walk1))))
  have hlst' : h1.IsList D ys.toList.toArray := by obtain ⟨n, e⟩ := hlst; exact ⟨_, e, rfl, n, by simp⟩
  refine Halt.mk (c_keqv (law_amb X T F1 hdp hun) hlst' hS hEl ?_)
  intro D2 kvs h2 tk2 hD2 hsys hdict hk1 hk2 hke
  have F2 := fr_tn F1 (Tn.of_ext hke)
  have N2 := news_tn N1 (Tn.of_ext hke)
  obtain ⟨oD, hoD, hod⟩ := Heap.dictOf_iff.mp hdict
  have hnone : ∀ b o, s.heap.get? b = some o → b ≠ D2 := fun b o e q => by
    have := hk b o e; rw [q, hD2] at this; cases this
  have N3 : News base L h2 ((D2, oD) :: nw) := fun p hp => by
    rcases List.mem_cons.mp hp with rfl | hp
    · refine ⟨hoD, (hnone L _ hoL).symm, ?_⟩
      cases q : base.get? D2 with
      | none => rfl
      | some o => exact absurd rfl (hnone D2 o (hbk D2 o q))
    · exact N2 p hp
  have hne : ∀ p ∈ nw, p.1 ≠ D2 := fun p hp => hnone p.1 _ (hsub p hp)
  clear F1 N1 N2
  (repeat' ((fail_if_success (with_reducible show Fin2 _ _ _)); (fail_if_success (with_reducible show Halt _)); (first | (k_unfold; (try dsimp only)) | walk1 | (dsimp only; walk1))))
  refine h D2 oD kvs _ _ hsys hod hk1 hk2 ?_ (by assumption) hne
  rw [hme]
  assumption
end Mine
end

/-! RD -/
section
open PySem PySem.W PyProof.Rows PySem.Calls PySem.SeqAt
set_option maxRecDepth 100000
set_option maxHeartbeats 400000
namespace Mine
open StrLaws (dbl)
/-- all signs are signs -/
def OkL (l : List Nat) : Prop := ∀ c ∈ l, c < 1114112
theorem OkL.app {a b : List Nat} (ha : OkL a) (hb : OkL b) : OkL (a ++ b) := fun c hc => (List.mem_append.mp hc).elim (ha c) (hb c)
theorem OkL.cons {a : Nat} {b : List Nat} (ha : a < 1114112) (hb : OkL b) : OkL (a :: b) := fun c hc => by
  rcases List.mem_cons.mp hc with rfl | hc
  · exact ha
  · exact hb c hc
theorem OkL.dbl {d : Nat} : ∀ {l : List Nat}, OkL l → OkL (StrLaws.dbl d l)
  | [], _ => fun c hc => nomatch hc
  | k :: r, h => by
    have ih := OkL.dbl (d := d) (l := r) fun c hc => h c (.tail _ hc)
    have hk := h k (.head _)
    unfold StrLaws.dbl
    split
    · rename_i e
      exact OkL.cons (by omega) (OkL.cons (by omega) ih)
    · exact OkL.cons hk ih
theorem ok_dec {l : List Nat} (h : l.all (· < 1114112) = true) : OkL l := fun c hc => by simpa using List.all_eq_true.mp h c hc
theorem ok_suf (k : Nat) : OkL (sufL k) := by
  unfold sufL
  repeat' split
  all_goals exact ok_dec (by decide)
theorem ok_code (l : List Nat) : OkL (codeL l) := by
  unfold codeL
  split <;> exact ok_dec (by decide)
theorem ok_reply {l : List Nat} (h : OkL l) (k : Nat) : OkL (replyL l k) := by
  unfold replyL
  exact (((ok_code l).app (ok_dec (by decide))).app h.dbl).app (ok_dec (by decide)) |>.app (ok_suf k)
theorem ok_join {sep : List Nat} (hs : OkL sep) : ∀ {ls : List (List Nat)}, (∀ l ∈ ls, OkL l) → OkL (joinL sep ls)
  | [], _ => fun c hc => nomatch hc
  | [x], h => h x (.head _)
  | x :: y :: r, h => by
    show OkL (x ++ sep ++ joinL sep (y :: r))
    exact ((h x (.head _)).app hs).app (ok_join hs fun l hl => h l (.tail _ hl))
theorem mem_reps {g : List (List Nat)} {r : List Nat} (h : r ∈ repsL g) : ∃ l k, l ∈ g ∧ k < g.length ∧ r = replyL l k := by
  obtain ⟨⟨l, k⟩, hp, rfl⟩ := List.mem_map.mp h
  have h1 := List.mem_zipIdx hp
  have h2 := List.mem_map_of_mem (f := Prod.fst) hp
  exact ⟨l, k, by simpa using h2, by omega, rfl⟩
theorem ok_reps {g : List (List Nat)} (h : ∀ l ∈ g, OkL l) : ∀ r ∈ repsL g, OkL r := fun r hr => by
  obtain ⟨l, k, hl, _, rfl⟩ := mem_reps hr
  exact ok_reply (h l hl) k
theorem ok_list {g : List (List Nat)} (h : ∀ l ∈ g, OkL l) : OkL (listL g) := by
  refine ok_join (ok_dec (by decide)) fun l hl => ?_
  obtain ⟨r, hr, rfl⟩ := List.mem_map.mp hl
  exact (ok_reps h r hr).dbl
theorem strOk_S {l : List Nat} (h : OkL l) : PyData.strOk (S l) = true := by
  unfold PyData.strOk
  rw [Array.all_eq_true']
  intro c hc
  have : c ∈ l := by simpa [S] using hc
  exact decide_eq_true (h c this)

theorem reads_strs {h : Heap} : ∀ {ys : List Value} {ts : List Str}, StrsAre ys ts → ReadsAll h ys (ts.map PyData.str) []
  | _, _, .nil => .nil
  | _, _, .cons x t r => ReadsAll.cons (as := []) (bs := []) (Reads.str x t) (reads_strs r)
theorem reads_places {h : Heap} : ∀ {ys : List Value} {ds : List PyData}, ys.length = ds.length → (∀ (j : Nat) (y : Value) (d : PyData), ys[j]? = some y → ds[j]? = some d → ∃ as, Reads h y d as) → ∃ as, ReadsAll h ys ds as
  | [], [], _, _ => ⟨_, .nil⟩
  | y :: ys, d :: ds, hl, hp => by
    obtain ⟨as, ha⟩ := hp 0 y d rfl rfl
    obtain ⟨bs, hb⟩ := reads_places (ys := ys) (ds := ds) (by simpa using hl) fun j y d h1 h2 => hp (j + 1) y d (by simpa using h1) (by simpa using h2)
    exact ⟨_, .cons ha hb⟩
section
variable {prog : Program} {w : World} {A : Around} {s : Shared} {Q E : Value → Shared → Prop}
theorem ne_same {a b : Value} {d : PyData} {as bs : List Addr} (ra : Reads s.heap a d as) (rb : Reads s.heap b d bs) (hd : shaped d = true) (hu : A.units < 400) (h : Q (.bool false) s) : wpAny (model prog w) A (compareOp .NotEq a b) Q E s :=
  ne_dataH ra rb hd hd (by have := cLine_is; omega) (by rw [eqv_refl d (canLay_of_shaped hd)]; exact h)
end
theorem canLay_all {ds : List PyData} (h : ∀ d ∈ ds, d.canLay0 = true) : PyData.canLayAll0 ds = true := by
  induction ds with
  | nil => rfl
  | cons d r ih => 
    simp only [PyData.canLayAll0, Bool.and_eq_true]
    exact ⟨h d (.head _), ih fun x hx => h x (.tail _ hx)⟩
theorem depth_all {ds : List PyData} {n : Nat} (h : ∀ d ∈ ds, d.depth ≤ n) : PyData.depthAll ds ≤ n := by
  induction ds with
  | nil => exact Nat.zero_le _
  | cons d r ih => 
    simp only [PyData.depthAll]
    exact Nat.max_le.mpr ⟨h d (.head _), ih fun x hx => h x (.tail _ hx)⟩
theorem shaped_list {ds : List PyData} (h : ∀ d ∈ ds, d.canLay0 = true) (h' : ∀ d ∈ ds, d.depth ≤ 3) : shaped (.list ds) = true := by
  unfold shaped
  rw [Bool.and_eq_true]
  refine ⟨by simpa only [PyData.canLay0] using canLay_all h, decide_eq_true ?_⟩
  have := depth_all h'
  simp only [PyData.depth]; omega
theorem shaped_strs {ls : List (List Nat)} (h : ∀ l ∈ ls, OkL l) : shaped (.list ((ls.map S).map PyData.str)) = true := by
  refine shaped_list ?_ ?_
  all_goals
    intro d hd
    obtain ⟨x, hx, rfl⟩ := List.mem_map.mp hd
    obtain ⟨l, hl, rfl⟩ := List.mem_map.mp hx
  · simpa only [PyData.canLay0] using strOk_S (h l hl)
  · simp only [PyData.depth]; omega
theorem canLay_str {l : List Nat} (h : OkL l) : (PyData.str (S l)).canLay0 = true := by simpa only [PyData.canLay0] using strOk_S h
theorem canLay_pair {a b : List Nat} (ha : OkL a) (hb : OkL b) : (PyData.tuple [.str (S a), .str (S b)]).canLay0 = true := by
  simp only [PyData.canLay0, PyData.canLayAll0, Bool.and_eq_true]
  exact ⟨strOk_S ha, strOk_S hb, trivial⟩
theorem depth_pair {a b : List Nat} : (PyData.tuple [.str (S a), .str (S b)]).depth ≤ 3 := by
  simp only [PyData.depth, PyData.depthAll]; decide
theorem reads_pair {h : Heap} {T : Addr} {x y : Str} {t1 t2 : Tok} {n : Nat} {o : Obj} (ho : h.get? T = some o) (hc : o.cls = .type "tuple") (hd : o.data = .seq #[.str x t1, .str y t2] n) : ∃ as, Reads h (.ref T) (.tuple [.str x, .str y]) as :=
  ⟨_, .tuple ho hc hd (.cons (.str x t1) (.cons (.str y t2) .nil))⟩
end Mine
end

section
local macro_rules | `(tactic| walk_at "pad") => `(tactic| fail "pad")
local macro_rules | `(tactic| walk_at "pad") => `(tactic| fail "pad")
local macro_rules | `(tactic| walk_at "pad") => `(tactic| fail "pad")
local macro_rules | `(tactic| walk_at "pad") => `(tactic| fail "pad")
local macro_rules | `(tactic| walk_at "pad") => `(tactic| fail "pad")
local macro_rules | `(tactic| walk_at "pad") => `(tactic| fail "pad")
local macro_rules | `(tactic| walk_at "pad") => `(tactic| fail "pad")
local macro_rules | `(tactic| walk_at "pad") => `(tactic| fail "pad")
local macro_rules | `(tactic| walk_at "pad") => `(tactic| fail "pad")
local macro_rules | `(tactic| walk_at "pad") => `(tactic| fail "pad")
local macro_rules | `(tactic| walk_at "pad") => `(tactic| fail "pad")
local macro_rules | `(tactic| walk_at "pad") => `(tactic| fail "pad")
local macro_rules | `(tactic| walk_at "pad") => `(tactic| fail "pad")
local macro_rules | `(tactic| walk_at "pad") => `(tactic| fail "pad")
theorem Mine.freshLS8 : True ∧ True := by
  w_top off
  walk1
  all_goals exact True.intro
end

/-! LS8 -/
section
open PySem PySem.W PyProof.Rows PySem.Calls PySem.SeqAt
set_option maxRecDepth 100000
set_option maxHeartbeats 400000
namespace Mine
open StrLaws (dbl)
theorem filledL8 : ∀ (p : Params), hd.heap_39 p = hd.heap_39 p ∧ PySem.Challenge.rw_mj0093_01 = PySem.Challenge.rw_mj0093_01 := by
  k_fill; exact fun _ => ⟨rfl, rfl⟩
variable {w : World} {dp un : Nat} {gd : Option (List Code)} {base : Heap} {mean : ExcName → Option Value} {mg mb : Str → Option Value} {s : Shared} {Q : Flow → Shared → Prop} {E : Value → Shared → Prop} {L fa aK aS : Addr} {cd : Value} {m : Str → Option Value}
local macro_rules | `(tactic| walk_at "eval ListComp") => `(tactic| (refine halt ?_))
local macro_rules | `(tactic| walk_at "pyIter ref") => `(tactic| (refine halt ?_))
local macro_rules | `(tactic| walk_at "call ref") => `(tactic| (refine halt ?_))
local macro_rules | `(tactic| walk_at "call builtin:len") => `(tactic| (refine halt ?_))
local macro_rules | `(tactic| walk_at "call type:range") => `(tactic| (refine halt ?_))
local macro_rules | `(tactic| walk_at "call type:list") => `(tactic| (refine halt ?_))
local macro_rules | `(tactic| walk_at "newTuple") => `(tactic| (refine halt ?_))
local macro_rules | `(tactic| walk_at "compareOp NotEq ref ref") => `(tactic| (refine halt ?_))
local macro_rules | `(tactic| walk_at "subscriptTail Name Name ref int") => `(tactic| (refine halt ?_))

def tgtL (ls : List (List Nat)) : List (List Nat × List Nat) := ls.zipIdx.map fun p => (keyL p.2, replyL p.1 p.2)
def pairD (p : List Nat × List Nat) : PyData := .tuple [.str (S p.1), .str (S p.2)]

theorem ok_key (i : Nat) (h : i < 20) : OkL (keyL i) := ok_dec ((by decide +kernel : ∀ i, i < 20 → (keyL i).all (· < 1114112) = true) i h)
theorem s7 {ks us : Array Value} {ls : List (List Nat)} {nK nS : Nat} {nw : List (Addr × Obj)} {oK oL oD : Obj} {D : Addr} {kvs : List (Str × Value)} (X : (hd.heap_39 w.params).In base) (T : Top hd.view_39 (looseW hd.view_39 []) mean mg mb base) (hdp : dp < 400) (hun : un < 400)
    (F : Fr base L s.heap m) (N : News base L s.heap ([(D, oD), (aK, W.listOf ks nK), (L + 2, oK), (aS, W.listOf us nS), (L + 1, oL)] ++ nw)) (hoK : oK.data = .cell (some (.ref aK))) (hoL : oL.data = .cell (some (.ref aS)))
    (hks : StrsAre ks.toList ((List.range ls.length).map keyS)) (hus : StrsAre us.toList (ls.map S)) (hls : ls.length ≤ 20) (hll : ∀ l ∈ ls, l.length ≤ 3000) (hok : ∀ l ∈ ls, OkL l)
    (hm : m (Str.ofString "told") = some (.ref D)) (hsys : (D == sysModules) = false) (hod : oD.IsDictOf (strKind PR w) kvs) (hk1 : kvs.map (·.1) = (tgtL ls).map (fun p => S p.1)) (hk2 : StrsAre (kvs.map (·.2)) ((tgtL ls).map fun p => S p.2))
    (h : ∀ h' tk, Fr base L h' m → News base L h' ([(D, oD), (aK, W.listOf ks nK), (L + 2, oK), (aS, W.listOf us nS), (L + 1, oL)] ++ nw) → Q .next { s with heap := h', toks := tk }) :
    wpAny (model PR w) (AR dp un gd [lawEnv L fa cd]) (exec (st 7) (lawEnv L fa cd)) Q E s := by
  change wpAny _ _ (exec (Stmt.If _ _ [] _) _) _ _ _
  have hme := map_eta hm
  rw [hme] at F
  (repeat' ((fail_if_success (with_reducible show Fin2 _ _ _)); (fail_if_success (with_reducible show Halt _)); (first | (k_unfold; (try dsimp only)) | walk1 | (dsimp only; walk1))))
  rename Fr _ _ _ _ => F0
  rename News _ _ _ _ => N0
  rename_i Dv h0 _
  have hDv := (N0 _ (.head _)).1
  have hDD := (N0 _ (.tail _ (.head _))).1
  obtain ⟨ep, hat⟩ := KdkAt.of hod
  have htl : (tgtL ls).length = ls.length := by simp [tgtL]
  have hkl : kvs.length = ls.length := by have := congrArg List.length hk1; simpa [htl] using this
  refine Halt.mk (kdx_call (knd := strKind PR w) (kvs := kvs) (ep := ep) rfl ⟨_, hDv, rfl, rfl⟩ (hat.dictAt hDD) (by rw [hkl, sizeLine_eq]; omega) ?_)
  intro h1 tk1 acc c as hx1 hS hasl hG hacc
  dsimp only at hx1 hS hG ⊢
  generalize h0.objs.size = B at hS hG ⊢
  have F1 := fr_tn F0 (Tn.of_ext hx1)
  have N1 : News base L h1 ([(D, oD), (aK, W.listOf ks nK), (L + 2, oK), (aS, W.listOf us nS), (L + 1, oL)] ++ nw) := fun p hp => news_tn N0 (Tn.of_ext hx1) p (.tail _ hp)
  have hR1 : ∃ as, Reads h1 (.ref B) (.list ((tgtL ls).map pairD)) as := by
    obtain ⟨bs, hb⟩ := reads_places (h := h1) (ys := acc.toList) (ds := (tgtL ls).map pairD) (by rw [hacc]; simp [hasl, hkl, htl]) fun j y d hy hd => by
      rw [hacc, List.getElem?_map] at hy
      obtain ⟨a, ha, rfl⟩ := Option.map_eq_some_iff.mp hy
      obtain ⟨key, k, x, e1, e2, e3⟩ := hG.pairs j a ha
      obtain ⟨t, rfl⟩ := Value.isStrOf_shape e2
      rw [List.getElem?_map] at hd
      obtain ⟨p, hp, rfl⟩ := Option.map_eq_some_iff.mp hd
      obtain ⟨y2, t2, rfl, hy2⟩ := hk2.item j x (by rw [List.getElem?_map, e1]; rfl)
      have e4 : y2 = S p.2 := by rw [List.getElem?_map, hp] at hy2; exact (Option.some.inj hy2).symm
      have e5 : k = S p.1 := by
        have q := congrArg (·[j]?) hk1
        simp only [List.getElem?_map, e1, hp, Option.map_some] at q
        exact Option.some.inj q
      subst e4 e5
      exact reads_pair e3 rfl rfl
    exact ⟨_, reads_list_at hS rfl rfl hb⟩
  clear F0 N0 hDv hDD hG hacc hS F N
  (repeat' ((fail_if_success (with_reducible show Fin2 _ _ _)); (fail_if_success (with_reducible show Halt _)); (first | (k_unfold; (try dsimp only)) | walk1 | (dsimp only; walk1))))
  obtain ⟨ar, hR1⟩ := hR1
  refine Halt.mk (comp_eval (show closureFor _ _ = pure _ from rfl) (by decide) rfl (by decide) ?_ (fun _ => rfl))
  (repeat' ((fail_if_success (with_reducible show Fin2 _ _ _)); (fail_if_success (with_reducible show Halt _)); (first | (k_unfold; (try dsimp only)) | walk1 | (dsimp only; walk1))))
  have hlK : h1.IsList aK ks := ⟨_, (N1 _ (.tail _ (.head _))).1, rfl, _, rfl⟩
  have hksz : ks.size = ls.length := by have := hks.len_eq; simpa using this
  have husz : us.size = ls.length := by have := hus.len_eq; simpa using this
  refine Halt.mk (call_len_list hlK (by omega) ?_)
  (repeat' ((fail_if_success (with_reducible show Fin2 _ _ _)); (fail_if_success (with_reducible show Halt _)); (first | (k_unfold; (try dsimp only)) | walk1 | (dsimp only; walk1))))
  rw [hksz]
  refine Halt.mk (range_iter (by omega) ?_)
  intro h2 tk2 hsz2 hk22 hit htk2
  have hz : h2.objs.size = h1.objs.size + 2 := hsz2
  have W1 := Walks.range (prog := PR) (w := w) (A := AR dp un gd [lawEnv L fa cd]) rfl (h1.objs.size + 1) 0 1 ls.length
  refine compAt_tn [] h1 (fun _ _ => False) (fun i o => o.cls = .type "tuple" ∧ ∃ t1 t2 n, o.data = .seq #[.str (keyS i) t1, .str (S (replyL (ls.getD i []) i)) t2] n) (Src.name W1 rfl rfl) ?sz hit ?fp ?tk hk22 ?wr ?fpo (fun _ hm => nomatch hm) ?elt ?q
  case sz => rw [sizeLine_eq]; omega
  case tk => exact Nat.le_trans (by show 1 ≤ tk1 + 1 + 1; omega) htk2
  case fp => intro b hb; rw [List.mem_singleton.mp hb]; show _ < h2.objs.size; rw [hz]; exact Nat.lt_succ_self _
  case wr => intro b hb; rw [List.mem_singleton.mp hb]; exact fresh_at (Nat.le_succ _)
  case fpo => intro i h' ho b hb; rw [List.mem_singleton.mp hb]; exact ⟨_, ho⟩
  case elt =>
    rintro C i s₃ m₃ E' hi hC htn hns ⟨v, ⟨t, rfl⟩, hk⟩ ht3
    have hke : Ext h1 s₃.heap := htn.ext
    have e0 : (0 : Int) + (i : Int) * 1 = (i : Int) := by omega
    rw [e0] at hk
    have F3 : Fr base L s₃.heap _ := fr_tn F1 (Tn.of_ext hke)
    have N3 := news_tn N1 (Tn.of_ext hke)
    have F6 : Fr h1 C s₃.heap (fun y => if y = Str.ofString "k" then some (.int i t) else m₃ y) := by
      rw [← map_eta hk]
      exact ⟨hns, hke, Nat.le_trans (by show h1.objs.size ≤ h2.objs.size; rw [hz]; exact Nat.le_add_right _ 2) hC⟩
    have X3 := X.keeps F1.keep
    have T3 := T.keeps F1.keep
    have hi20 : i < 20 := by omega
    clear h
    (repeat' ((fail_if_success (with_reducible show Fin2 _ _ _)); (fail_if_success (with_reducible show Halt _)); (first | (k_unfold; (try dsimp only)) | walk1 | (dsimp only; walk1))))
    (all_goals (try k_data))
    obtain ⟨tK, hK⟩ := strs_at hks i (keyS i) (by simp [hi])
    obtain ⟨tS, hS⟩ := strs_at hus i (S ls[i]) (by simp [hi])
    have hkS := key_len i hi20
    have hgd : ls.getD i [] = ls[i] := by simp [hi]
    have hsl : (S ls[i]).length ≤ 3000 := by rw [S_len]; exact hll _ (List.getElem_mem hi)
    refine Halt.mk (item_lit N3 (List.Mem.tail _ (List.Mem.head _)) (by omega) (by omega) (v := .str (keyS i) tK) (by simpa using hK) ?_)
    (repeat' ((fail_if_success (with_reducible show Fin2 _ _ _)); (fail_if_success (with_reducible show Halt _)); (first | (k_unfold; (try dsimp only)) | walk1 | (dsimp only; walk1))))
    (all_goals (try k_data))
    refine Halt.mk (item_lit N3 (List.Mem.tail _ (List.Mem.tail _ (List.Mem.tail _ (List.Mem.head _)))) (by omega) (by omega) (v := .str (S ls[i]) tS) (by simpa using hS) ?_)
    (repeat' ((fail_if_success (with_reducible show Fin2 _ _ _)); (fail_if_success (with_reducible show Halt _)); (first | (k_unfold; (try dsimp only)) | walk1 | (dsimp only; walk1))))
    (all_goals (try k_data))
    refine Halt.mk (wpAny_with_toks (n := 1) (by assumption) (c_reply (law_amb X T F3 hdp hun) (by assumption) (by omega) (by omega) (by omega) ?_))
    intro t5 h5 tk5 hk5 ht5
    rw [reply_eq]
    (repeat' ((fail_if_success (with_reducible show Fin2 _ _ _)); (fail_if_success (with_reducible show Halt _)); (first | (k_unfold; (try dsimp only)) | walk1 | (dsimp only; walk1))))
    (all_goals (try k_data))
    refine Halt.mk (wpAny_newTuple ?_)
    refine ⟨_, _, rfl, Tn.of_ext (fun b o e => Heap.get?_push_of_some _ (hk5 b o e)), .inr ⟨_, _, rfl, ?_, Heap.get?_push_size _ rfl, rfl, tK, t5, 0, by rw [hgd]⟩⟩
    show s₃.heap.get? h5.objs.size = none
    cases q : s₃.heap.get? h5.objs.size with
    | none => rfl
    | some o => exact absurd (Heap.lt_size (hk5 _ o q)) (Nat.lt_irrefl _)
  case q =>
    intro D2 h' tk ys hD2 hpl hlen hv htn htk'
    have hke : Ext h1 h' := htn.ext
    have F2 := fr_tn F1 (Tn.of_ext hke)
    have N2 := news_tn N1 (Tn.of_ext hke)
    obtain ⟨bs, hb⟩ := reads_places (h := h') (ys := ys.toList) (ds := (tgtL ls).map pairD) (by rw [hlen]; simp [htl]) fun j y d hy hd => by
      rcases hv j y hy with hf | ⟨To, o, rfl, _, _, ho, hoc, t1, t2, n, hod'⟩
      · exact hf.elim
      · have hjl : j < ls.length := by
          have := (List.getElem?_eq_some_iff.mp hy).1
          rw [hlen] at this; exact this
        have e1 : d = pairD (keyL j, replyL ls[j] j) := by
          have : ((tgtL ls).map pairD)[j]? = some (pairD (keyL j, replyL ls[j] j)) := by simp [tgtL, hjl]
          rw [this] at hd; exact (Option.some.inj hd).symm
        have e2 : ls.getD j [] = ls[j] := by simp [hjl]
        subst e1
        rw [e2] at hod'
        exact reads_pair ho hoc hod'
    obtain ⟨nD, hDo⟩ := hpl
    clear F1 N1
    (repeat' ((fail_if_success (with_reducible show Fin2 _ _ _)); (fail_if_success (with_reducible show Halt _)); (first | (k_unfold; (try dsimp only)) | walk1 | (dsimp only; walk1))))
    refine Halt.mk (ne_same (PyProof.Rows.Reads.keeps hke hR1) (reads_list_at hDo rfl rfl hb) ?sh hun ?_)
    case sh =>
      refine shaped_list ?_ ?_
      all_goals
        intro d hd
        obtain ⟨p, hp, rfl⟩ := List.mem_map.mp hd
        obtain ⟨⟨l, k⟩, hq, rfl⟩ := List.mem_map.mp hp
      · have h1 := List.mem_zipIdx hq
        have h2 := List.mem_map_of_mem (f := Prod.fst) hq
        exact canLay_pair (ok_key k (by omega)) (ok_reply (hok l (by simpa using h2)) k)
      · exact depth_pair
    (repeat' ((fail_if_success (with_reducible show Fin2 _ _ _)); (fail_if_success (with_reducible show Halt _)); (first | (k_unfold; (try dsimp only)) | walk1 | (dsimp only; walk1))))
    exact h _ _ (by rw [hme]; assumption) (by assumption)
end Mine
end

/-! PQ -/
section
open PySem PySem.W PyProof.Rows PySem.Calls
set_option maxRecDepth 100000
set_option maxHeartbeats 400000
namespace Mine
open StrLaws (dbl dbl_append dbl_free)
open Builtin Builtin.Str
/-! the strip -/
theorem strip_S {a b : List Nat} (ha : ∀ c ∈ a, Unicode.isSpace c = true) (h1 : ∃ c r, b = c :: r ∧ Unicode.isSpace c = false) (h2 : ∃ r c, b = r ++ [c] ∧ Unicode.isSpace c = false) : Txt.strip (S (a ++ b)) = S b := by
  obtain ⟨c, r, hb, hc⟩ := h1
  obtain ⟨r', c', hb', hc'⟩ := h2
  have tw : (a ++ b).takeWhile Unicode.isSpace = a := by
    rw [List.takeWhile_append_of_pos ha, hb, List.takeWhile_cons, hc]; simp
  have lo : stripLo Unicode.isSpace true (S (a ++ b)) = a.length := by
    show (if true = true then _ else 0) = _
    rw [if_pos rfl, S_list, tw]
  have hi : stripHi Unicode.isSpace true (S (a ++ b)) a.length = (S (a ++ b)).length := by
    show (if true = true then _ else _) = _
    rw [if_pos rfl, S_list, List.drop_left, hb', List.reverse_append, List.reverse_singleton, List.singleton_append, List.takeWhile_cons, hc']
    simp
  unfold Txt.strip Txt.stripBy
  split
  · rename_i hs
    unfold stripSame at hs
    rw [lo] at hs
    have : a.length = 0 := by simp at hs; simp [hs.1]
    rw [List.eq_nil_of_length_eq_zero this]; rfl
  · unfold PySem.stripped
    rw [lo, hi]
    refine S_ext ?_
    rw [StrLaws.strSub_toList, S_list, S_list, List.drop_left]
    exact List.take_of_length_le (by rw [S_len]; simp)

/-! the runs of the reader of lists -/
theorem run_plain : ∀ (a : List Nat), 34 ∉ a → 44 ∉ a → ∀ st : HS, st.esc = false → st.quo = false → a.foldl hstep st = { st with part := st.part ++ a }
  | [], _, _, st, _, _ => by simp
  | c :: r, h1, h2, st, e, q => by
    have c1 : c ≠ 34 := fun x => h1 (x ▸ .head _)
    have c2 : c ≠ 44 := fun x => h2 (x ▸ .head _)
    have hs : hstep st c = { st with part := st.part ++ [c] } := by simp [hstep, e, q, c1, c2]
    rw [List.foldl_cons, hs, run_plain r (fun m => h1 (.tail _ m)) (fun m => h2 (.tail _ m)) { st with part := st.part ++ [c] } e q]
    simp
theorem run_quoted : ∀ (l : List Nat) (st : HS), st.esc = false → st.quo = true → (dbl 92 (dbl 34 l)).foldl hstep st = { st with part := st.part ++ dbl 34 l }
  | [], st, _, _ => by simp [dbl]
  | c :: r, st, e, q => by
    by_cases c1 : c = 34
    · subst c1
      have e1 : dbl 34 (34 :: r) = 34 :: 34 :: dbl 34 r := by simp [dbl]
      have e2 : dbl 92 (34 :: 34 :: dbl 34 r) = 34 :: 34 :: dbl 92 (dbl 34 r) := by simp [dbl]
      have s1 : hstep st 34 = { st with quo := false, part := st.part ++ [34] } := by simp [hstep, e, q]
      have s2 : hstep { st with quo := false, part := st.part ++ [34] } 34 = { st with quo := true, part := st.part ++ [34] ++ [34] } := by simp [hstep, e]
      rw [e1, e2, List.foldl_cons, s1, List.foldl_cons, s2, run_quoted r { st with quo := true, part := st.part ++ [34] ++ [34] } e rfl]
      simp [q]
    · have e1 : dbl 34 (c :: r) = c :: dbl 34 r := by simp [dbl, c1]
      by_cases c2 : c = 92
      · subst c2
        have e2 : dbl 92 (92 :: dbl 34 r) = 92 :: 92 :: dbl 92 (dbl 34 r) := by simp [dbl]
        have s1 : hstep st 92 = { st with esc := true } := by simp [hstep, e, q]
        have s2 : hstep { st with esc := true } 92 = { st with esc := false, part := st.part ++ [92] } := by simp [hstep]
        rw [e1, e2, List.foldl_cons, s1, List.foldl_cons, s2, run_quoted r { st with esc := false, part := st.part ++ [92] } rfl q]
        simp [e]
      · have e2 : dbl 92 (c :: dbl 34 r) = c :: dbl 92 (dbl 34 r) := by simp [dbl, c2]
        have s1 : hstep st c = { st with part := st.part ++ [c] } := by simp [hstep, e, q, c1, c2]
        rw [e1, e2, List.foldl_cons, s1, run_quoted r { st with part := st.part ++ [c] } e q]
        simp
theorem suf_cases (k : Nat) : sufL k = [] ∨ sufL k = [32, 105, 115, 32, 105, 116] ∨ sufL k = [32, 34, 116, 111, 111, 34, 32, 111, 114, 32, 115, 111] := by
  unfold sufL
  split
  · exact .inl rfl
  · split
    · exact .inr (.inl rfl)
    · exact .inr (.inr rfl)
theorem run_suf (k : Nat) (st : HS) (e : st.esc = false) (q : st.quo = false) : (dbl 92 (sufL k)).foldl hstep st = { st with part := st.part ++ sufL k } := by
  obtain ⟨res, part, esc, quo⟩ := st
  dsimp only at e q
  subst e q
  rcases suf_cases k with h | h | h
  · rw [h]; simp [dbl]
  · rw [h, dbl_free 92 _ (by decide), run_plain _ (by decide) (by decide) _ rfl rfl]
  · rw [h, dbl_free 92 _ (by decide)]
    simp [hstep]
structure Good (b : List Nat) : Prop where
  run : ∀ st : HS, st.esc = false → st.quo = false → (dbl 92 b).foldl hstep st = { st with part := st.part ++ b }
  hd : ∃ c r, b = c :: r ∧ Unicode.isSpace c = false
  lst : ∃ r c, b = r ++ [c] ∧ Unicode.isSpace c = false
theorem nosp {c : Nat} (h1 : 33 ≤ c) (h2 : c ≤ 126) : Unicode.isSpace c = false :=
  (by decide +kernel : ∀ c, c < 127 → 33 ≤ c → Unicode.isSpace c = false) c (by omega) h1
theorem good_reply {a : List Nat} (l : List Nat) (k : Nat) (h34 : 34 ∉ a) (h44 : 44 ∉ a) (h92 : 92 ∉ a) (hh : ∀ c r, a = c :: r → 33 ≤ c ∧ c ≤ 126) : Good (a ++ replyL l k) where
  run := fun st e q => by
    have hc : 34 ∉ a ++ codeL l ++ [32] ∧ 44 ∉ a ++ codeL l ++ [32] ∧ 92 ∉ a ++ codeL l ++ [32] := by
      unfold codeL
      split <;> simp [h34, h44, h92]
    have e1 : a ++ replyL l k = (a ++ codeL l ++ [32]) ++ (34 :: (dbl 34 l ++ (34 :: sufL k))) := by
      unfold replyL; simp
    have e2 : dbl 92 (a ++ replyL l k) = (a ++ codeL l ++ [32]) ++ (34 :: (dbl 92 (dbl 34 l) ++ (34 :: dbl 92 (sufL k)))) := by
      rw [e1, dbl_append, dbl_free 92 _ hc.2.2]
      congr 1
      show dbl 92 (34 :: (dbl 34 l ++ (34 :: sufL k))) = _
      have : ∀ x : List Nat, dbl 92 (34 :: x) = 34 :: dbl 92 x := fun x => by simp [dbl]
      rw [this, dbl_append, this]
    obtain ⟨res, part, esc, quo⟩ := st
    dsimp only at e q
    subst e q
    rw [e2, List.foldl_append, run_plain _ hc.1 hc.2.1 _ rfl rfl, List.foldl_cons]
    have s1 : hstep { res := res, part := part ++ (a ++ codeL l ++ [32]), esc := false, quo := false } 34 = ⟨res, part ++ (a ++ codeL l ++ [32]) ++ [34], false, true⟩ := by simp [hstep]
    rw [s1, List.foldl_append, run_quoted l _ rfl rfl, List.foldl_cons]
    have s2 : hstep { res := res, part := part ++ (a ++ codeL l ++ [32]) ++ [34] ++ dbl 34 l, esc := false, quo := true } 34 = ⟨res, part ++ (a ++ codeL l ++ [32]) ++ [34] ++ dbl 34 l ++ [34], false, false⟩ := by simp [hstep]
    rw [s2, run_suf k _ rfl rfl, e1]
    simp
  hd := by
    cases a with
    | nil =>
      refine ⟨50, (replyL l k).drop 1, ?_, nosp (by decide) (by decide)⟩
      unfold replyL codeL
      split <;> simp
    | cons c r =>
      have := hh c r rfl
      exact ⟨c, r ++ replyL l k, rfl, nosp this.1 this.2⟩
  lst := by
    unfold replyL
    rcases suf_cases k with h | h | h
    · rw [h]; exact ⟨a ++ (codeL l ++ [32, 34] ++ dbl 34 l), 34, by simp, nosp (by decide) (by decide)⟩
    · rw [h]; exact ⟨a ++ (codeL l ++ [32, 34] ++ dbl 34 l ++ [34] ++ [32, 105, 115, 32, 105]), 116, by simp, nosp (by decide) (by decide)⟩
    · rw [h]; exact ⟨a ++ (codeL l ++ [32, 34] ++ dbl 34 l ++ [34] ++ [32, 34, 116, 111, 111, 34, 32, 111, 114, 32, 115]), 111, by simp, nosp (by decide) (by decide)⟩
theorem join_run {c : Nat} (h34 : c ≠ 34) (h44 : c ≠ 44) : ∀ (x : List Nat) (xs : List (List Nat)) (res : List (List Nat)) (p : List Nat), (∀ y ∈ x :: xs, Good y) →
    ∃ R P, (joinL [44, c] ((x :: xs).map (dbl 92))).foldl hstep ⟨res, p, false, false⟩ = ⟨R, P, false, false⟩ ∧ R ++ [P] = res ++ (p ++ x) :: xs.map (c :: ·) ∧ P ≠ []
  | x, [], res, p, h => by
    refine ⟨res, p ++ x, (h x (.head _)).run ⟨res, p, false, false⟩ rfl rfl, rfl, ?_⟩
    obtain ⟨d, r, e, _⟩ := (h x (.head _)).hd
    rw [e]; simp
  | x, y :: ys, res, p, h => by
    obtain ⟨R, P, e1, e2, e3⟩ := join_run h34 h44 y ys (res ++ [p ++ x]) [c] fun z hz => h z (.tail _ hz)
    refine ⟨R, P, ?_, ?_, e3⟩
    · rw [← e1]
      show List.foldl hstep _ (dbl 92 x ++ [44, c] ++ joinL [44, c] ((y :: ys).map (dbl 92))) = _
      rw [List.foldl_append, List.foldl_append, (h x (.head _)).run _ rfl rfl]
      congr 1
      simp [hstep, h34, h44]
    · rw [e2]; simp
theorem hparts_join {c : Nat} (h34 : c ≠ 34) (h44 : c ≠ 44) (x : List Nat) (xs : List (List Nat)) (h : ∀ y ∈ x :: xs, Good y) : hparts (joinL [44, c] ((x :: xs).map (dbl 92))) = x :: xs.map (c :: ·) := by
  obtain ⟨R, P, e1, e2, e3⟩ := join_run h34 h44 x xs [] [] h
  have : hrun (joinL [44, c] ((x :: xs).map (dbl 92))) = ⟨R, P, false, false⟩ := e1
  unfold hparts
  rw [this, if_neg e3]
  simpa using e2
theorem http_join {c : Nat} (h34 : c ≠ 34) (h44 : c ≠ 44) (hc : Unicode.isSpace c = true) (xs : List (List Nat)) (h : ∀ y ∈ xs, Good y) (ws : List Str) (hw : ws.map (·.cps.toList) = hparts (joinL [44, c] (xs.map (dbl 92)))) : ws.map Txt.strip = xs.map S := by
  have e1 : ws = (hparts (joinL [44, c] (xs.map (dbl 92)))).map S := by
    rw [← hw, List.map_map]
    exact ((List.map_congr_left (g := _root_.id) fun x _ => S_of x).trans (List.map_id _)).symm
  cases xs with
  | nil =>
    have : hparts (joinL [44, c] (([] : List (List Nat)).map (dbl 92))) = [] := rfl
    rw [e1, this]; rfl
  | cons x xs =>
    rw [e1, hparts_join h34 h44 x xs h, List.map_cons, List.map_cons, List.map_cons, List.map_map, List.map_map]
    congr 1
    · exact strip_S (a := []) (fun _ hm => nomatch hm) (h x (.head _)).hd (h x (.head _)).lst
    · refine List.map_congr_left fun y hy => ?_
      exact strip_S (a := [c]) (fun d hd => by rw [List.mem_singleton.mp hd]; exact hc) (h y (.tail _ hy)).hd (h y (.tail _ hy)).lst
theorem space32 : Unicode.isSpace 32 = true := by decide +kernel
theorem space9 : Unicode.isSpace 9 = true := by decide +kernel
theorem http_list {g : List (List Nat)} {ws : List Str} (hw : ws.map (·.cps.toList) = hparts (listL g)) : ws.map Txt.strip = (repsL g).map S := by
  refine http_join (by decide) (by decide) space32 _ (fun y hy => ?_) ws hw
  obtain ⟨l, k, _, _, rfl⟩ := mem_reps hy
  have := good_reply (a := []) l k (by simp) (by simp) (by simp) (fun _ _ q => nomatch q)
  simpa using this

theorem key_plain : ∀ i, i < 20 → 34 ∉ keyL i ∧ 44 ∉ keyL i ∧ 92 ∉ keyL i ∧ 61 ∉ keyL i ∧ (keyL i).head? = some 103 := by decide +kernel
theorem key_inj : ∀ i, i < 20 → ∀ j, j < 20 → keyL i = keyL j → i = j := by decide +kernel
theorem header_is {ls : List (List Nat)} (hls : ls.length ≤ 20) : headerL ls = joinL [44, 9] (((tgtL ls).map fun p => p.1 ++ 61 :: p.2).map (dbl 92)) := by
  unfold headerL partsL tgtL
  rw [List.map_map, List.map_map]
  congr 1
  refine List.map_congr_left fun p hp => ?_
  have h1 := List.mem_zipIdx hp
  have hk := key_plain p.2 (by omega)
  show partL p.1 p.2 = dbl 92 (keyL p.2 ++ 61 :: replyL p.1 p.2)
  unfold partL
  rw [dbl_append, dbl_free 92 _ hk.2.2.1]
  congr 1
theorem reply_head (l : List Nat) (k : Nat) : ∃ r, replyL l k = 50 :: r := by
  refine ⟨(replyL l k).drop 1, ?_⟩
  unfold replyL codeL
  split <;> simp
theorem header_elts {ls : List (List Nat)} (hls : ls.length ≤ 20) (hll : ∀ l ∈ ls, l.length ≤ 3000) (ws : List Str) (hw : ws.map (·.cps.toList) = hparts (headerL ls)) : Elts (tgtL ls) (ws.map Txt.strip) := by
  rw [header_is hls] at hw
  have mem : ∀ p ∈ tgtL ls, ∃ l k, l ∈ ls ∧ k < 20 ∧ p = (keyL k, replyL l k) := by
    intro p hp
    obtain ⟨⟨l, k⟩, hq, rfl⟩ := List.mem_map.mp hp
    have h1 := List.mem_zipIdx hq
    have h2 := List.mem_map_of_mem (f := Prod.fst) hq
    exact ⟨l, k, by simpa using h2, by omega, rfl⟩
  refine ⟨?_, ?_, ?_, ?_, ?_, ?_⟩
  · rw [http_join (by decide) (by decide) space9 _ (fun y hy => ?_) ws hw, List.map_map]
    · rfl
    · obtain ⟨p, hp, rfl⟩ := List.mem_map.mp hy
      obtain ⟨l, k, _, hk, rfl⟩ := mem p hp
      have hkp := key_plain k hk
      have := good_reply (a := keyL k ++ [61]) l k (by simp [hkp]) (by simp [hkp]) (by simp [hkp]) (fun c r q => by
        have hh := hkp.2.2.2.2
        cases hkk : keyL k with
        | nil => rw [hkk] at hh; cases hh
        | cons d r' =>
          rw [hkk] at hh q
          simp at hh q
          omega)
      simpa using this
  · intro p hp
    obtain ⟨l, k, _, hk, rfl⟩ := mem p hp
    exact (key_plain k hk).2.2.2.1
  · intro p hp
    obtain ⟨l, k, _, hk, rfl⟩ := mem p hp
    obtain ⟨r, e⟩ := reply_head l k
    exact ⟨50, r, e, by decide⟩
  · intro p hp
    obtain ⟨l, k, hl, hk, rfl⟩ := mem p hp
    have h1 := replyL_len l k
    have h2 := hll l hl
    have h3 := key_len k hk
    rw [keyS_eq, S_len] at h3
    show (keyL k).length + (replyL l k).length ≤ 50000
    omega
  · have e : (tgtL ls).map (·.1) = (List.range ls.length).map keyL := by
      unfold tgtL
      rw [List.map_map, List.range_eq_range', ← List.zipIdx_map_snd 0 ls, List.map_map]
      rfl
    rw [e]
    refine List.pairwise_map.mpr (List.Pairwise.imp_of_mem ?_ List.nodup_range)
    intro a b ha hb hab q
    exact hab (key_inj a (by have := List.mem_range.mp ha; omega) b (by have := List.mem_range.mp hb; omega) q)
  · simp [tgtL]; omega

/-! parse257 -/
theorem p257_dbl {r : List Nat} (hr : ∀ q, r ≠ 34 :: q) : ∀ l : List Nat, p257 (dbl 34 l ++ 34 :: r) = l
  | [] => by
    show p257 (34 :: r) = []
    cases r with
    | nil => rfl
    | cons d q =>
      have : d ≠ 34 := fun e => hr q (by rw [e])
      simp [p257, this]
  | c :: l => by
    by_cases h : c = 34
    · subst h
      have e1 : dbl 34 (34 :: l) = 34 :: 34 :: dbl 34 l := by simp [dbl]
      rw [e1]
      show p257 (34 :: 34 :: (dbl 34 l ++ 34 :: r)) = _
      have e2 : ∀ z, p257 (34 :: 34 :: z) = 34 :: p257 z := fun z => by simp [p257]
      rw [e2, p257_dbl hr l]
    · have e1 : dbl 34 (c :: l) = c :: dbl 34 l := by simp [dbl, h]
      rw [e1, List.cons_append, p257_ne h, p257_dbl hr l]
theorem reply_257 (l : List Nat) (k : Nat) : p257 ((replyL l k).drop 5) = l := by
  have e : (replyL l k).drop 5 = dbl 34 l ++ 34 :: sufL k := by
    unfold replyL codeL
    split <;> simp
  rw [e]
  refine p257_dbl (fun q hq => ?_) l
  rcases suf_cases k with h | h | h
  all_goals (rw [h] at hq; cases hq)
theorem slice_to {l : List Nat} {n : Nat} (h : n ≤ l.length) : Txt.slice (S l) none (some (n : Int)) = S (l.take n) := by
  have := StrLaws.sliceText_to (x := S l) (j := (n : Int)) ⟨by omega, by rw [S_list]; omega⟩
  refine (show Txt.slice (S l) none (some (n : Int)) = StrLaws.sliceText (S l) none (some (n : Int)) from rfl).trans (this.trans ?_)
  rw [S_list, List.drop_zero]
  simp [S]
theorem slice_of {l : List Nat} {a b : Nat} (hab : a ≤ b) (h : b ≤ l.length) : Txt.slice (S l) (some (a : Int)) (some (b : Int)) = S ((l.drop a).take (b - a)) := by
  have := StrLaws.sliceText_nat (S l) hab (by rw [S_len]; exact h)
  exact (show Txt.slice (S l) (some (a : Int)) (some (b : Int)) = StrLaws.sliceText (S l) (some (a : Int)) (some (b : Int)) from rfl).trans this
theorem reply_take (l : List Nat) (k : Nat) : (replyL l k).take 3 = codeL l := by
  unfold replyL codeL
  split <;> simp
theorem reply_len5 (l : List Nat) (k : Nat) : 5 ≤ (replyL l k).length := by
  unfold replyL
  have := codeL_len l
  simp only [List.length_append, List.length_cons, List.length_nil]; omega
theorem reply_3 (l : List Nat) (k : Nat) : Txt.slice (S (replyL l k)) none (some 3) = S (codeL l) := by
  rw [show (3 : Int) = ((3 : Nat) : Int) from rfl, slice_to (Nat.le_trans (by decide) (reply_len5 l k)), reply_take]
theorem is257 (l : List Nat) (k : Nat) (h : l.getLast? ≠ some 61) : (Txt.slice (S (replyL l k)) none (some 3) == Str.ofString "257") = true := by
  rw [reply_3, codeL, if_neg h]; decide +kernel
theorem not257 (l : List Nat) (k : Nat) (h : l.getLast? = some 61) : (Txt.slice (S (replyL l k)) none (some 3) == Str.ofString "257") = false := by
  rw [reply_3, codeL, if_pos h]; decide +kernel
theorem not250 (l : List Nat) (k : Nat) (h : l.getLast? ≠ some 61) : (Txt.slice (S (replyL l k)) none (some 3) == Str.ofString "250") = false := by
  rw [reply_3, codeL, if_neg h]; decide +kernel
theorem is250 (l : List Nat) (k : Nat) (h : l.getLast? = some 61) : (Txt.slice (S (replyL l k)) none (some 3) == Str.ofString "250") = true := by
  rw [reply_3, codeL, if_pos h]; decide +kernel
theorem reply_q (l : List Nat) (k : Nat) : (Txt.slice (S (replyL l k)) (some 3) (some 5) == Str.ofString " \"") = true := by
  have e : ((replyL l k).drop 3).take 2 = [32, 34] := by
    unfold replyL codeL
    split <;> simp
  rw [show (3 : Int) = ((3 : Nat) : Int) from rfl, show (5 : Int) = ((5 : Nat) : Int) from rfl, slice_of (by decide) (reply_len5 l k), e]
  decide +kernel
theorem getLast_dbl (l : List Nat) : ∀ c, c ≠ 92 → (dbl 92 (l ++ [c])).getLast? = some c := fun c hc => by
  rw [dbl_append, dbl_free 92 [c] (by simpa using Ne.symm hc)]; simp
theorem reply_last (l : List Nat) (k : Nat) : ∃ r c, replyL l k = r ++ [c] ∧ c ≠ 92 ∧ c ≠ 61 := by
  unfold replyL
  rcases suf_cases k with h | h | h
  · rw [h]; exact ⟨codeL l ++ [32, 34] ++ dbl 34 l, 34, by simp, by decide, by decide⟩
  · rw [h]; exact ⟨codeL l ++ [32, 34] ++ dbl 34 l ++ [34] ++ [32, 105, 115, 32, 105], 116, by simp, by decide, by decide⟩
  · rw [h]; exact ⟨codeL l ++ [32, 34] ++ dbl 34 l ++ [34] ++ [32, 34, 116, 111, 111, 34, 32, 111, 114, 32, 115], 111, by simp, by decide, by decide⟩
theorem join_last {sep : List Nat} : ∀ {xs : List (List Nat)}, (∀ x ∈ xs, ∃ c, x.getLast? = some c ∧ c ≠ 61) → (joinL sep xs).getLast? ≠ some 61
  | [], _ => by simp [joinL]
  | [x], h => by
    obtain ⟨c, e, hc⟩ := h x (.head _)
    show x.getLast? ≠ some 61
    rw [e]; intro q; exact hc (Option.some.inj q)
  | x :: y :: r, h => by
    have ih := join_last (sep := sep) (xs := y :: r) fun z hz => h z (.tail _ hz)
    show (x ++ sep ++ joinL sep (y :: r)).getLast? ≠ some 61
    rw [List.getLast?_append]
    obtain ⟨c, hc⟩ : ∃ c, (joinL sep (y :: r)).getLast? = some c := by
      cases hj : (joinL sep (y :: r)).getLast? with
      | some c => exact ⟨c, rfl⟩
      | none =>
        exfalso
        have hn := List.getLast?_eq_none_iff.mp hj
        obtain ⟨c, e, _⟩ := h y (.tail _ (.head _))
        have hy : y ≠ [] := by intro q; rw [q] at e; cases e
        cases r with
        | nil => exact hy hn
        | cons z r =>
          have : joinL sep (y :: z :: r) = y ++ sep ++ joinL sep (z :: r) := rfl
          rw [this] at hn
          simp at hn
          exact hy hn.1
    rw [hc] at ih ⊢
    simpa using ih
theorem list_last (g : List (List Nat)) : (listL g).getLast? ≠ some 61 := by
  refine join_last fun x hx => ?_
  obtain ⟨r, hr, rfl⟩ := List.mem_map.mp hx
  obtain ⟨l, k, _, _, rfl⟩ := mem_reps hr
  obtain ⟨r', c, e, h1, h2⟩ := reply_last l k
  exact ⟨c, by rw [e]; exact getLast_dbl r' c h1, h2⟩

/-! the sizes -/
theorem join_len {sep : List Nat} {n : Nat} : ∀ {xs : List (List Nat)}, (∀ x ∈ xs, x.length ≤ n) → (joinL sep xs).length ≤ (n + sep.length) * xs.length
  | [], _ => Nat.zero_le _
  | [x], h => by
    have := h x (.head _)
    show x.length ≤ _
    simp; omega
  | x :: y :: r, h => by
    have ih := join_len (sep := sep) (xs := y :: r) fun z hz => h z (.tail _ hz)
    have h1 := h x (.head _)
    show (x ++ sep ++ joinL sep (y :: r)).length ≤ _
    simp only [List.length_append]
    rw [List.length_cons (a := x), Nat.mul_succ]
    omega
theorem list_len {g : List (List Nat)} (hg : g.length ≤ 20) (hn : ∀ nm ∈ g, nm.length ≤ 20) : (listL g).length ≤ 3000 := by
  have := join_len (sep := [44, 32]) (n := 116) (xs := (repsL g).map (dbl 92)) fun x hx => by
    obtain ⟨r, hr, rfl⟩ := List.mem_map.mp hx
    obtain ⟨l, k, hl, _, rfl⟩ := mem_reps hr
    have q1 := dbl_len 92 (replyL l k)
    have q2 := replyL_len l k
    have q3 := hn l hl
    omega
  have hl : ((repsL g).map (dbl 92)).length = g.length := by simp [repsL]
  rw [hl] at this
  refine Nat.le_trans this ?_
  show 118 * g.length ≤ 3000
  omega
theorem header_len {ls : List (List Nat)} (hls : ls.length ≤ 20) (hll : ∀ l ∈ ls, l.length ≤ 3000) : (headerL ls).length ≤ 1000000 := by
  have := join_len (sep := [44, 9]) (n := 13000) (xs := partsL ls) fun x hx => by
    obtain ⟨⟨l, k⟩, hq, rfl⟩ := List.mem_map.mp hx
    have h1 := List.mem_zipIdx hq
    have h2 := List.mem_map_of_mem (f := Prod.fst) hq
    have q1 := dbl_len 92 (replyL l k)
    have q2 := replyL_len l k
    have q3 := hll l (by simpa using h2)
    have q4 := key_len k (by omega)
    rw [keyS_eq, S_len] at q4
    show (keyL k ++ 61 :: dbl 92 (replyL l k)).length ≤ 13000
    simp only [List.length_append, List.length_cons]
    omega
  have hl : (partsL ls).length = ls.length := by simp [partsL]
  rw [hl] at this
  refine Nat.le_trans this ?_
  show 13002 * ls.length ≤ 1000000
  omega
structure GB (n : Nat) (g : GS) : Prop where
  p : g.pre.length ≤ n
  pl : ∀ x ∈ g.pre, x.length ≤ n + 1
  pn : ∀ x ∈ g.pre, ∀ nm ∈ x, nm.length ≤ n ∧ OkL nm
  c : g.cur.length ≤ n
  cn : ∀ nm ∈ g.cur, nm.length ≤ n ∧ OkL nm
  l : g.last.length ≤ n
  lo : OkL g.last
theorem sign_ok (x : Int) : signOf x < 1114112 := by
  unfold signOf
  repeat' split
  all_goals first | decide | skip
  have h1 := Int.fmod_lt_of_pos (x.fdiv 8) (by decide : (0 : Int) < 26)
  have h0 := Int.fmod_nonneg_of_pos (x.fdiv 8) (by decide : (0 : Int) < 26)
  omega
theorem gb_step {n : Nat} {g : GS} (h : GB n g) (x : Int) : GB (n + 1) (gstep g x) := by
  obtain ⟨h1, h2, h3, h4, h5, h6, h7⟩ := h
  have w2 : ∀ x ∈ g.pre, x.length ≤ n + 1 + 1 := fun x hx => Nat.le_succ_of_le (h2 x hx)
  have w3 : ∀ x ∈ g.pre, ∀ nm ∈ x, nm.length ≤ n + 1 ∧ OkL nm := fun x hx nm hn => ⟨Nat.le_succ_of_le (h3 x hx nm hn).1, (h3 x hx nm hn).2⟩
  have w5 : ∀ nm ∈ g.cur, nm.length ≤ n + 1 ∧ OkL nm := fun nm hn => ⟨Nat.le_succ_of_le (h5 nm hn).1, (h5 nm hn).2⟩
  have w5' : ∀ nm ∈ g.cur ++ [g.last], nm.length ≤ n + 1 ∧ OkL nm := fun nm hn => by
    rcases List.mem_append.mp hn with hn | hn
    · exact w5 nm hn
    · rw [List.mem_singleton.mp hn]; exact ⟨Nat.le_succ_of_le h6, h7⟩
  unfold gstep
  split
  · refine ⟨Nat.le_succ_of_le h1, w2, w3, ?_, w5', Nat.zero_le _, (fun c hc => nomatch hc)⟩
    show (g.cur ++ [g.last]).length ≤ n + 1
    simp; exact h4
  · split
    · refine ⟨?_, ?_, ?_, Nat.zero_le _, (fun c hc => nomatch hc), Nat.zero_le _, (fun c hc => nomatch hc)⟩
      · show (g.pre ++ [g.cur ++ [g.last]]).length ≤ n + 1
        simp; exact h1
      · intro x hx
        rcases List.mem_append.mp hx with hx | hx
        · exact w2 x hx
        · rw [List.mem_singleton.mp hx]; simp; omega
      · intro x hx
        rcases List.mem_append.mp hx with hx | hx
        · exact w3 x hx
        · rw [List.mem_singleton.mp hx]; exact w5'
    · refine ⟨Nat.le_succ_of_le h1, w2, w3, Nat.le_succ_of_le h4, w5, ?_, ?_⟩
      · show (g.last ++ [signOf x]).length ≤ n + 1
        simp; exact h6
      · exact h7.app (OkL.cons (sign_ok x) (fun c hc => nomatch hc))
theorem gb_run : ∀ (xs : List Int) (n : Nat) (g : GS), GB n g → GB (n + xs.length) (xs.foldl gstep g)
  | [], _, _, h => h
  | x :: xs, n, g, h => by
    have := gb_run xs (n + 1) (gstep g x) (gb_step h x)
    rw [List.foldl_cons, List.length_cons]
    rw [show n + (xs.length + 1) = n + 1 + xs.length by omega]
    exact this
theorem gb0 : GB 0 g0 := ⟨Nat.le_refl _, (fun _ h => nomatch h), (fun _ h => nomatch h), Nat.le_refl _, (fun _ h => nomatch h), Nat.le_refl _, (fun _ h => nomatch h)⟩
theorem all_ok {xs : List Int} (hx : xs.length ≤ 15) : (grun xs).all.length ≤ 20 ∧ (∀ g ∈ (grun xs).all, g.length ≤ 20) ∧ (∀ g ∈ (grun xs).all, ∀ nm ∈ g, nm.length ≤ 20) ∧ (∀ g ∈ (grun xs).all, ∀ nm ∈ g, OkL nm) := by
  have h := gb_run xs 0 g0 gb0
  rw [Nat.zero_add] at h
  have h : GB xs.length (grun xs) := h
  have hm : ∀ g ∈ (grun xs).all, g ∈ (grun xs).pre ∨ g = (grun xs).cur ++ [(grun xs).last] := fun g hg => by
    rcases List.mem_append.mp hg with q | q
    · exact .inl q
    · exact .inr (List.mem_singleton.mp q)
  have hn : ∀ g ∈ (grun xs).all, ∀ nm ∈ g, nm.length ≤ xs.length ∧ OkL nm := fun g hg nm hnm => by
    rcases hm g hg with q | rfl
    · exact h.pn g q nm hnm
    · rcases List.mem_append.mp hnm with r | r
      · exact h.cn nm r
      · rw [List.mem_singleton.mp r]; exact ⟨h.l, h.lo⟩
  refine ⟨?_, fun g hg => ?_, fun g hg nm hnm => Nat.le_trans (hn g hg nm hnm).1 (by omega), fun g hg nm hnm => (hn g hg nm hnm).2⟩
  · have := h.p
    simp [GS.all]; omega
  · rcases hm g hg with q | rfl
    · have := h.pl g q; omega
    · have := h.c
      simp; omega
end Mine
end

section
local macro_rules | `(tactic| walk_at "pad") => `(tactic| fail "pad")
local macro_rules | `(tactic| walk_at "pad") => `(tactic| fail "pad")
local macro_rules | `(tactic| walk_at "pad") => `(tactic| fail "pad")
local macro_rules | `(tactic| walk_at "pad") => `(tactic| fail "pad")
local macro_rules | `(tactic| walk_at "pad") => `(tactic| fail "pad")
local macro_rules | `(tactic| walk_at "pad") => `(tactic| fail "pad")
local macro_rules | `(tactic| walk_at "pad") => `(tactic| fail "pad")
local macro_rules | `(tactic| walk_at "pad") => `(tactic| fail "pad")
local macro_rules | `(tactic| walk_at "pad") => `(tactic| fail "pad")
local macro_rules | `(tactic| walk_at "pad") => `(tactic| fail "pad")
local macro_rules | `(tactic| walk_at "pad") => `(tactic| fail "pad")
local macro_rules | `(tactic| walk_at "pad") => `(tactic| fail "pad")
local macro_rules | `(tactic| walk_at "pad") => `(tactic| fail "pad")
local macro_rules | `(tactic| walk_at "pad") => `(tactic| fail "pad")
theorem Mine.freshLS9 : True ∧ True := by
  w_top off
  walk1
  all_goals exact True.intro
end

/-! LS9 -/
section
open PySem PySem.W PyProof.Rows PySem.Calls PySem.SeqAt
set_option maxRecDepth 100000
set_option maxHeartbeats 400000
namespace Mine
open StrLaws (dbl)
theorem filledL9 : ∀ (p : Params), hd.heap_39 p = hd.heap_39 p ∧ PySem.Challenge.rw_mj0093_01 = PySem.Challenge.rw_mj0093_01 := by
  k_fill; exact fun _ => ⟨rfl, rfl⟩
def bst (k : Nat) : Stmt := (forBody (st 8)).getD k (.Pass default)
theorem body_is : forBody (st 8) = [bst 0, bst 1, bst 2, bst 3, bst 4, bst 5, bst 6] := rfl
variable {w : World} {dp un : Nat} {gd : Option (List Code)} {base : Heap} {mean : ExcName → Option Value} {mg mb : Str → Option Value} {s : Shared} {Q : Flow → Shared → Prop} {E : Value → Shared → Prop} {L fa aK aS aG : Addr} {cd : Value} {m : Str → Option Value}
local macro_rules | `(tactic| walk_at "eval ListComp") => `(tactic| (refine halt ?_))
local macro_rules | `(tactic| walk_at "pyIter ref") => `(tactic| (refine halt ?_))
local macro_rules | `(tactic| walk_at "call ref") => `(tactic| (refine halt ?_))
local macro_rules | `(tactic| walk_at "subscriptTail Name Name ref int") => `(tactic| (refine halt ?_))
local macro_rules | `(tactic| walk_at "subscriptTail Name Subscript ref str") => `(tactic| (refine halt ?_))
local macro_rules | `(tactic| walk_at "subscriptTail") => `(tactic| (refine halt ?_))

theorem b0 {ks : Array Value} {l : List Nat} {i nK : Nat} {t tK tV : Tok} {nw : List (Addr × Obj)} {oK oD : Obj} {D : Addr} {kvs : List (Str × Value)} (X : (hd.heap_39 w.params).In base) (T : Top hd.view_39 (looseW hd.view_39 []) mean mg mb base) (hdp : dp < 400) (hun : un < 400)
    (F : Fr base L s.heap m) (hmk : m (Str.ofString "k") = some (.int i t)) (hmt : m (Str.ofString "told") = some (.ref D)) (N : News base L s.heap ([(D, oD), (aK, W.listOf ks nK), (L + 2, oK)] ++ nw)) (hoK : oK.data = .cell (some (.ref aK)))
    (hi : i < 20) (hK : ks[i]? = some (.str (keyS i) tK)) (hod : oD.IsDictOf (strKind PR w) kvs) (hV : kvs[i]? = some (keyS i, .str (S (replyL l i)) tV)) (hl : l.length ≤ 3000) (hl2 : l.getLast? ≠ some 61)
    (h : ∀ t h' tk, 1 ≤ tk → Fr base L h' (fun y => if y = Str.ofString "inner" then some (.str (S l) t) else m y) → News base L h' ([(D, oD), (aK, W.listOf ks nK), (L + 2, oK)] ++ nw) → Q .next { s with heap := h', toks := tk }) :
    wpAny (model PR w) (AR dp un gd [lawEnv L fa cd]) (exec (bst 0) (lawEnv L fa cd)) Q E s := by
  change wpAny _ _ (exec (Stmt.Assign _ _ _) _) _ _ _
  have hme : m = fun y => if y = Str.ofString "k" then some (.int i t) else if y = Str.ofString "told" then some (.ref D) else m y := (map_eta hmk).trans (by funext y; split <;> first | rfl | exact congrFun (map_eta hmt) y)
  rw [hme] at F
  (repeat' ((fail_if_success (with_reducible show Fin2 _ _ _)); (fail_if_success (with_reducible show Halt _)); (first | (k_unfold; (try dsimp only)) | walk1 | (dsimp only; walk1))))
  refine Halt.mk (item_lit N (List.Mem.tail _ (List.Mem.head _)) (by omega) (by omega) (v := .str (keyS i) tK) (by simpa using hK) ?_)
  have hkS := key_len i hi
  generalize hkk : keyS i = kk at *
  (repeat' ((fail_if_success (with_reducible show Fin2 _ _ _)); (fail_if_success (with_reducible show Halt _)); (first | (k_unfold; (try dsimp only)) | walk1 | (dsimp only; walk1))))
  have hnd : (kvs.map (·.1)).Nodup := by obtain ⟨_, _, _, _, _, _, hn⟩ := id hod; exact hn
  refine Halt.mk (kdt_tail (knd := strKind PR w) N (.head _) hod (kdt_getItem (knd := strKind PR w) N (.head _) hod (strKind_is _ _ _ _) (valueAt_of_get hnd hV) ?_))
  have hrl : (S (replyL l i)).length ≤ 7000 := by
    rw [S_len]
    have h1 := replyL_len l i
    omega
  (repeat' ((fail_if_success (with_reducible show Fin2 _ _ _)); (fail_if_success (with_reducible show Halt _)); (first | (k_unfold; (try dsimp only)) | walk1 | (dsimp only; walk1))))
  refine Halt.mk (wpAny_with_toks (n := 1) (by show 1 ≤ s.toks + 1; omega) (c_parse (law_amb X T F hdp hun) (by omega) (by rw [S_len]; exact reply_len5 l i) (is257 l i hl2) (reply_q l i) ?_))
  intro r t1 h1 tk1 hr hk1 ht1
  have ht1' : 1 ≤ tk1 := ht1
  have er : r = S l := S_ext (by rw [hr, S_list, S_list, reply_257])
  subst er
  have F1 := fr_tn F (Tn.of_ext hk1)
  have N1 := news_tn N (Tn.of_ext hk1)
  clear F N
  (repeat' ((fail_if_success (with_reducible show Fin2 _ _ _)); (fail_if_success (with_reducible show Halt _)); (first | (k_unfold; (try dsimp only)) | walk1 | (dsimp only; walk1))))
  refine h t1 _ _ (by show 1 ≤ tk1 + 1; omega) ?_ (by assumption)
  rw [hme]; assumption

theorem b1 {us : Array Value} {l : List Nat} {i nS : Nat} {t tI tS : Tok} {nw : List (Addr × Obj)} {oL : Obj} (X : (hd.heap_39 w.params).In base) (T : Top hd.view_39 (looseW hd.view_39 []) mean mg mb base)
    (F : Fr base L s.heap m) (hmi : m (Str.ofString "inner") = some (.str (S l) tI)) (hmk : m (Str.ofString "k") = some (.int i t)) (N : News base L s.heap ([(aS, W.listOf us nS), (L + 1, oL)] ++ nw)) (hoL : oL.data = .cell (some (.ref aS)))
    (hi : i < 20) (hS : us[i]? = some (.str (S l) tS))
    (h : ∀ h' tk, Fr base L h' m → News base L h' ([(aS, W.listOf us nS), (L + 1, oL)] ++ nw) → Q .next { s with heap := h', toks := tk }) :
    wpAny (model PR w) (AR dp un gd [lawEnv L fa cd]) (exec (bst 1) (lawEnv L fa cd)) Q E s := by
  change wpAny _ _ (exec (Stmt.If _ _ [] _) _) _ _ _
  have hme : m = fun y => if y = Str.ofString "k" then some (.int i t) else if y = Str.ofString "inner" then some (.str (S l) tI) else m y := (map_eta hmk).trans (by funext y; split <;> first | rfl | exact congrFun (map_eta hmi) y)
  rw [hme] at F
  (repeat' ((fail_if_success (with_reducible show Fin2 _ _ _)); (fail_if_success (with_reducible show Halt _)); (first | (k_unfold; (try dsimp only)) | walk1 | (dsimp only; walk1))))
  refine Halt.mk (item_lit N (List.Mem.head _) (by omega) (by omega) (v := .str (S l) tS) (by simpa using hS) ?_)
  (repeat' ((fail_if_success (with_reducible show Fin2 _ _ _)); (fail_if_success (with_reducible show Halt _)); (first | (k_unfold; (try dsimp only)) | walk1 | (dsimp only; walk1))))
  · exfalso
    rename (S l != S l) = true => hc
    simp at hc
  · refine h _ _ ?_ (by assumption)
    rw [hme]; assumption

theorem b2 {g : List (List Nat)} {tI : Tok} {nw : List (Addr × Obj)} (X : (hd.heap_39 w.params).In base) (T : Top hd.view_39 (looseW hd.view_39 []) mean mg mb base) (hdp : dp < 400) (hun : un < 400)
    (F : Fr base L s.heap m) (hmi : m (Str.ofString "inner") = some (.str (S (listL g)) tI)) (N : News base L s.heap nw) (hl : (listL g).length ≤ 3000)
    (h : ∀ aR ys n h' tk, Fr base L h' (fun y => if y = Str.ofString "replies" then some (.ref aR) else m y) → News base L h' ((aR, W.listOf ys n) :: nw) → StrsAre ys.toList ((repsL g).map S) → Q .next { s with heap := h', toks := tk }) :
    wpAny (model PR w) (AR dp un gd [lawEnv L fa cd]) (exec (bst 2) (lawEnv L fa cd)) Q E s := by
  change wpAny _ _ (exec (Stmt.Assign _ _ _) _) _ _ _
  have hme : m = fun y => if y = Str.ofString "inner" then some (.str (S (listL g)) tI) else m y := map_eta hmi
  rw [hme] at F
  (repeat' ((fail_if_success (with_reducible show Fin2 _ _ _)); (fail_if_success (with_reducible show Halt _)); (first | (k_unfold; (try dsimp only)) | walk1 | (dsimp only; walk1))))
  refine Halt.mk (c_http (law_amb X T F hdp hun) (by rw [S_len]; omega) ?_)
  intro D ys rs h1 tk1 hD hlst hS ws hws hrs hk
  rw [S_list] at hws
  rw [http_list hws] at hrs
  subst hrs
  have F1 := fr_tn F (Tn.of_ext hk)
  have N0 := news_tn N (Tn.of_ext hk)
  obtain ⟨nD, hDo⟩ := hlst
  obtain ⟨oLf, _, _, hoLf, _⟩ := id F.ns
  have N1 : News base L h1 ((D, W.listOf ys nD) :: nw) := fun p hp => by
    rcases List.mem_cons.mp hp with rfl | hp
    · refine ⟨hDo, fun q => ?_, ?_⟩
      · have : D = L := q
        rw [this, hoLf] at hD; cases hD
      · cases q : base.get? D with
        | none => rfl
        | some o => have := F.keep D o q; rw [hD] at this; cases this
    · exact N0 p hp
  clear F N
  (repeat' ((fail_if_success (with_reducible show Fin2 _ _ _)); (fail_if_success (with_reducible show Halt _)); (first | (k_unfold; (try dsimp only)) | walk1 | (dsimp only; walk1))))
  refine h D ys nD _ _ ?_ (by assumption) hS
  rw [hme]; assumption

theorem b3 {rs : List Value} {i nG : Nat} {t : Tok} {aN : Addr} {nw : List (Addr × Obj)} (X : (hd.heap_39 w.params).In base) (T : Top hd.view_39 (looseW hd.view_39 []) mean mg mb base)
    (F : Fr base L s.heap m) (hmk : m (Str.ofString "k") = some (.int i t)) (hmg : m (Str.ofString "groups") = some (.ref aG)) (N : News base L s.heap ((aG, W.listOf rs.toArray nG) :: nw)) 
    (hi : i < 20) (hG : rs[i]? = some (.ref aN))
    (h : ∀ h' tk, Fr base L h' (fun y => if y = Str.ofString "names" then some (.ref aN) else m y) → News base L h' ((aG, W.listOf rs.toArray nG) :: nw) → Q .next { s with heap := h', toks := tk }) :
    wpAny (model PR w) (AR dp un gd [lawEnv L fa cd]) (exec (bst 3) (lawEnv L fa cd)) Q E s := by
  change wpAny _ _ (exec (Stmt.Assign _ _ _) _) _ _ _
  have hme : m = fun y => if y = Str.ofString "k" then some (.int i t) else if y = Str.ofString "groups" then some (.ref aG) else m y := (map_eta hmk).trans (by funext y; split <;> first | rfl | exact congrFun (map_eta hmg) y)
  rw [hme] at F
  (repeat' ((fail_if_success (with_reducible show Fin2 _ _ _)); (fail_if_success (with_reducible show Halt _)); (first | (k_unfold; (try dsimp only)) | walk1 | (dsimp only; walk1))))
  refine Halt.mk (item_lit N (List.Mem.head _) (by omega) (by omega) (v := .ref aN) (by simpa using hG) ?_)
  (repeat' ((fail_if_success (with_reducible show Fin2 _ _ _)); (fail_if_success (with_reducible show Halt _)); (first | (k_unfold; (try dsimp only)) | walk1 | (dsimp only; walk1))))
  refine h _ _ ?_ (by assumption)
  rw [hme]; assumption
end Mine
end

/-! CW -/
section
open PySem PySem.W PyProof.Rows PySem.Calls
set_option maxRecDepth 100000
set_option maxHeartbeats 400000
namespace Mine
section
variable {prog : Program} {w : World} {A : Around} {E : Value → Shared → Prop} {s : Shared} {env : Env} {scope : Scope} {cl : List (Str × Addr)}

/-- as CompAt, for a comprehension whose value is put into a name at once -/
def CompAtU (prog : Program) (w : World) (A : Around) (elt target : Expr) (scope : Scope) (cl : List (Str × Addr)) (env : Env) (R : Addr → Value → Shared → Prop) (it : Value) (s : Shared) : Prop :=
  ∃ (I : Addr) (fp wr : List Addr) (n : Nat) (Bd : Nat → (Str → Option Value) → Prop) (St : Nat → Heap → Prop) (Inv : Addr → Addr → Nat → List Value → Heap → Prop),
    it = .ref I ∧ Src prog w A I fp wr n target scope cl env Bd St ∧ n ≤ sizeLine ∧ St 0 s.heap ∧ (∀ b ∈ fp, b < s.heap.objs.size) ∧ 1 ≤ s.toks ∧
    (∀ C D i ys h h', s.heap.objs.size ≤ C → s.heap.objs.size ≤ D → Inv C D i ys h → (∀ b o, b ∉ wr → b ≠ C → b ≠ D → h.get? b = some o → h'.get? b = some o) → Inv C D i ys h') ∧
    (∀ C D, s.heap.objs.size ≤ C → s.heap.objs.size ≤ D → Inv C D 0 [] s.heap) ∧
    (∀ C D i ys s₃ m₃ E', s.heap.objs.size ≤ C → s.heap.objs.size ≤ D → i < n → ys.length = i → Inv C D i ys s₃.heap → s₃.heap.Ns C m₃ → Bd i m₃ → (∃ oD, s₃.heap.get? D = some oD) → (∀ b ∈ fp, ∃ o, s₃.heap.get? b = some o) → 1 ≤ s₃.toks →
      wpAny (model prog w) A (eval elt (compEnvC scope cl C env)) (fun y s₄ => ∃ h' tk, s₄ = { s₃ with heap := h', toks := tk } ∧ Inv C D (i + 1) (ys ++ [y]) h' ∧ (∀ b o, b = C ∨ b = D ∨ b ∈ fp → s₃.heap.get? b = some o → h'.get? b = some o)) E' s₃) ∧
    (∀ i h, St i h → ∀ b ∈ fp, ∃ o, h.get? b = some o) ∧
    (∀ C D h' tk ys m', s.heap.objs.size ≤ C → s.heap.objs.size ≤ D → D ≠ C → h'.Ns C m' → h'.PlainList D ys → ys.toList.length = n → Inv C D n ys.toList h' → 1 ≤ tk → R C (.ref D) { s with heap := h', toks := tk })

theorem comp_assign {elt target iter : Expr} {pos py spos : Pos} {y : Str} {Q : Flow → Shared → Prop}
    (hsw : swapsWith (.ListComp elt [⟨target, iter, [], 0⟩] scope pos) (some (.Name y py)) spos.line env = pure true)
    (hclos : closureFor scope env = pure cl) (hcell : ∀ y ∈ scope.names, y.2 ≠ .cell) (hkind : scope.kind = .function) (hnames : ∀ y ∈ scope.names, y.2 = .local → scope.names.lookup y.1 = some .local)
    (h : wpAny (model prog w) A (eval iter env) (fun xv s₁ => wpAny (model prog w) A (pyIter xv) (fun it s₂ => CompAtU prog w A elt target scope cl env
      (fun C acc s' => wpAny (model prog w) A (assign (.Name y py) env acc) (fun _ s'' => ∃ m, s''.heap.Ns C m ∧ ∀ h', Heap.SameBut C s''.heap h' → Q .next { s'' with heap := h' }) E s') it s₂) E s₁) E s)
    (hs : ∀ x, foldedSetIterable iter env x = pure x) :
    wpAny (model prog w) A (exec (.Assign [.Name y py] (.ListComp elt [⟨target, iter, [], 0⟩] scope pos) spos) env) Q E s := by
  rw [exec_Assign_Name_used _ _ _ _ hsw]
  refine wpAny_bind (wpAny_standAt (wpAny_bind ?_))
  show wpAny _ A (do let _ ← comprehension (.ListComp elt [⟨target, iter, [], 0⟩] scope pos) scope env _ (newList []) false (eval iter env) (some (assign (.Name y py) env))) _ _ s
  refine wpAny_bind (wpAny_mono (wpAny_comprehension_free (Q := fun _ s' => Q .next s') (use := some (assign (.Name y py) env)) rfl hs hclos hkind hnames (wpAny_mono h (fun xv s₁ h₁ => wpAny_mono h₁ (fun it s₂ h₂ => ?_) fun _ _ e => e) fun _ _ e => e))
    (fun _ s' hq => wpAny_pure (wpAny_pure hq)) fun _ _ e => e)
  obtain ⟨I, fp, wr, n, Bd, St, Inv, rfl, W, hsz, hst, hfp, htk, hinv, h0, helt, hfpo, hQ⟩ := h₂
  refine comp_block (RR := fun acc C => compPost (model prog w) A E (some (assign (.Name y py) env)) (fun _ s' => Q .next s') acc C) W hsz Inv hcell hkind hst hfp htk hinv h0 helt hfpo ?_
  intro D C h' tk m' ys hD hC hDC hn hpl hlen hI ht
  exact hQ C D h' tk ys m' hC hD hDC hn hpl hlen hI ht

/-- as compAt_tn, its end with the frame of the comprehension -/
theorem compAt_tnU {elt target : Expr} {R : Addr → Value → Shared → Prop} {I : Addr} {fp wr : List Addr} {n : Nat} {Bd : Nat → (Str → Option Value) → Prop} {St : Nat → Heap → Prop}
    (fs : List Addr) (hB : Heap) (P : Nat → Value → Prop) (PO : Nat → Obj → Prop)
    (W : Src prog w A I fp wr n target scope cl env Bd St) (hsz : n ≤ sizeLine) (hst : St 0 s.heap) (hfp : ∀ b ∈ fp, b < s.heap.objs.size) (htk : 1 ≤ s.toks)
    (hext : Ext hB s.heap) (hwr : ∀ b ∈ wr, hB.get? b = none) (hfpo : ∀ i h, St i h → ∀ b ∈ fp, ∃ o, h.get? b = some o) (hfs : ∀ b ∈ fs, (∃ o, hB.get? b = some o) ∧ b ∉ fp)
    (helt : ∀ C i s₃ m₃ E', i < n → s.heap.objs.size ≤ C → Tn fs hB s₃.heap → s₃.heap.Ns C m₃ → Bd i m₃ → 1 ≤ s₃.toks →
      wpAny (model prog w) A (eval elt (compEnvC scope cl C env)) (fun y s₄ => ∃ h' tk, s₄ = { s₃ with heap := h', toks := tk } ∧ Tn fs s₃.heap h' ∧ (P i y ∨ ∃ T o, y = .ref T ∧ s₃.heap.get? T = none ∧ h'.get? T = some o ∧ PO i o)) E' s₃)
    (hQ : ∀ C D h' tk ys m', s.heap.objs.size ≤ C → s.heap.objs.size ≤ D → D ≠ C → h'.Ns C m' → h'.PlainList D ys → ys.toList.length = n → (∀ j y, ys.toList[j]? = some y → P j y ∨ ∃ T o, y = .ref T ∧ T ≠ C ∧ T ≠ D ∧ hB.get? T = none ∧ h'.get? T = some o ∧ PO j o) → Tn fs hB h' → 1 ≤ tk → R C (.ref D) { s with heap := h', toks := tk }) :
    CompAtU prog w A elt target scope cl env R (.ref I) s := by
  have hBlt : ∀ b o, hB.get? b = some o → b < s.heap.objs.size := fun b o e => Heap.lt_size (hext b o e)
  refine ⟨I, fp, wr, n, Bd, St, fun C D i ys h => Tn fs hB h ∧ ∀ j y, ys[j]? = some y → P j y ∨ ∃ T o, y = .ref T ∧ T ≠ C ∧ T ≠ D ∧ T ∉ wr ∧ hB.get? T = none ∧ h.get? T = some o ∧ PO j o, rfl, W, hsz, hst, hfp, htk, ?_, ?_, ?_, hfpo, ?_⟩
  · rintro C D i ys h h' hC hD ⟨ht, hy⟩ hk
    refine ⟨⟨fun b o e hb => hk b o (fun hm => ?_) (fun q => ?_) (fun q => ?_) (ht.1 b o e hb), fun b o e hb => ?_⟩, fun j y hj => ?_⟩
    · rw [hwr b hm] at e; cases e
    · exact absurd (hBlt b o e) (by rw [q]; exact Nat.not_lt.mpr hC)
    · exact absurd (hBlt b o e) (by rw [q]; exact Nat.not_lt.mpr hD)
    · obtain ⟨sl, hs⟩ := ht.2 b o e hb
      refine ⟨sl, hk b _ (fun hm => ?_) (fun q => ?_) (fun q => ?_) hs⟩
      · rw [hwr b hm] at e; cases e
      · exact absurd (hBlt b o e) (by rw [q]; exact Nat.not_lt.mpr hC)
      · exact absurd (hBlt b o e) (by rw [q]; exact Nat.not_lt.mpr hD)
    · rcases hy j y hj with hp | ⟨T, o, e, h1, h2, h3, h4, h5, h6⟩
      · exact .inl hp
      · exact .inr ⟨T, o, e, h1, h2, h3, h4, hk T o h3 h1 h2 h5, h6⟩
  · exact fun C D _ _ => ⟨Tn.of_ext hext, fun j y hj => by simp at hj⟩
  · rintro C D i ys s₃ m₃ E' hC hD hi hyl ⟨ht, hy⟩ hn hb hDo hfo ht3
    refine wpAny_mono (helt C i s₃ m₃ E' hi hC ht hn hb ht3) (fun y s₄ h₄ => ?_) fun _ _ e => e
    obtain ⟨h', tk, rfl, htn, hv⟩ := h₄
    refine ⟨h', tk, rfl, ⟨ht.trans htn, fun j y' hj => ?_⟩, fun b o hb' e => htn.1 b o e fun hm => ?_⟩
    · rcases Nat.lt_or_ge j ys.length with hlt | hge
      · rw [List.getElem?_append_left hlt] at hj
        rcases hy j y' hj with hp | ⟨T, o, e, h1, h2, h3, h4, h5, h6⟩
        · exact .inl hp
        · refine .inr ⟨T, o, e, h1, h2, h3, h4, htn.1 T o h5 (fun hm => ?_), h6⟩
          obtain ⟨⟨o', ho'⟩, _⟩ := hfs T hm
          rw [h4] at ho'; cases ho'
      · rw [List.getElem?_append_right hge] at hj
        have hj0 : j - ys.length = 0 := by
          rcases Nat.eq_zero_or_pos (j - ys.length) with h | h
          · exact h
          · rw [List.getElem?_eq_none (by simp only [List.length_singleton]; exact h)] at hj; cases hj
        have hjl : j = i := by omega
        rw [hj0] at hj
        obtain rfl : y = y' := by simpa using hj
        rcases hv with hp | ⟨T, o, e, h1, h2, h3⟩
        · exact .inl (hjl ▸ hp)
        · refine .inr ⟨T, o, e, fun q => ?_, fun q => ?_, fun hm => ?_, ?_, h2, hjl ▸ h3⟩
          · obtain ⟨oC, _, _, hoC, _⟩ := hn
            rw [← q, h1] at hoC; cases hoC
          · obtain ⟨oD, hoD⟩ := hDo
            rw [← q, h1] at hoD; cases hoD
          · obtain ⟨o', ho'⟩ := hfo T (W.sub T hm)
            rw [h1] at ho'; cases ho'
          · cases q : hB.get? T with
            | none => rfl
            | some o' =>
              by_cases hm : T ∈ fs
              · obtain ⟨sl, hs⟩ := ht.2 T o' q hm; rw [h1] at hs; cases hs
              · have := ht.1 T o' q hm; rw [h1] at this; cases this
    · obtain ⟨⟨o', ho'⟩, hnf⟩ := hfs b hm
      rcases hb' with rfl | rfl | hb'
      · exact absurd (hBlt _ o' ho') (Nat.not_lt.mpr hC)
      · exact absurd (hBlt _ o' ho') (Nat.not_lt.mpr hD)
      · exact hnf hb'
  · rintro C D h' tk ys m' hC hD hDC hn hpl hlen ⟨ht, hy⟩ ht1
    exact hQ C D h' tk ys m' hC hD hDC hn hpl hlen (fun j y hj => (hy j y hj).imp id fun ⟨T, o, e, h1, h2, _, h4, h5, h6⟩ => ⟨T, o, e, h1, h2, h4, h5, h6⟩) ht ht1
end
end Mine
end

section
local macro_rules | `(tactic| walk_at "pad") => `(tactic| fail "pad")
local macro_rules | `(tactic| walk_at "pad") => `(tactic| fail "pad")
local macro_rules | `(tactic| walk_at "pad") => `(tactic| fail "pad")
local macro_rules | `(tactic| walk_at "pad") => `(tactic| fail "pad")
local macro_rules | `(tactic| walk_at "pad") => `(tactic| fail "pad")
local macro_rules | `(tactic| walk_at "pad") => `(tactic| fail "pad")
local macro_rules | `(tactic| walk_at "pad") => `(tactic| fail "pad")
local macro_rules | `(tactic| walk_at "pad") => `(tactic| fail "pad")
local macro_rules | `(tactic| walk_at "pad") => `(tactic| fail "pad")
local macro_rules | `(tactic| walk_at "pad") => `(tactic| fail "pad")
local macro_rules | `(tactic| walk_at "pad") => `(tactic| fail "pad")
local macro_rules | `(tactic| walk_at "pad") => `(tactic| fail "pad")
local macro_rules | `(tactic| walk_at "pad") => `(tactic| fail "pad")
local macro_rules | `(tactic| walk_at "pad") => `(tactic| fail "pad")
theorem Mine.freshLS10 : True ∧ True := by
  w_top off
  walk1
  all_goals exact True.intro
end

/-! LS10 -/
section
open PySem PySem.W PyProof.Rows PySem.Calls PySem.SeqAt
set_option maxRecDepth 100000
set_option maxHeartbeats 400000
namespace Mine
open StrLaws (dbl)
theorem filledL10 : ∀ (p : Params), hd.heap_39 p = hd.heap_39 p ∧ PySem.Challenge.rw_mj0093_01 = PySem.Challenge.rw_mj0093_01 := by
  k_fill; exact fun _ => ⟨rfl, rfl⟩
variable {w : World} {dp un : Nat} {gd : Option (List Code)} {base : Heap} {mean : ExcName → Option Value} {mg mb : Str → Option Value} {s : Shared} {Q : Flow → Shared → Prop} {E : Value → Shared → Prop} {L fa aR aN : Addr} {cd : Value} {m : Str → Option Value}
local macro_rules | `(tactic| walk_at "eval ListComp") => `(tactic| (refine halt ?_))
local macro_rules | `(tactic| walk_at "pyIter ref") => `(tactic| (refine halt ?_))
local macro_rules | `(tactic| walk_at "call ref") => `(tactic| (refine halt ?_))
local macro_rules | `(tactic| walk_at "call type:enumerate") => `(tactic| (refine halt ?_))
local macro_rules | `(tactic| walk_at "call type:zip") => `(tactic| (refine halt ?_))
local macro_rules | `(tactic| walk_at "subscriptTail Name Slice str ref") => `(tactic| (refine halt ?_))
local macro_rules | `(tactic| walk_at "newTuple") => `(tactic| (refine halt ?_))
local macro_rules | `(tactic| walk_at "compareOp NotEq ref ref") => `(tactic| (refine halt ?_))
theorem slice_ext {prog : Program} {A : Around} {value slice : Expr} {x : Str} {t uj : Tok} {j : Int} {h₀ : Heap} {C : Addr} {Q E : Value → Shared → Prop} (hF : Fr h₀ C s.heap m) (h : ∀ h' t' k, Fr h₀ C h' m → Ext s.heap h' → Q (.str (Txt.slice x none (some j)) t') { s with heap := h', toks := k })
    (hs : subscripted slice false (.str x t) (.ref s.heap.objs.size) = operate [.ref s.heap.objs.size, .str x t] (getItem (.str x t) (.ref s.heap.objs.size)))
    (ht : ∀ r, letTemporaryGo value (.str x t) r = pure ()) (hsz : x.length ≤ sizeLine) :
    wpAny (model prog w) A (subscriptTail value slice (.str x t) (.ref s.heap.objs.size)) Q E { s with heap := s.heap.push { cls := .type "slice", data := .fields #[.none, .int j uj, .none] } } :=
  tail_of_ItemOn (SBH.sliceItem_ns (P := fun h' => Fr h₀ C h' m ∧ Ext s.heap h') (fun _ ob a => ⟨Fr.pushS a.1 ob, fun b o e => Heap.get?_push_of_some _ (a.2 b o e)⟩) ⟨hF, fun _ _ e => e⟩ (fun h' t' k a => h h' t' k a.1 a.2) hsz) hs ht
theorem news_up {h h' : Heap} {nw nw' : List (Addr × Obj)} (N : News base L h nw) (hs : ∀ p ∈ nw', p ∈ nw) : News base L h nw' := fun p hp => N p (hs p hp)

theorem b4 {g : List (List Nat)} {ys us : Array Value} {nR n : Nat} {nw : List (Addr × Obj)} (htk : 1 ≤ s.toks) (X : (hd.heap_39 w.params).In base) (T : Top hd.view_39 (looseW hd.view_39 []) mean mg mb base) (hdp : dp < 400) (hun : un < 400)
    (F : Fr base L s.heap m) (hmr : m (Str.ofString "replies") = some (.ref aR)) (hmn : m (Str.ofString "names") = some (.ref aN)) (N : News base L s.heap ([(aR, W.listOf ys nR), (aN, W.listOf us n)] ++ nw))
    (hY : StrsAre ys.toList ((repsL g).map S)) (hS : StrsAre us.toList (g.map S)) (hg : g.length ≤ 20) (hgn : ∀ nm ∈ g, nm.length ≤ 20) (hok : ∀ nm ∈ g, OkL nm)
    (h : ∀ h' tk, Fr base L h' m → News base L h' ([(aR, W.listOf ys nR), (aN, W.listOf us n)] ++ nw) → Q .next { s with heap := h', toks := tk }) :
    wpAny (model PR w) (AR dp un gd [lawEnv L fa cd]) (exec (bst 4) (lawEnv L fa cd)) Q E s := by
  change wpAny _ _ (exec (Stmt.If _ _ [] _) _) _ _ _
  have hme : m = fun y => if y = Str.ofString "replies" then some (.ref aR) else if y = Str.ofString "names" then some (.ref aN) else m y := (map_eta hmr).trans (by funext y; split <;> first | rfl | exact congrFun (map_eta hmn) y)
  rw [hme] at F
  (repeat' ((fail_if_success (with_reducible show Fin2 _ _ _)); (fail_if_success (with_reducible show Halt _)); (first | (k_unfold; (try dsimp only)) | walk1 | (dsimp only; walk1))))
  have hla : s.heap.IsList aN us := ⟨_, (N _ (.tail _ (.head _))).1, rfl, _, rfl⟩
  have hRR : ∃ as, Reads s.heap (.ref aR) (.list (((repsL g).map S).map PyData.str)) as := ⟨_, reads_list_at (N _ (.head _)).1 rfl rfl (reads_strs hY)⟩
  obtain ⟨ar, hRR⟩ := hRR
  have hul : us.size = g.length := by have := hS.len_eq; simpa using this
  refine Halt.mk (comp_eval (closureFor_none (by decide)) (by decide) rfl (by decide) ?_ (fun _ => rfl))
  (repeat' ((fail_if_success (with_reducible show Fin2 _ _ _)); (fail_if_success (with_reducible show Halt _)); (first | (k_unfold; (try dsimp only)) | walk1 | (dsimp only; walk1))))
  refine Halt.mk (call_enumerate_list hla ?_)
  intro h1 he hit hsz1 hk1
  refine wpAny_pyIter_enum he ?_
  have hla1 : h1.IsList aN us := hla.at fun o e => hk1 _ o e
  have halt : aN < s.heap.objs.size := let ⟨_, e, _⟩ := hla; Heap.lt_size e
  have W1 := (WalksT.enumerate (prog := PR) (w := w) (A := AR dp un gd [lawEnv L fa cd]) rfl (s.heap.objs.size + 1) s.heap.objs.size aN (Nat.succ_ne_self _) (Nat.ne_of_lt (Nat.lt_succ_of_lt halt)) (Nat.ne_of_lt halt) us).toU
  refine compAt_tn [] s.heap (fun i y => ∃ t, y = .str (S (replyL (g.getD i []) i)) t) (fun _ _ => False) (Src.pair rfl W1 ?pair rfl rfl rfl (by decide)) ?sz ⟨⟨_, he⟩, hit, hla1⟩ ?fp ?tk (fun b o e => hk1 b o e) ?wr ?fpo (fun _ hm => nomatch hm) ?elt ?q
  case pair => rintro i vals ⟨t, x, _, rfl⟩; exact ⟨_, _, rfl⟩
  case sz => rw [sizeLine_eq]; omega
  case tk => exact htk
  case fp =>
    intro b hb
    have hz : h1.objs.size = s.heap.objs.size + 2 := hsz1
    show b < h1.objs.size
    rw [hz]
    simp at hb
    rcases hb with rfl | rfl | rfl
    · exact Nat.lt_succ_self _
    · exact Nat.lt_succ_of_lt (Nat.lt_succ_self _)
    · exact Nat.lt_succ_of_lt (Nat.lt_succ_of_lt halt)
  case wr =>
    intro b hb
    simp at hb
    rcases hb with rfl | rfl
    · exact fresh_at (Nat.le_succ _)
    · exact fresh_at (Nat.le_refl _)
  case fpo =>
    rintro i h' ⟨⟨old, ho⟩, ⟨o2, ho2, _⟩, ⟨o3, ho3, _⟩⟩ b hb
    simp at hb
    rcases hb with rfl | rfl | rfl
    · exact ⟨_, ho⟩
    · exact ⟨_, ho2⟩
    · exact ⟨_, ho3⟩
  case elt =>
    rintro C i s₃ m₃ E' hi hC htn hns ⟨v₁, v₂, ⟨t, x, hx, hvals⟩, hk, hnm⟩ ht3
    have hgi : i < g.length := by rw [← hul]; exact hi
    obtain ⟨rfl, rfl⟩ : v₁ = .int i t ∧ v₂ = x := by simpa using hvals
    obtain ⟨nm', tt, rfl, hnm'⟩ := hS.item i v₂ (by simpa using hx)
    have hnmi : nm' = S g[i] := by
      rw [List.getElem?_map, List.getElem?_eq_getElem hgi] at hnm'
      exact (Option.some.inj hnm').symm
    have hgd : g.getD i [] = g[i] := by simp [hgi]
    have hnl : nm'.length ≤ 20 := by rw [hnmi, S_len]; exact hgn _ (List.getElem_mem hgi)
    have hke : Ext s.heap s₃.heap := htn.ext
    have F3 : Fr base L s₃.heap _ := fr_tn F (Tn.of_ext hke)
    have F6 : Fr s.heap C s₃.heap (fun y => if y = Str.ofString "j" then some (.int i t) else if y = Str.ofString "name" then some (.str nm' tt) else m₃ y) := by
      have e1 := map_eta hnm
      have e2 : m₃ = fun y => if y = Str.ofString "j" then some (.int i t) else if y = Str.ofString "name" then some (.str nm' tt) else m₃ y := by
        funext y
        by_cases h1 : y = Str.ofString "j"
        · rw [if_pos h1, h1, hk]
        · rw [if_neg h1]; exact congrFun e1 y
      rw [← e2]
      exact ⟨hns, hke, Nat.le_trans (by show s.heap.objs.size ≤ h1.objs.size; rw [show h1.objs.size = s.heap.objs.size + 2 from hsz1]; exact Nat.le_add_right _ 2) hC⟩
    have X3 := X.keeps F.keep
    have T3 := T.keeps F.keep
    clear h
    (repeat' ((fail_if_success (with_reducible show Fin2 _ _ _)); (fail_if_success (with_reducible show Halt _)); (first | (k_unfold; (try dsimp only)) | walk1 | (dsimp only; walk1))))
    (all_goals (try k_data))
    refine Halt.mk (c_reply (law_amb X T F3 hdp hun) ht3 (by omega) (by omega) (by omega) ?_)
    intro t5 h5 tk5 hk5
    rw [hnmi, reply_eq]
    exact ⟨h5, tk5, rfl, Tn.of_ext hk5, .inl ⟨t5, by rw [hgd]⟩⟩
  case q =>
    intro D h' tk zs hD hpl hlen hv htn htk'
    have hke : Ext s.heap h' := htn.ext
    have F2 := fr_tn F (Tn.of_ext hke)
    have N2 := news_tn N (Tn.of_ext hke)
    have hzs : StrsAre zs.toList ((repsL g).map S) := by
      refine strs_of_places (by rw [hlen]; simp [repsL, hul]) fun j y hj => ?_
      rcases hv j y hj with ⟨t, rfl⟩ | ⟨_, _, _, _, _, _, hf⟩
      · have hjl : j < g.length := by
          have := (List.getElem?_eq_some_iff.mp hj).1
          rw [hlen] at this
          omega
        refine ⟨_, t, rfl, ?_⟩
        simp [repsL, hjl]
      · exact hf.elim
    obtain ⟨nD, hDo⟩ := hpl
    clear F N
    (repeat' ((fail_if_success (with_reducible show Fin2 _ _ _)); (fail_if_success (with_reducible show Halt _)); (first | (k_unfold; (try dsimp only)) | walk1 | (dsimp only; walk1))))
    refine Halt.mk (ne_same (PyProof.Rows.Reads.keeps hke hRR) (reads_list_at hDo rfl rfl (reads_strs hzs)) (shaped_strs (ok_reps hok)) hun ?_)
    (repeat' ((fail_if_success (with_reducible show Fin2 _ _ _)); (fail_if_success (with_reducible show Halt _)); (first | (k_unfold; (try dsimp only)) | walk1 | (dsimp only; walk1))))
    exact h _ _ (by rw [hme]; assumption) (by assumption)

def refusedL : List Nat := [114, 101, 102, 117, 115, 101, 100]
theorem refused_is : Str.ofString "refused" = S refusedL := by decide +kernel
def DueP (g : List (List Nat)) (j : Nat) (y : Value) : Prop := (g.getD j []).getLast? ≠ some 61 ∧ ∃ t, y = .str (S (g.getD j [])) t
def DueO (g : List (List Nat)) (j : Nat) (o : Obj) : Prop := (g.getD j []).getLast? = some 61 ∧ o.cls = .type "tuple" ∧ ∃ t1 t2 n, o.data = .seq #[.str (S refusedL) t1, .str (S (replyL (g.getD j []) j)) t2] n
def dueD (g : List (List Nat)) : List PyData := g.zipIdx.map fun p => if p.1.getLast? = some 61 then .tuple [.str (S refusedL), .str (S (replyL p.1 p.2))] else .str (S p.1)
theorem due_len (g : List (List Nat)) : (dueD g).length = g.length := by simp [dueD]
theorem due_at {g : List (List Nat)} {j : Nat} (hj : j < g.length) : (dueD g)[j]? = some (if (g.getD j []).getLast? = some 61 then .tuple [.str (S refusedL), .str (S (replyL (g.getD j []) j))] else .str (S (g.getD j []))) := by
  simp [dueD, hj]
theorem due_reads {h : Heap} {g : List (List Nat)} {j : Nat} {y : Value} {d : PyData} (hj : j < g.length) (hd : (dueD g)[j]? = some d) (hy : DueP g j y ∨ ∃ T o, y = .ref T ∧ h.get? T = some o ∧ DueO g j o) : ∃ as, Reads h y d as := by
  rw [due_at hj] at hd
  have e := (Option.some.inj hd).symm
  rcases hy with ⟨h1, t, rfl⟩ | ⟨T, o, rfl, ho, h1, hc, t1, t2, n, hd'⟩
  · rw [if_neg h1] at e
    rw [e]; exact ⟨_, .str _ t⟩
  · rw [if_pos h1] at e
    rw [e]; exact reads_pair ho hc hd'
theorem due_shaped {g : List (List Nat)} (hok : ∀ nm ∈ g, OkL nm) : shaped (.list (dueD g)) = true := by
  have mem : ∀ d ∈ dueD g, ∃ l k, l ∈ g ∧ d = if l.getLast? = some 61 then PyData.tuple [.str (S refusedL), .str (S (replyL l k))] else .str (S l) := by
    intro d hd
    obtain ⟨⟨l, k⟩, hq, rfl⟩ := List.mem_map.mp hd
    have h2 := List.mem_map_of_mem (f := Prod.fst) hq
    exact ⟨l, k, by simpa using h2, rfl⟩
  refine shaped_list (fun d hd => ?_) (fun d hd => ?_)
  all_goals
    obtain ⟨l, k, hl, rfl⟩ := mem d hd
    split
  · exact canLay_pair (ok_dec (by decide)) (ok_reply (hok l hl) k)
  · exact canLay_str (hok l hl)
  · exact depth_pair
  · simp only [PyData.depth]; omega

theorem b5 {g : List (List Nat)} {ys us : Array Value} {nR n : Nat} {nw : List (Addr × Obj)} (htk : 1 ≤ s.toks) (X : (hd.heap_39 w.params).In base) (T : Top hd.view_39 (looseW hd.view_39 []) mean mg mb base) (hdp : dp < 400) (hun : un < 400)
    (F : Fr base L s.heap m) (hmr : m (Str.ofString "replies") = some (.ref aR)) (hmn : m (Str.ofString "names") = some (.ref aN)) (N : News base L s.heap ([(aR, W.listOf ys nR), (aN, W.listOf us n)] ++ nw))
    (hY : StrsAre ys.toList ((repsL g).map S)) (hS : StrsAre us.toList (g.map S)) (hg : g.length ≤ 20) (hgn : ∀ nm ∈ g, nm.length ≤ 20)
    (h : ∀ aU vs nU tps h' tk, vs.size = g.length → (∀ (j : Nat) (y : Value), vs.toList[j]? = some y → DueP g j y ∨ ∃ T o, y = .ref T ∧ (T, o) ∈ tps ∧ DueO g j o) → Fr base L h' (fun y => if y = Str.ofString "due" then some (.ref aU) else m y) → News base L h' ((aU, W.listOf vs nU) :: (tps ++ ([(aR, W.listOf ys nR), (aN, W.listOf us n)] ++ nw))) → Q .next { s with heap := h', toks := tk }) :
    wpAny (model PR w) (AR dp un gd [lawEnv L fa cd]) (exec (bst 5) (lawEnv L fa cd)) Q E s := by
  change wpAny _ _ (exec (Stmt.Assign _ _ _) _) _ _ _
  have hme : m = fun y => if y = Str.ofString "replies" then some (.ref aR) else if y = Str.ofString "names" then some (.ref aN) else m y := (map_eta hmr).trans (by funext y; split <;> first | rfl | exact congrFun (map_eta hmn) y)
  rw [hme] at F
  have hlR : s.heap.IsList aR ys := ⟨_, (N _ (.head _)).1, rfl, _, rfl⟩
  have hlN : s.heap.IsList aN us := ⟨_, (N _ (.tail _ (.head _))).1, rfl, _, rfl⟩
  have hul : us.size = g.length := by have := hS.len_eq; simpa using this
  have hyl : ys.size = g.length := by have := hY.len_eq; simpa [repsL] using this
  refine comp_assign (by with_unfolding_all rfl) (closureFor_none (by decide)) (by decide) rfl (by decide) ?_ (fun _ => rfl)
  (repeat' ((fail_if_success (with_reducible show Fin2 _ _ _)); (fail_if_success (with_reducible show Halt _)); (first | (k_unfold; (try dsimp only)) | walk1 | (dsimp only; walk1))))
  refine Halt.mk (call_zip_2 hlR hlN ?_)
  intro h1 hz hTI hTO hi1 hi2 hsz1 hk1
  refine wpAny_pyIter_zip hz ?_
  have haR : aR < s.heap.objs.size := let ⟨_, e, _⟩ := hlR; Heap.lt_size e
  have haN : aN < s.heap.objs.size := let ⟨_, e, _⟩ := hlN; Heap.lt_size e
  have W1 := (WalksT.zip2 (prog := PR) (w := w) (A := AR dp un gd [lawEnv L fa cd]) rfl (s.heap.objs.size + 4) (s.heap.objs.size + 2) (s.heap.objs.size + 3) s.heap.objs.size (s.heap.objs.size + 1) aR aN (zipApart_new haR haN) ys us).toU
  have hmin : min ys.size us.size = g.length := by omega
  rw [hmin] at W1
  refine compAt_tnU [] s.heap (DueP g) (DueO g) (Src.pair rfl W1 ?pair rfl rfl rfl (by decide)) ?sz ⟨hz, hTI, ⟨_, _, hTO⟩, hi1, hi2, hlR.at fun o e => hk1 _ o e, hlN.at fun o e => hk1 _ o e⟩ ?fp htk (fun b o e => hk1 b o e) ?wr ?fpo (fun _ hm => nomatch hm) ?elt ?q
  case pair => rintro i vals ⟨x, y, _, _, rfl⟩; exact ⟨_, _, rfl⟩
  case sz => rw [sizeLine_eq]; omega
  case fp =>
    intro b hb
    have hz : h1.objs.size = s.heap.objs.size + 5 := hsz1
    show b < h1.objs.size
    rw [hz]
    simp only [List.mem_cons, List.not_mem_nil, or_false] at hb
    rcases hb with rfl | rfl | rfl | rfl | rfl | rfl | rfl
    · exact Nat.lt_succ_self _
    · exact Nat.add_lt_add_left (by decide) _
    · exact Nat.add_lt_add_left (by decide) _
    · exact Nat.lt_add_of_pos_right (by decide)
    · exact Nat.add_lt_add_left (by decide) _
    · exact Nat.lt_of_lt_of_le haR (Nat.le_add_right _ _)
    · exact Nat.lt_of_lt_of_le haN (Nat.le_add_right _ _)
  case wr =>
    intro b hb
    simp only [List.mem_cons, List.not_mem_nil, or_false] at hb
    rcases hb with rfl | rfl | rfl | rfl
    · exact fresh_at (Nat.le_add_right _ _)
    · exact fresh_at (Nat.le_add_right _ _)
    · exact fresh_at (Nat.le_refl _)
    · exact fresh_at (Nat.le_add_right _ _)
  case fpo =>
    rintro i h' ⟨o1, o2, ⟨_, _, o3⟩, ⟨o4, ho4, _⟩, ⟨o5, ho5, _⟩, ⟨o6, ho6, _⟩, ⟨o7, ho7, _⟩⟩ b hb
    simp only [List.mem_cons, List.not_mem_nil, or_false] at hb
    rcases hb with rfl | rfl | rfl | rfl | rfl | rfl | rfl
    · exact ⟨_, o1⟩
    · exact ⟨_, o2⟩
    · exact ⟨_, o3⟩
    · exact ⟨_, ho4⟩
    · exact ⟨_, ho5⟩
    · exact ⟨_, ho6⟩
    · exact ⟨_, ho7⟩
  case elt =>
    rintro C i s₃ m₃ E' hi hC htn hns ⟨v₁, v₂, ⟨x, y, hx, hy, hvals⟩, hk, hnm⟩ ht3
    obtain ⟨rfl, rfl⟩ : v₁ = x ∧ v₂ = y := by simpa using hvals
    obtain ⟨r', t1, rfl, hr'⟩ := hY.item i v₁ (by simpa using hx)
    obtain ⟨n', t2, rfl, hn'⟩ := hS.item i v₂ (by simpa using hy)
    have hr2 : r' = S (replyL g[i] i) := by
      have : ((repsL g).map S)[i]? = some (S (replyL g[i] i)) := by simp [repsL, hi]
      rw [this] at hr'; exact (Option.some.inj hr').symm
    have hn2 : n' = S g[i] := by
      rw [List.getElem?_map, List.getElem?_eq_getElem hi] at hn'
      exact (Option.some.inj hn').symm
    have hgd : g.getD i [] = g[i] := by simp [hi]
    have hrl : r'.length ≤ 1000 := by
      have h1 := replyL_len g[i] i
      have h2 := hgn _ (List.getElem_mem hi)
      rw [hr2, S_len]; omega
    have hke : Ext s.heap s₃.heap := htn.ext
    have F3 : Fr base L s₃.heap _ := fr_tn F (Tn.of_ext hke)
    have F6 : Fr s.heap C s₃.heap (fun y => if y = Str.ofString "reply" then some (.str r' t1) else if y = Str.ofString "name" then some (.str n' t2) else m₃ y) := by
      have e1 := map_eta hnm
      have e2 : m₃ = fun y => if y = Str.ofString "reply" then some (.str r' t1) else if y = Str.ofString "name" then some (.str n' t2) else m₃ y := by
        funext y
        by_cases h1 : y = Str.ofString "reply"
        · rw [if_pos h1, h1, hk]
        · rw [if_neg h1]; exact congrFun e1 y
      rw [← e2]
      exact ⟨hns, hke, Nat.le_trans (by show s.heap.objs.size ≤ h1.objs.size; rw [show h1.objs.size = s.heap.objs.size + 5 from hsz1]; exact Nat.le_add_right _ 5) hC⟩
    have X3 := X.keeps F.keep
    have T3 := T.keeps F.keep
    clear h
    (repeat' ((fail_if_success (with_reducible show Fin2 _ _ _)); (fail_if_success (with_reducible show Halt _)); (first | (k_unfold; (try dsimp only)) | walk1 | (dsimp only; walk1))))
    (all_goals (try k_data))
    refine Halt.mk (slice_ext (s := ⟨_, _, _, _, _⟩) F6 ?_ (by with_unfolding_all rfl) (by intro _; with_unfolding_all rfl) (by rw [sizeLine_eq]; omega))
    intro h5 t5 k5 F65 hk5
    have hk5' : Ext s₃.heap h5 := hk5
    have hsl3 : (Txt.slice r' none (some 3)).length ≤ 1000 := Nat.le_trans (Txt.slice_le r' _ _) hrl
    (repeat' ((fail_if_success (with_reducible show Fin2 _ _ _)); (fail_if_success (with_reducible show Halt _)); (first | (k_unfold; (try dsimp only)) | walk1 | (dsimp only; walk1))))
    (all_goals (try k_data))
    · rename (Txt.slice r' none _ == _) = true => hc
      have hl61 : g[i].getLast? = some 61 := by
        by_cases hq : g[i].getLast? = some 61
        · exact hq
        · rw [hr2, not250 _ _ hq] at hc; cases hc
      refine Halt.mk (wpAny_newTuple ?_)
      refine ⟨_, _, rfl, Tn.of_ext (fun b o e => Heap.get?_push_of_some _ (hk5' b o e)), .inr ⟨_, _, rfl, ?_, Heap.get?_push_size _ rfl, ?_⟩⟩
      · show s₃.heap.get? h5.objs.size = none
        cases q : s₃.heap.get? h5.objs.size with
        | none => rfl
        | some o => exact absurd (Heap.lt_size (hk5' _ o q)) (Nat.lt_irrefl _)
      · unfold DueO
        rw [hgd]
        refine ⟨hl61, rfl, ?_⟩
        rw [← refused_is, ← hr2]
        exact ⟨_, t1, 0, rfl⟩
    · exact Tn.of_ext hk5'
    · rename (Txt.slice r' none _ == _) = false => hc
      have hl61 : g[i].getLast? ≠ some 61 := by
        intro hq
        rw [hr2, is250 _ _ hq] at hc; cases hc
      refine .inl ?_
      unfold DueP
      rw [hgd]
      exact ⟨hl61, t2, by rw [hn2]⟩
  case q =>
    intro C D h' tk zs m' hC hD hDC hnC hpl hlen hv htn htk'
    have hke : Ext s.heap h' := htn.ext
    have F2 := fr_tn F (Tn.of_ext hke)
    have N2 := news_tn N (Tn.of_ext hke)
    have hsz1' : h1.objs.size = s.heap.objs.size + 5 := hsz1
    have hsC : s.heap.objs.size ≤ C := Nat.le_trans (by show s.heap.objs.size ≤ h1.objs.size; rw [hsz1']; exact Nat.le_add_right _ _) hC
    have hsD : s.heap.objs.size ≤ D := Nat.le_trans (by show s.heap.objs.size ≤ h1.objs.size; rw [hsz1']; exact Nat.le_add_right _ _) hD
    have hLs : L < s.heap.objs.size := F.ns.lt
    obtain ⟨nD, hDo⟩ := hpl
    have bnone : ∀ b, s.heap.get? b = none → base.get? b = none := fun b e => by
      cases q : base.get? b with
      | none => rfl
      | some o => have := F.keep b o q; rw [e] at this; cases this
    refine wpAny_assign_Name (wpAny_storeName_local rfl F2.ns (fun h₂ hn₂ hs₂ => ?_) rfl)
    refine ⟨m', hnC.sameBut hs₂ (Nat.ne_of_gt (Nat.lt_of_lt_of_le hLs hsC)), fun h₃ hs₃ => ?_⟩
    have F4 := fr_same (F2.set hn₂ hs₂) hs₃ (Nat.ne_of_gt (Nat.lt_of_lt_of_le hLs hsC)) (bnone C (fresh_at hsC))
    have tup : ∀ (j : Nat) (y : Value), zs.toList[j]? = some y → DueP g j y ∨ ∃ T o, y = .ref T ∧ (T ≠ C ∧ T ≠ L ∧ base.get? T = none ∧ h'.get? T = some o) ∧ DueO g j o := by
      intro j y hj
      rcases hv j y hj with hp | ⟨T, o, e, h2, _, h4, h5, h6⟩
      · exact .inl hp
      · obtain ⟨oL, _, _, hoL, _⟩ := id F.ns
        exact .inr ⟨T, o, e, ⟨h2, (fun q => by rw [q, hoL] at h4; cases h4), bnone T h4, h5⟩, h6⟩
    let tps : List (Addr × Obj) := zs.toList.filterMap fun y => match y with
      | .ref T => if T ≠ C ∧ T ≠ L ∧ base.get? T = none then (h'.get? T).map fun o => (T, o) else none
      | _ => none
    have htps : ∀ p ∈ tps, p.1 ≠ C ∧ p.1 ≠ L ∧ base.get? p.1 = none ∧ h'.get? p.1 = some p.2 := by
      intro p hp
      obtain ⟨y, _, hy⟩ := List.mem_filterMap.mp hp
      cases y with
      | ref T =>
        dsimp only at hy
        split at hy
        · rename_i hc
          obtain ⟨o, ho, rfl⟩ := Option.map_eq_some_iff.mp hy
          exact ⟨hc.1, hc.2.1, hc.2.2, ho⟩
        · cases hy
      | _ => cases hy
    have hmove : ∀ b o, b ≠ L → b ≠ C → h'.get? b = some o → h₃.get? b = some o := fun b o h1 h2 e => hs₃.extBut b o h2 (hs₂.extBut b o h1 e)
    refine h D zs nD tps h₃ _ (by rw [← hlen]; simp) (fun j y hj => ?_) ?_ ?_
    · rcases tup j y hj with hp | ⟨T, o, rfl, ⟨h1, h2, h3, h4⟩, h5⟩
      · exact .inl hp
      · refine .inr ⟨T, o, rfl, List.mem_filterMap.mpr ⟨.ref T, List.mem_of_getElem? hj, ?_⟩, h5⟩
        dsimp only
        rw [if_pos ⟨h1, h2, h3⟩, h4]; rfl
    · rw [hme]; exact F4
    · intro p hp
      rcases List.mem_cons.mp hp with rfl | hp
      · exact ⟨hmove _ _ (Nat.ne_of_gt (Nat.lt_of_lt_of_le hLs hsD)) hDC hDo, Nat.ne_of_gt (Nat.lt_of_lt_of_le hLs hsD), bnone _ (fresh_at hsD)⟩
      · rcases List.mem_append.mp hp with hp | hp
        · obtain ⟨h1, h2, h3, h4⟩ := htps p hp
          exact ⟨hmove _ _ h2 h1 h4, h2, h3⟩
        · have q := N2 p hp
          exact ⟨hmove _ _ q.2.1 (Nat.ne_of_lt (Nat.lt_of_lt_of_le (Heap.lt_size (N p hp).1) hsC)) q.1, q.2⟩
end Mine
end

section
local macro_rules | `(tactic| walk_at "pad") => `(tactic| fail "pad")
local macro_rules | `(tactic| walk_at "pad") => `(tactic| fail "pad")
local macro_rules | `(tactic| walk_at "pad") => `(tactic| fail "pad")
local macro_rules | `(tactic| walk_at "pad") => `(tactic| fail "pad")
local macro_rules | `(tactic| walk_at "pad") => `(tactic| fail "pad")
local macro_rules | `(tactic| walk_at "pad") => `(tactic| fail "pad")
local macro_rules | `(tactic| walk_at "pad") => `(tactic| fail "pad")
local macro_rules | `(tactic| walk_at "pad") => `(tactic| fail "pad")
local macro_rules | `(tactic| walk_at "pad") => `(tactic| fail "pad")
local macro_rules | `(tactic| walk_at "pad") => `(tactic| fail "pad")
local macro_rules | `(tactic| walk_at "pad") => `(tactic| fail "pad")
local macro_rules | `(tactic| walk_at "pad") => `(tactic| fail "pad")
local macro_rules | `(tactic| walk_at "pad") => `(tactic| fail "pad")
local macro_rules | `(tactic| walk_at "pad") => `(tactic| fail "pad")
theorem Mine.freshLS11 : True ∧ True := by
  w_top off
  walk1
  all_goals exact True.intro
end

/-! LS11 -/
section
open PySem PySem.W PyProof.Rows PySem.Calls PySem.SeqAt
set_option maxRecDepth 100000
set_option maxHeartbeats 400000
namespace Mine
open StrLaws (dbl)
theorem filledL11 : ∀ (p : Params), hd.heap_39 p = hd.heap_39 p ∧ PySem.Challenge.rw_mj0093_01 = PySem.Challenge.rw_mj0093_01 := by
  k_fill; exact fun _ => ⟨rfl, rfl⟩
variable {w : World} {dp un : Nat} {gd : Option (List Code)} {base : Heap} {mean : ExcName → Option Value} {mg mb : Str → Option Value} {s : Shared} {Q : Flow → Shared → Prop} {E : Value → Shared → Prop} {L fa aR aN aU : Addr} {cd : Value} {m : Str → Option Value}
local macro_rules | `(tactic| walk_at "eval ListComp") => `(tactic| (refine halt ?_))
local macro_rules | `(tactic| walk_at "pyIter ref") => `(tactic| (refine halt ?_))
local macro_rules | `(tactic| walk_at "call ref") => `(tactic| (refine halt ?_))
local macro_rules | `(tactic| walk_at "compareOp NotEq ref ref") => `(tactic| (refine halt ?_))

theorem b6 {g : List (List Nat)} {ys vs : Array Value} {nR nU : Nat} {tps nw : List (Addr × Obj)} (htk : 1 ≤ s.toks) (X : (hd.heap_39 w.params).In base) (T : Top hd.view_39 (looseW hd.view_39 []) mean mg mb base) (hdp : dp < 400) (hun : un < 400)
    (F : Fr base L s.heap m) (hmr : m (Str.ofString "replies") = some (.ref aR)) (hmd : m (Str.ofString "due") = some (.ref aU)) (N : News base L s.heap ([(aU, W.listOf vs nU), (aR, W.listOf ys nR)] ++ nw)) (htp : ∀ p ∈ tps, p ∈ nw)
    (hY : StrsAre ys.toList ((repsL g).map S)) (hg : g.length ≤ 20) (hgn : ∀ nm ∈ g, nm.length ≤ 20) (hok : ∀ nm ∈ g, OkL nm)
    (hvl : vs.size = g.length) (hvs : ∀ (j : Nat) (y : Value), vs.toList[j]? = some y → DueP g j y ∨ ∃ T o, y = .ref T ∧ (T, o) ∈ tps ∧ DueO g j o)
    (h : ∀ h' tk, Fr base L h' m → News base L h' ([(aU, W.listOf vs nU), (aR, W.listOf ys nR)] ++ nw) → Q .next { s with heap := h', toks := tk }) :
    wpAny (model PR w) (AR dp un gd [lawEnv L fa cd]) (exec (bst 6) (lawEnv L fa cd)) Q E s := by
  change wpAny _ _ (exec (Stmt.If _ _ [] _) _) _ _ _
  have hme : m = fun y => if y = Str.ofString "replies" then some (.ref aR) else if y = Str.ofString "due" then some (.ref aU) else m y := (map_eta hmr).trans (by funext y; split <;> first | rfl | exact congrFun (map_eta hmd) y)
  rw [hme] at F
  (repeat' ((fail_if_success (with_reducible show Fin2 _ _ _)); (fail_if_success (with_reducible show Halt _)); (first | (k_unfold; (try dsimp only)) | walk1 | (dsimp only; walk1))))
  have hlR : s.heap.IsList aR ys := ⟨_, (N _ (.tail _ (.head _))).1, rfl, _, rfl⟩
  have hyl : ys.size = g.length := by have := hY.len_eq; simpa [repsL] using this
  have haR : aR < s.heap.objs.size := let ⟨_, e, _⟩ := hlR; Heap.lt_size e
  refine Halt.mk (comp_eval (closureFor_none (by decide)) (by decide) rfl (by decide) ?_ (fun _ => rfl))
  (repeat' ((fail_if_success (with_reducible show Fin2 _ _ _)); (fail_if_success (with_reducible show Halt _)); (first | (k_unfold; (try dsimp only)) | walk1 | (dsimp only; walk1))))
  refine Halt.mk (wpAny_pyIter_list hlR ?_)
  have W1 := Walks.list (prog := PR) (w := w) (A := AR dp un gd [lawEnv L fa cd]) rfl s.heap.objs.size aR (Nat.ne_of_lt haR) ys
  have hpe : Ext s.heap (s.heap.push { cls := .type "list_iterator", data := .fields #[.ref aR, .int 0 0] }) := fun b o e => Heap.get?_push_of_some _ e
  refine compAt_tn [L] s.heap (DueP g) (DueO g) (Src.name W1 rfl rfl) ?sz ⟨⟨_, Heap.get?_push_size _ rfl, rfl, rfl⟩, hlR.push _⟩ ?fp htk hpe ?wr ?fpo ?fs ?elt ?q
  case sz => rw [sizeLine_eq]; omega
  case fp =>
    intro b hb
    have hz : (s.heap.push { cls := .type "list_iterator", data := .fields #[.ref aR, .int 0 0] }).objs.size = s.heap.objs.size + 1 := Heap.size_push ..
    show b < (s.heap.push _).objs.size
    rw [hz]
    simp only [List.mem_cons, List.not_mem_nil, or_false] at hb
    rcases hb with rfl | rfl
    · exact Nat.lt_succ_self _
    · exact Nat.lt_succ_of_lt haR
  case wr => intro b hb; rw [List.mem_singleton.mp hb]; exact fresh_at (Nat.le_refl _)
  case fpo =>
    rintro i h' ⟨⟨o1, ho1, _⟩, ⟨o2, ho2, _⟩⟩ b hb
    simp only [List.mem_cons, List.not_mem_nil, or_false] at hb
    rcases hb with rfl | rfl
    · exact ⟨_, ho1⟩
    · exact ⟨_, ho2⟩
  case fs =>
    intro b hb
    rw [List.mem_singleton.mp hb]
    obtain ⟨oL, _, _, hoL, _⟩ := id F.ns
    refine ⟨⟨oL, hoL⟩, fun hm => ?_⟩
    simp only [List.mem_cons, List.not_mem_nil, or_false] at hm
    rcases hm with e | e
    · exact absurd (Heap.lt_size hoL) (e ▸ Nat.lt_irrefl _)
    · exact (N _ (.tail _ (.head _))).2.1 e.symm
  case elt =>
    rintro C i s₃ m₃ E' hi hC htn hns ⟨v, hv, hk⟩ ht3
    have hgi : i < g.length := by rw [← hyl]; exact hi
    obtain ⟨r', t1, rfl, hr'⟩ := hY.item i v (by simpa using hv)
    have hr2 : r' = S (replyL g[i] i) := by
      have : ((repsL g).map S)[i]? = some (S (replyL g[i] i)) := by simp [repsL, hgi]
      rw [this] at hr'; exact (Option.some.inj hr').symm
    have hgd : g.getD i [] = g[i] := by simp [hgi]
    have hrl : r'.length ≤ 1000 := by
      have h1 := replyL_len g[i] i
      have h2 := hgn _ (List.getElem_mem hgi)
      rw [hr2, S_len]; omega
    have F3 : Fr base L s₃.heap _ := fr_tn F htn
    have hbC : base.objs.size ≤ C := Nat.le_trans (Nat.le_trans F.above (Nat.le_of_lt F.ns.lt)) (Nat.le_trans (by show s.heap.objs.size ≤ (s.heap.push _).objs.size; rw [Heap.size_push]; exact Nat.le_succ _) hC)
    have F6 : Fr base C s₃.heap (fun y => if y = Str.ofString "reply" then some (.str r' t1) else m₃ y) := by
      rw [← map_eta hk]
      exact ⟨hns, F3.keep, hbC⟩
    clear h
    (repeat' ((fail_if_success (with_reducible show Fin2 _ _ _)); (fail_if_success (with_reducible show Halt _)); (first | (k_unfold; (try dsimp only)) | walk1 | (dsimp only; walk1))))
    (all_goals (try k_data))
    have dicts : KtsDicts ([lawEnv L fa cd].filterMap (·.frame)) s₃.heap := by
      intro b hb
      have hb' : b = L := by
        have : b ∈ [L] := hb
        exact List.mem_singleton.mp this
      obtain ⟨o, es, n, ho, hd', _⟩ := id F3.ns
      rw [hb']
      exact ⟨o, es, n, ho, hd'⟩
    by_cases h61 : g[i].getLast? = some 61
    · refine Halt.mk (c_told_raise (law_amb X T F3 hdp hun) hdp hun (by omega) X T dicts (by rw [hr2]; exact not257 _ _ h61) ?_)
      intro D t2 t3 h' tk hD hDo hT
      refine ⟨h', tk, rfl, Tn.of_turn hT, .inr ⟨D, _, rfl, hD, hDo, ?_⟩⟩
      unfold DueO
      rw [hgd]
      refine ⟨h61, rfl, ?_⟩
      rw [← refused_is, ← hr2]
      exact ⟨_, _, 0, rfl⟩
    · refine Halt.mk (c_told_ok (law_amb X T F3 hdp hun) hdp hun (by omega) (by rw [hr2, S_len]; exact reply_len5 _ _) (by rw [hr2]; exact is257 _ _ h61) (by rw [hr2]; exact reply_q _ _) ?_)
      intro r t2 h' tk hr hk'
      refine ⟨h', tk, rfl, Tn.of_ext hk', .inl ?_⟩
      unfold DueP
      rw [hgd]
      refine ⟨h61, t2, ?_⟩
      have : r = S g[i] := S_ext (by rw [hr, hr2, S_list, S_list, reply_257])
      rw [this]
  case q =>
    intro D h' tk zs hD hpl hlen hv htn htk'
    have F2 := fr_tn F htn
    have N2 := news_tn N htn
    obtain ⟨ar, ha⟩ := reads_places (h := h') (ys := zs.toList) (ds := dueD g) (by rw [hlen, due_len, hyl]) fun j y d hy hd => by
      have hj : j < g.length := by
        have := (List.getElem?_eq_some_iff.mp hy).1
        rw [hlen] at this; omega
      refine due_reads hj hd ?_
      rcases hv j y hy with hp | ⟨To, o, e, _, _, ho, hpo⟩
      · exact .inl hp
      · exact .inr ⟨To, o, e, ho, hpo⟩
    obtain ⟨br, hb⟩ := reads_places (h := h') (ys := vs.toList) (ds := dueD g) (by rw [due_len]; simp [hvl]) fun j y d hy hd => by
      have hj : j < g.length := by
        have := (List.getElem?_eq_some_iff.mp hy).1
        simp at this; omega
      refine due_reads hj hd ?_
      rcases hvs j y hy with hp | ⟨To, o, e, hm, hpo⟩
      · exact .inl hp
      · exact .inr ⟨To, o, e, (N2 (To, o) (List.mem_append_right _ (htp _ hm))).1, hpo⟩
    obtain ⟨nD, hDo⟩ := hpl
    have hU := (N2 _ (.head _)).1
    clear F N
    (repeat' ((fail_if_success (with_reducible show Fin2 _ _ _)); (fail_if_success (with_reducible show Halt _)); (first | (k_unfold; (try dsimp only)) | walk1 | (dsimp only; walk1))))
    refine Halt.mk (ne_same (reads_list_at hDo rfl rfl ha) (reads_list_at hU rfl rfl hb) (due_shaped hok) hun ?_)
    (repeat' ((fail_if_success (with_reducible show Fin2 _ _ _)); (fail_if_success (with_reducible show Halt _)); (first | (k_unfold; (try dsimp only)) | walk1 | (dsimp only; walk1))))
    exact h _ _ (by rw [hme]; assumption) (by assumption)
end Mine
end

section
local macro_rules | `(tactic| walk_at "pad") => `(tactic| fail "pad")
local macro_rules | `(tactic| walk_at "pad") => `(tactic| fail "pad")
local macro_rules | `(tactic| walk_at "pad") => `(tactic| fail "pad")
local macro_rules | `(tactic| walk_at "pad") => `(tactic| fail "pad")
local macro_rules | `(tactic| walk_at "pad") => `(tactic| fail "pad")
local macro_rules | `(tactic| walk_at "pad") => `(tactic| fail "pad")
local macro_rules | `(tactic| walk_at "pad") => `(tactic| fail "pad")
local macro_rules | `(tactic| walk_at "pad") => `(tactic| fail "pad")
local macro_rules | `(tactic| walk_at "pad") => `(tactic| fail "pad")
local macro_rules | `(tactic| walk_at "pad") => `(tactic| fail "pad")
local macro_rules | `(tactic| walk_at "pad") => `(tactic| fail "pad")
local macro_rules | `(tactic| walk_at "pad") => `(tactic| fail "pad")
local macro_rules | `(tactic| walk_at "pad") => `(tactic| fail "pad")
local macro_rules | `(tactic| walk_at "pad") => `(tactic| fail "pad")
theorem Mine.freshLS12 : True ∧ True := by
  w_top off
  walk1
  all_goals exact True.intro
end

/-! LS12 -/
section
open PySem PySem.W PyProof.Rows PySem.Calls PySem.SeqAt
set_option maxRecDepth 100000
set_option maxHeartbeats 400000
namespace Mine
open StrLaws (dbl)
theorem filledL12 : ∀ (p : Params), hd.heap_39 p = hd.heap_39 p ∧ PySem.Challenge.rw_mj0093_01 = PySem.Challenge.rw_mj0093_01 := by
  k_fill; exact fun _ => ⟨rfl, rfl⟩
variable {w : World} {dp un : Nat} {gd : Option (List Code)} {base : Heap} {mean : ExcName → Option Value} {mg mb : Str → Option Value} {s : Shared} {Q : Flow → Shared → Prop} {E : Value → Shared → Prop} {L fa aK aS aG : Addr} {cd : Value} {m : Str → Option Value}
local macro_rules | `(tactic| walk_at "pyIter ref") => `(tactic| (refine halt ?_))
local macro_rules | `(tactic| walk_at "call builtin:len") => `(tactic| (refine halt ?_))
local macro_rules | `(tactic| walk_at "call type:range") => `(tactic| (refine halt ?_))

/-- what the ledger bears ahead of the last loop -/
structure Bears (w : World) (L aK aS aG D : Addr) (gs : List (List (List Nat))) (all : List (Addr × Obj)) (ks us : Array Value) (nK nS nG : Nat) (rs : List Value) (oK oL oD : Obj) (kvs : List (Str × Value)) : Prop where
  mD : (D, oD) ∈ all
  mK : (aK, W.listOf ks nK) ∈ all
  mKc : (L + 2, oK) ∈ all
  mS : (aS, W.listOf us nS) ∈ all
  mSc : (L + 1, oL) ∈ all
  mG : (aG, W.listOf rs.toArray nG) ∈ all
  cK : oK.data = .cell (some (.ref aK))
  cL : oL.data = .cell (some (.ref aS))
  ks_ : StrsAre ks.toList ((List.range gs.length).map keyS)
  us_ : StrsAre us.toList ((gs.map listL).map S)
  gr : PreAre all rs gs
  od : oD.IsDictOf (strKind PR w) kvs
  k1 : kvs.map (·.1) = (tgtL (gs.map listL)).map fun p => S p.1
  k2 : StrsAre (kvs.map (·.2)) ((tgtL (gs.map listL)).map fun p => S p.2)
  few : gs.length ≤ 20
  gl : ∀ g ∈ gs, g.length ≤ 20
  gn : ∀ g ∈ gs, ∀ nm ∈ g, nm.length ≤ 20
  ok : ∀ g ∈ gs, ∀ nm ∈ g, OkL nm

theorem news_app {h : Heap} {nw all : List (Addr × Obj)} (N : News base L h all) (hs : ∀ p ∈ nw, p ∈ all) : News base L h (nw ++ all) := fun p hp => (List.mem_append.mp hp).elim (fun q => N p (hs p q)) (N p)
theorem news_rest {h : Heap} {nw all : List (Addr × Obj)} (N : News base L h (nw ++ all)) : News base L h all := fun p hp => N p (List.mem_append_right _ hp)

theorem turn8 {gs : List (List (List Nat))} {all own : List (Addr × Obj)} {ks us : Array Value} {nK nS nG : Nat} {rs : List Value} {oK oL oD : Obj} {kvs : List (Str × Value)} {D : Addr} {i : Nat} {t : Tok} (X : (hd.heap_39 w.params).In base) (T : Top hd.view_39 (looseW hd.view_39 []) mean mg mb base) (hdp : dp < 400) (hun : un < 400)
    (B : Bears w L aK aS aG D gs all ks us nK nS nG rs oK oL oD kvs) (hi : i < gs.length)
    (F : Fr base L s.heap m) (hmk : m (Str.ofString "k") = some (.int i t)) (hmt : m (Str.ofString "told") = some (.ref D)) (hmg : m (Str.ofString "groups") = some (.ref aG)) (N : News base L s.heap (all ++ own))
    (h : ∀ h' m' tk, Fr base L h' m' → m' (Str.ofString "told") = some (.ref D) → m' (Str.ofString "groups") = some (.ref aG) → News base L h' (all ++ own) → Q .next { s with heap := h', toks := tk }) :
    wpAny (model PR w) (AR dp un gd [lawEnv L fa cd]) (execs (forBody (st 8)) (lawEnv L fa cd)) Q E s := by
  obtain ⟨mD, mK, mKc, mS, mSc, mG, cK, cL, hks, hus, gr, hod, k1, k2, few, gl, gn, ok⟩ := B
  have hi20 : i < 20 := by omega
  have hgm : gs[i] ∈ gs := List.getElem_mem hi
  obtain ⟨tK, hK⟩ := strs_at hks i (keyS i) (by simp [hi])
  obtain ⟨tS, hS⟩ := strs_at hus i (S (listL gs[i])) (by simp [hi])
  have hnlen : (listL gs[i]).length ≤ 3000 := list_len (gl _ hgm) (gn _ hgm)
  have hlast := list_last gs[i]
  have hV : ∃ tV, kvs[i]? = some (keyS i, .str (S (replyL (listL gs[i]) i)) tV) := by
    obtain ⟨tV, e⟩ := strs_at k2 i (S (replyL (listL gs[i]) i)) (by simp [tgtL, hi])
    have q := congrArg (·[i]?) k1
    have e2 : ((tgtL (gs.map listL)).map fun p => S p.1)[i]? = some (keyS i) := by simp [tgtL, hi, keyS_eq]
    rw [List.getElem?_map] at e
    obtain ⟨⟨k, v⟩, hkv, e3⟩ := Option.map_eq_some_iff.mp e
    simp only [e2, List.getElem?_map, hkv, Option.map_some] at q
    have q1 : k = keyS i := Option.some.inj q
    have q2 : v = .str (S (replyL (listL gs[i]) i)) tV := e3
    exact ⟨tV, by rw [hkv, q1, q2]⟩
  obtain ⟨tV, hV⟩ := hV
  have hrl : i < rs.length := by rw [gr.length]; exact hi
  obtain ⟨aN, vn, nN, ws, hrv, hgs, hma, hSn⟩ := gr.get i rs[i] (by simp [hrl])
  have hws : ws = gs[i] := by rw [List.getElem?_eq_getElem hi] at hgs; exact (Option.some.inj hgs).symm
  subst hws
  have up : ∀ p ∈ all, p ∈ all ++ own := fun p hp => List.mem_append_left _ hp
  have one : ∀ (p q : Addr × Obj), p ∈ all → q ∈ [p] → q ∈ all ++ own := fun p q hp hq => up _ (List.mem_singleton.mp hq ▸ hp)
  rw [body_is]
  -- inner
  refine wpAny_execs_cons (b0 (aK := aK) (D := D) (ks := ks) (l := listL gs[i]) (i := i) (nK := nK) (nw := all ++ own) (oK := oK) (oD := oD) X T hdp hun F hmk hmt (news_app N ?m0) cK hi20 (by simpa using hK) hod hV hnlen hlast ?_)
  case m0 =>
    intro p hp
    simp only [List.mem_cons, List.not_mem_nil, or_false] at hp
    rcases hp with rfl | rfl | rfl
    · exact up _ mD
    · exact up _ mK
    · exact up _ mKc
  intro tI h1 tk1 htk1 F1 N1
  replace N1 := news_rest N1
  -- inner == lists[k]
  refine wpAny_execs_cons (wpAny_with_toks (n := 1) htk1 (b1 (aS := aS) (us := us) (l := listL gs[i]) (i := i) (nS := nS) (nw := all ++ own) (oL := oL) X T F1 rfl (by exact hmk) (news_app N1 ?m1) cL hi20 (by simpa using hS) ?_))
  case m1 =>
    intro p hp
    simp only [List.mem_cons, List.not_mem_nil, or_false] at hp
    rcases hp with rfl | rfl
    · exact up _ mS
    · exact up _ mSc
  intro h2 tk2 F2 N2 htk2
  replace N2 := news_rest N2
  -- replies
  refine wpAny_execs_cons (wpAny_with_toks (n := 1) htk2 (b2 (g := gs[i]) X T hdp hun F2 rfl N2 hnlen ?_))
  intro aR ys nR h3 tk3 F3 N3 hY htk3
  -- names
  refine wpAny_execs_cons (wpAny_with_toks (n := 1) htk3 (b3 (aG := aG) (rs := rs) (i := i) (nG := nG) (aN := aN) (nw := (aR, W.listOf ys nR) :: (all ++ own)) X T F3 (by exact hmk) (by exact hmg) (fun p hp => ?m3) hi20 (by rw [← hrv]; simp [hrl]) ?_))
  case m3 =>
    rcases List.mem_cons.mp hp with rfl | hp
    · exact N3 _ (.tail _ (up _ mG))
    · exact N3 p hp
  intro h4 tk4 F4 N4 htk4
  have N4' : News base L h4 ([(aR, W.listOf ys nR), (aN, W.listOf vn.toArray nN)] ++ (all ++ own)) := fun p hp => by
    rcases List.mem_cons.mp hp with rfl | hp
    · exact N4 _ (.tail _ (.head _))
    · rcases List.mem_cons.mp hp with rfl | hp
      · exact N4 _ (.tail _ (.tail _ (up _ hma)))
      · exact N4 _ (.tail _ (.tail _ hp))
  -- replies == ..
  refine wpAny_execs_cons (wpAny_with_toks (n := 1) htk4 (b4 (aR := aR) (aN := aN) (g := gs[i]) (ys := ys) (us := vn.toArray) (nR := nR) (n := nN) (nw := all ++ own) htk4 X T hdp hun F4 rfl rfl N4' hY (by simpa using hSn) (gl _ hgm) (gn _ hgm) (ok _ hgm) ?_))
  intro h5 tk5 F5 N5 htk5
  -- due
  refine wpAny_execs_cons (wpAny_with_toks (n := 1) htk5 (b5 (aR := aR) (aN := aN) (g := gs[i]) (ys := ys) (us := vn.toArray) (nR := nR) (n := nN) (nw := all ++ own) htk5 X T hdp hun F5 rfl rfl N5 hY (by simpa using hSn) (gl _ hgm) (gn _ hgm) ?_))
  intro aU vs nU tps h6 tk6 hvl hvs F6 N6 htk6
  have N6' : News base L h6 ([(aU, W.listOf vs nU), (aR, W.listOf ys nR)] ++ (tps ++ (all ++ own))) := fun p hp => by
    rcases List.mem_cons.mp hp with rfl | hp
    · exact N6 _ (.head _)
    · rcases List.mem_cons.mp hp with rfl | hp
      · exact N6 _ (.tail _ (List.mem_append_right _ (.head _)))
      · have hp : p ∈ tps ++ (all ++ own) := hp
        rcases List.mem_append.mp hp with hp | hp
        · exact N6 _ (.tail _ (List.mem_append_left _ hp))
        · exact N6 _ (.tail _ (List.mem_append_right _ (.tail _ (.tail _ hp))))
  -- told == due
  refine wpAny_execs_cons (b6 (aR := aR) (aU := aU) (g := gs[i]) (ys := ys) (vs := vs) (nR := nR) (nU := nU) (tps := tps) (nw := tps ++ (all ++ own)) htk6 X T hdp hun F6 rfl rfl N6' (fun p hp => List.mem_append_left _ hp) hY (gl _ hgm) (gn _ hgm) (ok _ hgm) hvl hvs ?_)
  intro h7 tk7 F7 N7
  refine wpAny_execs_nil ?_
  exact h h7 _ tk7 F7 hmt hmg fun p hp => N7 p (List.mem_append_right _ (List.mem_append_right _ hp))

theorem s8 {gs : List (List (List Nat))} {all : List (Addr × Obj)} {ks us : Array Value} {nK nS nG : Nat} {rs : List Value} {oK oL oD : Obj} {kvs : List (Str × Value)} {D : Addr} (hE : PassesOwn (model PR w) (AR dp un gd [lawEnv L fa cd]) (lawEnv L fa cd) E) (X : (hd.heap_39 w.params).In base) (T : Top hd.view_39 (looseW hd.view_39 []) mean mg mb base) (hdp : dp < 400) (hun : un < 400)
    (B : Bears w L aK aS aG D gs all ks us nK nS nG rs oK oL oD kvs)
    (F : Fr base L s.heap m) (hmt : m (Str.ofString "told") = some (.ref D)) (hmg : m (Str.ofString "groups") = some (.ref aG)) (N : News base L s.heap all)
    (h : ∀ h' m' tk, Fr base L h' m' → Q .next { s with heap := h', toks := tk }) :
    wpAny (model PR w) (AR dp un gd [lawEnv L fa cd]) (exec (st 8) (lawEnv L fa cd)) Q E s := by
  change wpAny _ _ (exec (Stmt.For (Expr.Name _ _) _ _ [] _) _) _ _ _
  refine For_invV base rfl rfl ?_ (fun _ => rfl) hE
  have cK := B.cK
  have N0 : News base L s.heap ([(aK, W.listOf ks nK), (L + 2, oK)] ++ all) := news_app N fun p hp => by
    simp only [List.mem_cons, List.not_mem_nil, or_false] at hp
    rcases hp with rfl | rfl
    · exact B.mK
    · exact B.mKc
  have hkl : ks.size = gs.length := by have := B.ks_.len_eq; simpa using this
  have few := B.few
  (repeat' ((fail_if_success (with_reducible show Fin2 _ _ _)); (fail_if_success (with_reducible show Halt _)); (first | (k_unfold; (try dsimp only)) | walk1 | (dsimp only; walk1))))
  have hlK : s.heap.IsList aK ks := ⟨_, (N0 _ (.head _)).1, rfl, _, rfl⟩
  refine Halt.mk (call_len_list hlK (by omega) ?_)
  (repeat' ((fail_if_success (with_reducible show Fin2 _ _ _)); (fail_if_success (with_reducible show Halt _)); (first | (k_unfold; (try dsimp only)) | walk1 | (dsimp only; walk1))))
  rw [hkl]
  refine Halt.mk (range_iter (by omega) ?_)
  intro h2 tk2 hsz2 hk2 hit htk2
  have hz : h2.objs.size = s.heap.objs.size + 2 := hsz2
  have F2 := fr_tn F (Tn.of_ext hk2)
  have N2 := news_tn N (Tn.of_ext hk2)
  have hLs := F.ns.lt
  have W1 := Walks.range (prog := PR) (w := w) (A := AR dp un gd [lawEnv L fa cd]) rfl (s.heap.objs.size + 1) 0 1 gs.length
  refine loop_led (σ := Unit) (fun _ => []) all (fun _ _ => True) (fun m₁ => m₁ (Str.ofString "told") = some (.ref D) ∧ m₁ (Str.ofString "groups") = some (.ref aG)) () W1 hit ?hLf ?hI0 F2 N2 ?hIn (fun _ => rfl) trivial ⟨hmt, hmg⟩ ?turn ?done
  case hLf =>
    intro hm
    exact absurd hLs (by
      have e : L = s.heap.objs.size + 1 := List.mem_singleton.mp hm
      rw [e]; exact Nat.not_lt.mpr (Nat.le_succ _))
  case hI0 =>
    cases q : base.get? (s.heap.objs.size + 1) with
    | none => rfl
    | some o => exact absurd (Heap.lt_size (F.keep _ o q)) (Nat.not_lt.mpr (Nat.le_succ _))
  case hIn => exact fun p hp e => absurd (Heap.lt_size (N p hp).1) (by rw [e]; exact Nat.not_lt.mpr (Nat.le_succ _))
  case done =>
    rintro _ m₁ h' tk _ _ F' _
    exact h h' m₁ tk F'
  case turn =>
    rintro _ i v m₁ h' tk own hi ⟨t, rfl⟩ _ ⟨hmt', hmg'⟩ _ F' N'
    have e0 : (0 : Int) + (i : Int) * 1 = (i : Int) := by omega
    rw [e0] at F'
    refine turn8 (Q := Fin2 _) X T hdp hun B hi F' rfl hmt' hmg' N' ?_
    intro h8 m8 tk8 F8 hm8 hg8 N8
    exact ⟨.inl ⟨rfl, (), h8, tk8, m8, rfl, F8, ⟨hm8, hg8⟩, N8, trivial⟩⟩
end Mine
end

section
local macro_rules | `(tactic| walk_at "pad") => `(tactic| fail "pad")
local macro_rules | `(tactic| walk_at "pad") => `(tactic| fail "pad")
local macro_rules | `(tactic| walk_at "pad") => `(tactic| fail "pad")
local macro_rules | `(tactic| walk_at "pad") => `(tactic| fail "pad")
local macro_rules | `(tactic| walk_at "pad") => `(tactic| fail "pad")
local macro_rules | `(tactic| walk_at "pad") => `(tactic| fail "pad")
local macro_rules | `(tactic| walk_at "pad") => `(tactic| fail "pad")
local macro_rules | `(tactic| walk_at "pad") => `(tactic| fail "pad")
local macro_rules | `(tactic| walk_at "pad") => `(tactic| fail "pad")
local macro_rules | `(tactic| walk_at "pad") => `(tactic| fail "pad")
local macro_rules | `(tactic| walk_at "pad") => `(tactic| fail "pad")
local macro_rules | `(tactic| walk_at "pad") => `(tactic| fail "pad")
local macro_rules | `(tactic| walk_at "pad") => `(tactic| fail "pad")
local macro_rules | `(tactic| walk_at "pad") => `(tactic| fail "pad")
theorem Mine.freshLS13 : True ∧ True := by
  w_top off
  walk1
  all_goals exact True.intro
end

/-! LS13 -/
section
open PySem PySem.W PyProof.Rows PySem.Calls PySem.SeqAt
set_option maxRecDepth 100000
set_option maxHeartbeats 400000
namespace Mine
open StrLaws (dbl)
theorem filledL13 : ∀ (p : Params), hd.heap_39 p = hd.heap_39 p ∧ PySem.Challenge.rw_mj0093_01 = PySem.Challenge.rw_mj0093_01 := by
  k_fill; exact fun _ => ⟨rfl, rfl⟩
variable {w : World} {dp un : Nat} {gd : Option (List Code)} {base : Heap} {mean : ExcName → Option Value} {mg mb : Str → Option Value} {s : Shared} {Q : Flow → Shared → Prop} {E : Value → Shared → Prop} {L fa l : Addr} {cd : Value} {m : Str → Option Value}

theorem s0 {nw : List (Addr × Obj)} (X : (hd.heap_39 w.params).In base) (T : Top hd.view_39 (looseW hd.view_39 []) mean mg mb base)
    (F : Fr base L s.heap m) (N : News base L s.heap ([] ++ nw))
    (h : ∀ aG aI t0 h' tk, 1 ≤ tk → Fr base L h' (fun y => if y = Str.ofString "groups" then some (.ref aG) else m y) → News base L h' ([(aG, W.listOf #[.ref aI] 0), (aI, W.listOf #[.str (Str.ofString "") t0] 0)] ++ nw) → OwnOff nw [aG, aI] → aG ≠ aI → Q .next { s with heap := h', toks := tk }) :
    wpAny (model PR w) (AR dp un gd [lawEnv L fa cd]) (exec (st 0) (lawEnv L fa cd)) Q E s := by
  change wpAny _ _ (exec (Stmt.Assign _ _ _) _) _ _ _
  (repeat' ((fail_if_success (with_reducible show Fin2 _ _ _)); (fail_if_success (with_reducible show Halt _)); (first | (k_unfold; (try dsimp only)) | walk1 | (dsimp only; walk1))))
  rename ∀ p ∈ _, Prod.fst p < _ => hI
  rename _ ∧ AllLt _ _ => hG
  rename News _ _ _ _ => N9
  have hG2 : ∀ p ∈ nw, p.1 < _ := fun p hp => allLt_mem _ hG.2 p (List.mem_append_right _ hp)
  have hI2 : ∀ p ∈ nw, p.1 < _ := fun p hp => hI p (List.mem_append_right _ hp)
  refine h _ _ _ _ _ (by dsimp only; omega) (by assumption) N9 ?_ (Nat.ne_of_gt hG.1)
  intro p hp b hb
  rcases List.mem_cons.mp hb with rfl | hb
  · exact Nat.ne_of_lt (hG2 p hp)
  · rw [List.mem_singleton.mp hb]; exact Nat.ne_of_lt (hI2 p hp)

theorem s9 (X : (hd.heap_39 w.params).In base) (T : Top hd.view_39 (looseW hd.view_39 []) mean mg mb base)
    (F : Fr base L s.heap m) (h : Q (.ret (.bool true)) s) :
    wpAny (model PR w) (AR dp un gd [lawEnv L fa cd]) (exec (st 9) (lawEnv L fa cd)) Q E s := by
  change wpAny _ _ (exec (Stmt.Return _ _) _) _ _ _
  (repeat' ((fail_if_success (with_reducible show Fin2 _ _ _)); (fail_if_success (with_reducible show Halt _)); (first | (k_unfold; (try dsimp only)) | walk1 | (dsimp only; walk1))))
  exact h

theorem with_toksF {α : Type} {M : Model} {A : Around} {t : Sem α} {Q : α → Shared → Prop} {n : Nat} (hn : n ≤ s.toks)
    (h : wpAny M A t (fun a s' => n ≤ s'.toks → Q a s') (fun _ _ => False) s) : wpAny M A t Q (fun _ _ => False) s :=
  wpAny_mono (wpAny_toks_of hn h) (fun _ _ x => x.2 x.1) (fun _ _ x => x.2)

theorem PreAre.sub {rst rst' : List (Addr × Obj)} (hs : ∀ a us n, (a, W.listOf us n) ∈ rst → (a, W.listOf us n) ∈ rst') : ∀ {rs pre}, PreAre rst rs pre → PreAre rst' rs pre
  | _, _, .nil => .nil
  | _, _, .cons hm h t => .cons (hs _ _ _ hm) h (t.sub hs)

theorem law_body {vs : List Value} {ns : List Int} {oK oL : Obj} {v₁ v₂ : Option Value} (X : (hd.heap_39 w.params).In base) (T : Top hd.view_39 (looseW hd.view_39 []) mean mg mb base) (hdp : dp < 400) (hun : un < 400)
    (F : Fr base L s.heap m) (hms : m (Str.ofString "script") = some (.ref l)) (N : News base L s.heap [(L + 2, oK), (L + 1, oL)]) (hoK : oK.data = .cell v₁) (hoL : oL.data = .cell v₂)
    (hl : base.IsList l vs.toArray) (hI : IntsAre vs ns) (hn : ns.length ≤ 63)
    (h : ∀ h' m' tk, Fr base L h' m' → Q (.ret (.bool true)) { s with heap := h', toks := tk }) :
    wpAny (model PR w) (AR dp un gd [lawEnv L fa cd]) (execs lawBody (lawEnv L fa cd)) Q (fun _ _ => False) s := by
  rw [law_is]
  -- groups = [['']]
  refine wpAny_execs_cons (s0 (nw := [(L + 2, oK), (L + 1, oL)]) X T F N ?_)
  intro aG aI t0 h1 tk1 ht1 F1 N1 off1 ne1
  have F1' : Fr base L h1 (fun y => if y = Str.ofString "groups" then some (.ref aG) else if y = Str.ofString "script" then some (.ref l) else m y) := by
    have e : m = fun y => if y = Str.ofString "script" then some (.ref l) else m y := map_eta hms
    rw [e] at F1; exact F1
  -- the building loop
  refine wpAny_execs_cons (with_toksF (n := 1) ht1 (s1 (aG := aG) (aI := aI) (t0 := t0) (rest := [(L + 2, oK), (L + 1, oL)]) (vs := vs) (ns := ns) (m := m) PassesOwn.never X T F1' N1 off1 ne1 hl hI hn ?_))
  intro c fp m2 h2 tk2 J F2 hm2 N2 ht2
  have hx15 : ([1, 2, 3] ++ ns.take 12).length ≤ 15 := by simp; omega
  generalize hxs : [1, 2, 3] ++ ns.take 12 = xs at J hx15
  obtain ⟨bfew, bgl, bgn, bok⟩ := all_ok hx15
  have Jc := J.cur
  have Jp := J.pre
  have Jl := J.last
  rw [List.take_length] at Jc Jp Jl
  have hcK : (L + 2, oK) ∈ c.rst := J.sub _ (.head _)
  have hcL : (L + 1, oL) ∈ c.rst := J.sub _ (.tail _ (.head _))
  have hallP : PreAre (c.led aG ++ c.rst) (c.rs ++ [.ref c.aC]) (grun xs).all := by
    refine PreAre.snoc (us := c.us ++ [.str c.lst c.tl]) (n := c.nU) ?_ ?_ (Jp.mono fun p hp => List.mem_append_right _ hp)
    · rw [show (c.us ++ [Value.str c.lst c.tl]).toArray = c.us.toArray.push (.str c.lst c.tl) by simp]
      exact List.mem_append_left _ (.tail _ (.head _))
    · rw [List.map_append]
      have := KStt.strs_snoc (x := c.lst) (t := c.tl) Jc
      rw [Jl] at this ⊢
      exact this
  generalize hgs : (grun xs).all = gs at *
  generalize hrs : c.rs ++ [.ref c.aC] = rs at *
  have hrsl : rs.length = gs.length := hallP.length
  -- the ledger without the cells
  have dist : ∀ a us n, (a, W.listOf us n) ∈ c.led aG ++ c.rst → a ≠ L + 1 ∧ a ≠ L + 2 := by
    intro a us n hm
    have e := (N2 _ hm).1
    refine ⟨fun q => ?_, fun q => ?_⟩
    · have e2 := (N2 _ (List.mem_append_right _ hcL)).1
      dsimp only at e e2
      rw [q, e2] at e
      rw [Option.some.inj e] at hoL; cases hoL
    · have e2 := (N2 _ (List.mem_append_right _ hcK)).1
      dsimp only at e e2
      rw [q, e2] at e
      rw [Option.some.inj e] at hoK; cases hoK
  have hall0 : ∃ all0 : List (Addr × Obj), (∀ p ∈ all0, p ∈ c.led aG ++ c.rst) ∧ (∀ p ∈ all0, p.1 ≠ L + 1 ∧ p.1 ≠ L + 2) ∧ (aG, W.listOf rs.toArray c.nG) ∈ all0 ∧ PreAre all0 rs gs := by
    refine ⟨(c.led aG ++ c.rst).filter fun p => decide (p.1 ≠ L + 1 ∧ p.1 ≠ L + 2), fun p hp => (List.mem_filter.mp hp).1, fun p hp => of_decide_eq_true (List.mem_filter.mp hp).2, ?_, ?_⟩
    · have hm : (aG, W.listOf rs.toArray c.nG) ∈ c.led aG ++ c.rst := by
        rw [← hrs, show (c.rs ++ [Value.ref c.aC]).toArray = c.rs.toArray.push (.ref c.aC) by simp]
        exact List.mem_append_left _ (.head _)
      exact List.mem_filter.mpr ⟨hm, decide_eq_true (dist _ _ _ hm)⟩
    · exact hallP.sub fun a us n hm => List.mem_filter.mpr ⟨hm, decide_eq_true (dist _ _ _ hm)⟩
  obtain ⟨all0, hsub, hoff, hmG, hP0⟩ := hall0
  have N2' : News base L h2 ([(L + 1, oL)] ++ ((L + 2, oK) :: all0)) := fun p hp => by
    rcases List.mem_cons.mp hp with rfl | hp
    · exact N2 _ (List.mem_append_right _ hcL)
    · rcases List.mem_cons.mp hp with rfl | hp
      · exact N2 _ (List.mem_append_right _ hcK)
      · exact N2 _ (hsub p hp)
  have L12 : L + 2 ≠ L + 1 := Nat.succ_ne_self _
  -- lists = []
  refine wpAny_execs_cons (with_toksF (n := 1) ht2 (s2 (oL := oL) (nw := (L + 2, oK) :: all0) X T F2 N2' ?o2 hoL ?_))
  case o2 =>
    intro p hp b hb
    rw [List.mem_singleton.mp hb]
    rcases List.mem_cons.mp hp with rfl | hp
    · exact L12
    · exact (hoff p hp).1
  intro aS oL' h3 tk3 F3 N3 hoL' hap ht3
  have F3' : Fr base L h3 (fun y => if y = Str.ofString "groups" then some (.ref aG) else m2 y) := by
    rw [← map_eta hm2]; exact F3
  -- the lists
  refine wpAny_execs_cons (with_toksF (n := 1) ht3 (s3 (aG := aG) (aL := aS) (m := m2) (rs := rs) (gs := gs) (nG := c.nG) (nw := (L + 2, oK) :: all0) (oL := oL') PassesOwn.never X T hdp hun F3' N3 hap hoL' (.tail _ hmG) (hP0.mono fun p hp => .tail _ hp) bfew bgl bgn ?_))
  intro us nS h4 m4 tk4 F4 hm4 N4 hus ht4
  have F4' : Fr base L h4 (fun y => if y = Str.ofString "groups" then some (.ref aG) else m4 y) := by
    rw [← map_eta hm4]; exact F4
  have N4' : News base L h4 ([(L + 2, oK), (aG, W.listOf rs.toArray c.nG)] ++ ((aS, W.listOf us.toArray nS) :: (L + 1, oL') :: all0)) := fun p hp => by
    rcases List.mem_cons.mp hp with rfl | hp
    · exact N4 _ (.tail _ (.tail _ (.head _)))
    · rcases List.mem_cons.mp hp with rfl | hp
      · exact N4 _ (.tail _ (.tail _ (.tail _ hmG)))
      · rcases List.mem_cons.mp hp with rfl | hp
        · exact N4 _ (.head _)
        · rcases List.mem_cons.mp hp with rfl | hp
          · exact N4 _ (.tail _ (.head _))
          · exact N4 _ (.tail _ (.tail _ (.tail _ hp)))
  -- keys
  refine wpAny_execs_cons (with_toksF (n := 1) ht4 (s4 (aG := aG) (m := m4) (rs := rs) (nG := c.nG) (oK := oK) (nw := (aS, W.listOf us.toArray nS) :: (L + 1, oL') :: all0) X T hdp hun ht4 F4' N4' ?o4 (hoff _ hmG).2 hoK (by omega) ?_))
  case o4 =>
    intro p hp b hb
    rw [List.mem_singleton.mp hb]
    rcases List.mem_cons.mp hp with rfl | hp
    · exact (hap (L + 2, oK) (.tail _ (.head _))).symm
    · rcases List.mem_cons.mp hp with rfl | hp
      · exact L12.symm
      · exact (hoff p hp).2
  intro aK ks oK' nK h5 tk5 F5 N5 hoK' hks ht5
  have hll : ∀ q ∈ gs.map listL, q.length ≤ 3000 := fun q hq => by
    obtain ⟨g, hg, rfl⟩ := List.mem_map.mp hq
    exact list_len (bgl g hg) (bgn g hg)
  have hlo : ∀ q ∈ gs.map listL, OkL q := fun q hq => by
    obtain ⟨g, hg, rfl⟩ := List.mem_map.mp hq
    exact ok_list (bok g hg)
  have hlsl : (gs.map listL).length ≤ 20 := by rw [List.length_map]; exact bfew
  have hks' : StrsAre ks.toList ((List.range (gs.map listL).length).map keyS) := by rw [List.length_map, ← hrsl]; exact hks
  have hus' : StrsAre us.toArray.toList ((gs.map listL).map S) := hus
  have N5' : News base L h5 ([(aK, W.listOf ks nK), (L + 2, oK'), (aS, W.listOf us.toArray nS), (L + 1, oL')] ++ all0) := fun p hp => by
    rcases List.mem_cons.mp hp with rfl | hp
    · exact N5 _ (.head _)
    · rcases List.mem_cons.mp hp with rfl | hp
      · exact N5 _ (.tail _ (.head _))
      · exact N5 _ (.tail _ (.tail _ (.tail _ hp)))
  -- header
  refine wpAny_execs_cons (with_toksF (n := 1) ht5 (s5 (aK := aK) (aS := aS) (ks := ks) (us := us.toArray) (ls := gs.map listL) (nK := nK) (nS := nS) (nw := all0) (oK := oK') (oL := oL') X T hdp hun F5 N5' hoK' hoL' hks' hus' hlsl hll ?_))
  intro tH h6 tk6 F6 N6 ht6
  -- told
  refine wpAny_execs_cons (with_toksF (n := 1) ht6 (s6 (x := S (headerL (gs.map listL))) (tx := tH) (tgt := tgtL (gs.map listL)) X T hdp hun F6 N6 rfl (by rw [S_len]; exact header_len hlsl hll) (fun ws hws => header_elts hlsl hll ws hws) ?_))
  intro D oD kvs h7 tk7 hsys hod hk1 hk2 F7 N7 hne ht7
  -- told's items
  refine wpAny_execs_cons (with_toksF (n := 1) ht7 (s7 (aK := aK) (aS := aS) (D := D) (oD := oD) (kvs := kvs) (ks := ks) (us := us.toArray) (ls := gs.map listL) (nK := nK) (nS := nS) (nw := all0) (oK := oK') (oL := oL') X T hdp hun F7 N7 hoK' hoL' hks' hus' hlsl hll hlo rfl hsys hod hk1 hk2 ?_))
  intro h8 tk8 F8 N8 ht8
  -- the last loop
  have B : Bears w L aK aS aG D gs ([(D, oD), (aK, W.listOf ks nK), (L + 2, oK'), (aS, W.listOf us.toArray nS), (L + 1, oL')] ++ all0) ks us.toArray nK nS c.nG rs oK' oL' oD kvs :=
    { mD := .head _
      mK := .tail _ (.head _)
      mKc := .tail _ (.tail _ (.head _))
      mS := .tail _ (.tail _ (.tail _ (.head _)))
      mSc := .tail _ (.tail _ (.tail _ (.tail _ (.head _))))
      mG := List.mem_append_right _ hmG
      cK := hoK'
      cL := hoL'
      ks_ := by rw [← hrsl]; exact hks
      us_ := hus'
      gr := hP0.mono fun p hp => List.mem_append_right _ hp
      od := hod
      k1 := hk1
      k2 := hk2
      few := bfew
      gl := bgl
      gn := bgn
      ok := bok }
  refine wpAny_execs_cons (s8 PassesOwn.never X T hdp hun B F8 rfl rfl N8 ?_)
  intro h9 m9 tk9 F9
  exact wpAny_execs_cons (s9 X T F9 (h h9 m9 tk9 F9))

theorem law_body2 {vs : List Value} {ns : List Int} {oK oL : Obj} {v₁ v₂ : Option Value} (X : (hd.heap_39 w.params).In base) (T : Top hd.view_39 (looseW hd.view_39 []) mean mg mb base) (hdp : dp < 400) (hun : un < 400)
    (F : Fr base L s.heap m) (hms : m (Str.ofString "script") = some (.ref l)) (N : News base L s.heap [(L + 2, oK), (L + 1, oL)]) (hoK : oK.data = .cell v₁) (hoL : oL.data = .cell v₂)
    (hl : base.IsList l vs.toArray) (hI : IntsAre vs ns) (hn : ns.length ≤ 63)
    (h : ∀ h' m' tk, Fr base L h' m' → Q (.ret (.bool true)) { s with heap := h', toks := tk }) :
    wpAny (model PR w) (AR dp un gd [lawEnv L fa cd]) (execs lawBody (lawEnv L fa cd)) Q E s :=
  wpAny_mono (law_body X T hdp hun F hms N hoK hoL hl hI hn h) (fun _ _ x => x) fun _ _ f => f.elim
end Mine
end

section
local macro_rules | `(tactic| walk_at "pad") => `(tactic| fail "pad")
local macro_rules | `(tactic| walk_at "pad") => `(tactic| fail "pad")
local macro_rules | `(tactic| walk_at "pad") => `(tactic| fail "pad")
local macro_rules | `(tactic| walk_at "pad") => `(tactic| fail "pad")
local macro_rules | `(tactic| walk_at "pad") => `(tactic| fail "pad")
local macro_rules | `(tactic| walk_at "pad") => `(tactic| fail "pad")
local macro_rules | `(tactic| walk_at "pad") => `(tactic| fail "pad")
local macro_rules | `(tactic| walk_at "pad") => `(tactic| fail "pad")
local macro_rules | `(tactic| walk_at "pad") => `(tactic| fail "pad")
local macro_rules | `(tactic| walk_at "pad") => `(tactic| fail "pad")
local macro_rules | `(tactic| walk_at "pad") => `(tactic| fail "pad")
local macro_rules | `(tactic| walk_at "pad") => `(tactic| fail "pad")
local macro_rules | `(tactic| walk_at "pad") => `(tactic| fail "pad")
local macro_rules | `(tactic| walk_at "pad") => `(tactic| fail "pad")
theorem Mine.freshEnd : True ∧ True := by
  w_top off
  walk1
  all_goals exact True.intro
end

section
open PySem PySem.W PyProof.Rows PySem.Calls PySem.SeqAt Mine
set_option maxRecDepth 100000
set_option maxHeartbeats 400000
theorem PySem.Challenge.cw_mj0093_01_holds : PySem.Challenge.rw_mj0093_01.Holds := by
  refine Mine.hd ?_
  k_go0
  rename IntsAre _ _ => hI
  rename Heap.IsList _ _ _ => hL
  rename News _ _ _ [_, _] => N0
  rename Fr _ _ _ _ => F0
  rename Frag.In _ _ => KX
  rename Top _ _ _ _ _ _ => T0
  change wpAny _ (AR _ _ _ [lawEnv _ _ _]) (execs lawBody (lawEnv _ _ _)) _ _ _
  refine law_body2 KX T0 (by decide) (by decide) F0 rfl N0 (by assumption) (by assumption) hL hI (by omega) ?_
  intro h' m' tk F'
  show GoodW _ _ _ _ _ (.ok (.ret (.bool true))) _
  wrow_close
end
