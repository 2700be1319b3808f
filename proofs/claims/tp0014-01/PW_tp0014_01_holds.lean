import PyProof.Rows.All
import Wide.All
import OpenK.AllK
import Wide.FinOn
import Lean
import PySem.Challenge.RW_tp0014_01
open PySem PySem.W PyProof.Rows PySem.Spec PySem.Calls
set_option Elab.async false
set_option maxRecDepth 100000
set_option maxHeartbeats 0
namespace Mine
open_top hd for PySem.Challenge.rw_tp0014_01
theorem fillK : (PySem.Challenge.rw_tp0014_01 = PySem.Challenge.rw_tp0014_01) ∧ (Mine.hd.heap_39 = Mine.hd.heap_39) := by
  k_fill
  exact ⟨rfl, rfl⟩
end Mine
local macro_rules | `(tactic| walk_at "ST") => `(tactic| first | (k_unfold; (try dsimp only)) | (k_end; kc_close) | walk1 | (dsimp only; walk1) | (leave1; walk_say "STEP leave1"; (try dsimp only)))
local macro_rules | `(tactic| walk_at "UPTOITER") => `(tactic| repeat ((fail_if_success (with_reducible show wpAny _ _ (pyIter _) _ _ _)); walk_at "ST"))
local macro_rules | `(tactic| walk_at "UPTOWHILE") => `(tactic| repeat ((fail_if_success (with_reducible show wpAny _ _ (PySem.exec (PySem.Stmt.While _ _ _ _) _) _ _ _)); walk_at "ST"))
local macro_rules | `(tactic| walk_at "UPTOCUT") => `(tactic| repeat ((fail_if_success (with_reducible show wpAny _ _ (PySem.subscriptTail _ _ _ _) _ _ _)); walk_at "ST"))
local macro_rules | `(tactic| walk_at "UPTODIVMOD") => `(tactic| repeat ((fail_if_success (with_reducible show wpAny _ _ (PySem.call (PySem.Value.builtin "divmod") _ _) _ _ _)); walk_at "ST"))
local macro_rules | `(tactic| walk_at "UPTOLEN") => `(tactic| repeat ((fail_if_success (with_reducible show wpAny _ _ (PySem.call (PySem.Value.builtin "len") _ _) _ _ _)); walk_at "ST"))
local macro_rules | `(tactic| walk_at "UPTOENUM") => `(tactic| repeat ((fail_if_success (with_reducible show wpAny _ _ (PySem.call (PySem.Value.type "enumerate") _ _) _ _ _)); walk_at "ST"))
local macro_rules | `(tactic| walk_at "UPTOPAIR") => `(tactic| repeat ((fail_if_success (with_reducible show wpAny _ _ (PySem.exec (PySem.Stmt.Assign [PySem.Expr.Name _ _] (PySem.Expr.ListComp _ [⟨PySem.Expr.Tuple _ _ _, _, _, _⟩] _ _) _) _) _ _ _)); walk_at "ST"))
local macro_rules | `(tactic| walk_at "UPTOSUM") => `(tactic| repeat ((fail_if_success (with_reducible show wpAny _ _ (PySem.call (PySem.Value.builtin "sum") _ _) _ _ _)); walk_at "ST"))
local macro_rules | `(tactic| walk_at "UPTOEX") => `(tactic| repeat ((fail_if_success (with_reducible refine Exists.intro ?_ ?_)); walk_at "ST"))
local macro_rules | `(tactic| walk_at "UPTOFDIV") => `(tactic| repeat ((fail_if_success (with_reducible show wpAny _ _ (PySem.binaryOp PySem.Operator.FloorDiv _ _) _ _ _)); walk_at "ST"))
local macro_rules | `(tactic| walk_at "UPTOPOW") => `(tactic| repeat ((fail_if_success (with_reducible show wpAny _ _ (PySem.binaryOp PySem.Operator.Pow _ _) _ _ _)); walk_at "ST"))
local macro_rules | `(tactic| walk_at "UPTOCALLREF") => `(tactic| repeat ((fail_if_success (with_reducible show wpAny _ _ (PySem.call (PySem.Value.ref _) _ _) _ _ _)); walk_at "ST"))
local macro_rules | `(tactic| walk_at "UPTOADD") => `(tactic| repeat ((fail_if_success (with_reducible show wpAny _ _ (PySem.binaryOp PySem.Operator.Add _ _) _ _ _)); walk_at "ST"))
local macro_rules | `(tactic| walk_at "UPTOLC") => `(tactic| repeat ((fail_if_success (with_reducible show wpAny _ _ (PySem.eval (PySem.Expr.ListComp _ _ _ _) _) _ _ _)); walk_at "ST"))
local macro_rules | `(tactic| walk_at "UPTOSRC") => `(tactic| repeat ((fail_if_success (with_reducible show PyProof.Rows.LCg.CompSrc _ _ _ _ _ _ _ _ _ _ _ _ _ _)); walk_at "ST"))
local macro_rules | `(tactic| walk_at "UPTOJOIN") => `(tactic| repeat ((fail_if_success (with_reducible show wpAny _ _ (PySem.call (PySem.Value.builtin "str.join") _ _) _ _ _)); walk_at "ST"))
local macro_rules | `(tactic| walk_at "UPTOCE") => `(tactic| repeat ((fail_if_success (with_reducible show PyProof.Rows.LCg.CompEnd _ _ _ _ _ _ _ _ _ _ _ _ _ _)); walk_at "ST"))
local macro_rules | `(tactic| walk_at "UPTOSTORE") => `(tactic| repeat ((fail_if_success (with_reducible show wpAny _ _ (PySem.storeName _ _ _) _ _ _)); walk_at "ST"))
local macro_rules | `(tactic| walk_at "UPTOALC") => `(tactic| repeat ((fail_if_success (with_reducible show wpAny _ _ (PySem.exec (PySem.Stmt.Assign [PySem.Expr.Name _ _] (PySem.Expr.ListComp _ _ _ _) _) _) _ _ _)); walk_at "ST"))
local macro_rules | `(tactic| walk_at "UPTOEQL") => `(tactic| repeat ((fail_if_success (with_reducible show wpAny _ _ (PySem.compareOp PySem.CmpOp.Eq (PySem.Value.ref _) (PySem.Value.ref _)) _ _ _)); walk_at "ST"))
local macro_rules | `(tactic| walk_at "UPTOEQI") => `(tactic| repeat ((fail_if_success (with_reducible show wpAny _ _ (PySem.compareOp PySem.CmpOp.Eq (PySem.Value.int _ _) (PySem.Value.int _ _)) _ _ _)); walk_at "ST"))
namespace Mine
def cTurn (p f m : Int) : Bool := ((m * m + p).fmod (4 * f) == 0) && (decide ((m * m + p).fdiv (4 * f) > f) || (((m * m + p).fdiv (4 * f) == f) && decide (m ≥ 0)))
def cRow (p f : Int) (ms : List Int) : Int := ms.foldl (fun c m => if cTurn p f m then c + 1 else c) 0
def cAll (p : Int) (fs : List Int) : Int := fs.foldl (fun c f => c + cRow p f (rangeKs (1 - f) (f + f).toNat)) 0
theorem cRow_snoc (p f m : Int) (ms : List Int) : cRow p f (ms ++ [m]) = if cTurn p f m then cRow p f ms + 1 else cRow p f ms := by
  simp only [cRow, List.foldl_append, List.foldl_cons, List.foldl_nil]
theorem cAll_snoc (p f : Int) (fs : List Int) : cAll p (fs ++ [f]) = cAll p fs + cRow p f (rangeKs (1 - f) (f + f).toNat) := by
  simp only [cAll, List.foldl_append, List.foldl_cons, List.foldl_nil]
def classes (p : Int) : Int := cAll p [1, 2, 3, 4, 5]
end Mine
namespace Mine
theorem stA1 {p f m c c₀ : Int} {ms : List Int} (h : c = c₀ + cRow p f ms) (h1 : cTurn p f m = true) : c + 1 = c₀ + cRow p f (ms ++ [m]) := by
  rw [cRow_snoc, if_pos h1, h]; omega
theorem stA0 {p f m c c₀ : Int} {ms : List Int} (h : c = c₀ + cRow p f ms) (h1 : cTurn p f m = false) : c = c₀ + cRow p f (ms ++ [m]) := by
  rw [cRow_snoc, h1, h]; simp
theorem stA2 {p f c c₀ : Int} {n : Nat} {fs : List Int} (h : c = c₀ + cRow p f (rangeKs (1 - f) n)) (h1 : c₀ = cAll p fs) (hn : n = (f + f).toNat) : c = cAll p (fs ++ [f]) := by
  rw [cAll_snoc, h, h1, hn]
theorem ctT1 {p f m : Int} (h0 : (m * m + p).fmod (4 * f) = 0) (h : f < (m * m + p).fdiv (4 * f)) : cTurn p f m = true := by
  simp [cTurn, h0, h]
theorem ctT2 {p f m : Int} (h0 : (m * m + p).fmod (4 * f) = 0) (h : (m * m + p).fdiv (4 * f) = f) (hm : 0 ≤ m) : cTurn p f m = true := by
  simp [cTurn, h0, h, hm]
theorem ctF1 {p f m : Int} (h1 : ¬ f < (m * m + p).fdiv (4 * f)) (hm : ¬ 0 ≤ m) : cTurn p f m = false := by
  simp [cTurn, h1, hm]
theorem ctF2 {p f m : Int} (h1 : ¬ f < (m * m + p).fdiv (4 * f)) (h : (m * m + p).fdiv (4 * f) ≠ f) : cTurn p f m = false := by
  simp [cTurn, h, h1]
theorem ctF3 {p f m : Int} (h0 : (m * m + p).fmod (4 * f) ≠ 0) : cTurn p f m = false := by
  simp [cTurn, h0]
theorem classes_ret {p c : Int} (h : c = cAll p (rangeKs 1 (6 - 1 : Int).toNat)) : c = classes p := h
end Mine
theorem Mine.classes_call {w : World} {mean : ExcName → Option Value} {mg mb : Str → Option Value} {news : List (Addr × Obj)} (p : Int) (hp : 7 ≤ p ∧ p ≤ 83) (tp : Tok) :
  CbClaim PySem.Challenge.rw_tp0014_01.row.prog w (Mine.hd.heap_39 w.params) Mine.hd.view_39 (looseW Mine.hd.view_39 [Str.ofString "Whitespace"]) mean mg mb 101 news [] True [.int p tp] (fun t => .int (Mine.classes p) t) := by
  dsimp only [CbClaim, CbLists, CbRet]
  intros
  rename_i hret
  refine wpAny_call ?_
  k_dflt cell_enter
  walk_at "UPTOITER"
  k_with "state" => first
    | exact (rfl : (0 : Int) = Mine.cAll p [])
    | exact (Int.add_zero _).symm
    | exact Mine.stA1 (by assumption) (Mine.ctT1 (by assumption) (by assumption))
    | exact Mine.stA1 (by assumption) (Mine.ctT2 (by assumption) (by assumption) (by assumption))
    | exact Mine.stA0 (by assumption) (Mine.ctF1 (by assumption) (by assumption))
    | exact Mine.stA0 (by assumption) (Mine.ctF2 (by assumption) (by assumption))
    | exact Mine.stA0 (by assumption) (Mine.ctF3 (by assumption))
    | exact Mine.stA2 (by assumption) (by assumption) (by congr 1; omega)
  k_state_short (fun pre c => c = Mine.cAll p pre) "count"
  · walk_at "UPTOITER"
    k_state_given ["first", "count!"] (fun first c₀ pre c => c = c₀ + Mine.cRow p first pre) "count"
    · repeat' (walk_at "ST")
    · repeat' (walk_at "ST")
  · repeat' (walk_at "ST")
    exact cb_retI hret (Mine.classes_ret (by assumption)) (by assumption) (by assumption)
namespace Mine
def apF : Nat → Nat → List UInt8 → List UInt8
  | 0, _, acc => acc
  | k + 1, n, acc => if n = 0 then acc else apF k (n / 16) (UInt8.ofNat (65 + n % 16) :: acc)
theorem apF_zero : ∀ (k : Nat) (acc : List UInt8), apF k 0 acc = acc
  | 0, _ => rfl
  | _ + 1, _ => rfl
def ApInv (n : Nat) (num : Int) (val : Array UInt8) : Prop := ∃ k, num.toNat < 16 ^ k ∧ val.size + k ≤ 42 ∧ apF k num.toNat val.toList = apF 42 n []
theorem apInv_start {n : Nat} (hn : n < 16 ^ 42) {x : Int} (hx : x = (n : Int)) : ApInv n x #[] := by
  subst hx
  exact ⟨42, by simpa using hn, by decide, by simp⟩
theorem apInv_turn {n : Nat} {num : Int} {val : Array UInt8} (h0 : 0 ≤ num) (h : ApInv n num val) (hne : num ≠ 0) : (#[UInt8.ofNat (65 + (num.fmod 16).toNat)] ++ val).size ≤ 42 ∧ ApInv n (num.fdiv 16) (#[UInt8.ofNat (65 + (num.fmod 16).toNat)] ++ val) := by
  obtain ⟨k, h1, h2, h3⟩ := h
  cases k with
  | zero => exfalso; simp at h1; omega
  | succ k =>
    obtain ⟨m, rfl⟩ : ∃ m : Nat, num = (m : Int) := ⟨num.toNat, by omega⟩
    have e1 : ((m : Int).fdiv 16) = ((m / 16 : Nat) : Int) := by
      rw [Int.fdiv_eq_ediv_of_nonneg _ (by decide)]; omega
    have e2 : ((m : Int).fmod 16) = ((m % 16 : Nat) : Int) := by
      rw [Int.fmod_eq_emod_of_nonneg _ (by decide)]; omega
    have hsz : (#[UInt8.ofNat (65 + ((m : Int).fmod 16).toNat)] ++ val).size = val.size + 1 := by simp; omega
    refine ⟨by rw [hsz]; omega, k, ?_, by rw [hsz]; omega, ?_⟩
    · rw [e1]; simp only [Int.toNat_natCast] at h1 ⊢
      rw [Nat.pow_succ] at h1
      exact Nat.div_lt_of_lt_mul (by omega)
    · rw [← h3, e1, e2]
      simp only [Int.toNat_natCast]
      have hm : m ≠ 0 := by omega
      show _ = apF (k + 1) m val.toList
      rw [apF, if_neg hm]
      simp
theorem apInv_end {n : Nat} {num : Int} {val : Array UInt8} (h : ApInv n num val) (h0 : num = 0) : val = (apF 42 n []).toArray := by
  obtain ⟨k, _, _, h3⟩ := h
  subst h0
  rw [← h3]
  show val = (apF k 0 val.toList).toArray
  rw [apF_zero]
theorem ap_less {num : Int} (h0 : 0 ≤ num) (hne : num ≠ 0) : (num.fdiv 16).toNat < num.toNat := by
  rw [Int.fdiv_eq_ediv_of_nonneg _ (by decide)]; omega
theorem ap_nonneg {num : Int} (h0 : 0 ≤ num) : 0 ≤ num.fdiv 16 := by
  rw [Int.fdiv_eq_ediv_of_nonneg _ (by decide)]; omega
theorem ap_mod {num : Int} : 0 ≤ num.fmod 16 ∧ num.fmod 16 < 16 := by
  rw [Int.fmod_eq_emod_of_nonneg _ (by decide)]; omega
abbrev apLit : Array UInt8 := #[65, 66, 67, 68, 69, 70, 71, 72, 73, 74, 75, 76, 77, 78, 79, 80]
theorem ap_picked {m : Int} (h0 : 0 ≤ m) (h1 : m < 16) : KBy.picked apLit (some m) (some (m + 1)) = #[UInt8.ofNat (65 + m.toNat)] := by
  obtain ⟨k, rfl⟩ : ∃ k : Nat, m = (k : Int) := ⟨m.toNat, by omega⟩
  have hk : k < 16 := by omega
  have : ∀ k : Fin 16, KBy.picked apLit (some (k.val : Int)) (some ((k.val : Int) + 1)) = #[UInt8.ofNat (65 + ((k.val : Int)).toNat)] := by decide +kernel
  exact this ⟨k, hk⟩
theorem ap_cut {prog : Program} {w : World} {A : Around} {E : Value → Shared → Prop} {s : Shared} {value slice : PySem.Expr} {t tl tu : Tok} {h₀ : Heap} {L : Addr} {mm : PySem.Str → Option Value} {news : List (Addr × Obj)} {m : Int} {Q : Value → Shared → Prop}
    (hF : Fr h₀ L s.heap mm) (hN : News h₀ L s.heap news) (h0 : 0 ≤ m) (h1 : m < 16)
    (h : ∀ h' t' k, Fr h₀ L h' mm → News h₀ L h' news → Q (.bytes #[UInt8.ofNat (65 + m.toNat)] t') { s with heap := h', toks := k })
    (hs : subscripted slice false (.bytes apLit t) (.ref s.heap.objs.size) = operate [.ref s.heap.objs.size, .bytes apLit t] (getItem (.bytes apLit t) (.ref s.heap.objs.size)) := by with_unfolding_all rfl)
    (ht : ∀ r, letTemporaryGo value (.bytes apLit t) r = pure () := by intro _; with_unfolding_all rfl) :
    wpAny (model prog w) A (subscriptTail value slice (.bytes apLit t) (.ref s.heap.objs.size)) Q E { s with heap := s.heap.push { cls := .type "slice", data := .fields #[.int m tl, .int (m + 1) tu, .none] } } := by
  refine KBc.slice_K (ks := KBw.bInts apLit) hF hN rfl (.int _ _) (.int _ _) (by decide) (fun h' t' k F' N' _ => ?_) hs ht
  rw [ap_picked h0 h1]
  exact h h' t' k F' N'
theorem cb_retY {h₀ h' : Heap} {L : Addr} {m : Str → Option Value} {news : List (Addr × Obj)} {s : Shared} {Q : Value → Shared → Prop} {t : Tok} {tk' : Nat} {x y : Array UInt8} (hret : ∀ (t : Tok) (h' : Heap) (tk' : Nat), Fr h₀ L h' m → News h₀ L h' news → Q (.bytes x t) { s with heap := h', toks := tk' }) (e : y = x) (F : Fr h₀ L h' m) (N : News h₀ L h' news) : Q (.bytes y t) { s with heap := h', toks := tk' } := by
  subst e
  exact hret t h' tk' F N
end Mine
theorem Mine.ap_call {w : World} {mean : ExcName → Option Value} {mg mb : Str → Option Value} {news : List (Addr × Obj)} (n : Nat) (hn : n < 16 ^ 42) (tp : Tok) :
  CbClaim PySem.Challenge.rw_tp0014_01.row.prog w (Mine.hd.heap_39 w.params) Mine.hd.view_39 (looseW Mine.hd.view_39 [Str.ofString "Whitespace"]) mean mg mb 94 news [] True [.int (- (n : Int)) tp] (fun t => .bytes (Mine.apF 42 n []).toArray t) := by
  dsimp only [CbClaim, CbLists, CbRet]
  intros
  rename_i hret
  refine wpAny_call ?_
  k_dflt cell_enter
  walk_at "UPTOWHILE"
  k_with "measure" => exact Mine.ap_less (by assumption) (by assumption)
  k_with "state" => first
    | exact ⟨by omega, by decide, Mine.apInv_start hn (by omega)⟩
    | exact ⟨Mine.ap_nonneg (by assumption), Mine.apInv_turn (by assumption) (by assumption) (by assumption)⟩
  k_while (fun _ num val => 0 ≤ num ∧ val.size ≤ 42 ∧ Mine.ApInv n num val) (fun _ num val => num.toNat) "num" "val"
  walk_at "ST"
  walk_at "ST"
  walk_at "ST"
  walk_at "ST"
  walk_at "UPTOCUT"
  (with_reducible rename Fr _ _ _ _ => F')
  (with_reducible rename News _ _ _ _ => N')
  refine Mine.ap_cut (s := ⟨_, _, _, _, _⟩) F' N' Mine.ap_mod.1 Mine.ap_mod.2 ?_
  intro h' t' k F' N'
  repeat' (walk_at "ST")
  exact Mine.cb_retY hret (Mine.apInv_end (by assumption) (by assumption)) (by assumption) (by assumption)
namespace Mine
abbrev Claim (w : World) (mean : ExcName → Option Value) (mg mb : Str → Option Value) (f : Addr) (news : List (Addr × Obj)) (vs : List Value) (ret : Heap → Addr → (Str → Option Value) → Shared → (Value → Shared → Prop) → Prop) : Prop :=
  ∀ (dp un : Nat) (gd : Option (List Code)) (cn : Str) (cs : Scope) (a : Addr) (ccd : Value) (cl : List (Str × Addr)) (outer : List Env) (A₀ : Around) (base h₀ : Heap) (L : Addr) (m : Str → Option Value) (s : Shared) (Q E : Value → Shared → Prop),
    Below A₀ base outer h₀ → Fr h₀ L s.heap m → (Mine.hd.heap_39 w.params).In h₀ → News h₀ L s.heap news → Top Mine.hd.view_39 (looseW Mine.hd.view_39 [Str.ofString "Whitespace"]) mean mg mb h₀ → cs.kind = .function →
    dp + 1 < recursionLimit → un + 8 < cLine → ret h₀ L m s Q →
    wpAny (model PySem.Challenge.rw_tp0014_01.row.prog w) (ktrTop dp un gd cn cs L a ccd cl outer) (call (.ref f) vs) Q E s
def numF (ls : List Int) : Int := ls.foldl (fun a l => 16 * a + l - 65) 0
theorem numF_snoc (ls : List Int) (l : Int) : numF (ls ++ [l]) = 16 * numF ls + l - 65 := by
  simp only [numF, List.foldl_append, List.foldl_cons, List.foldl_nil]
def strOf (l : List Nat) : Str := ⟨l.toArray⟩
def runsT (rs : List Nat) : List Nat := rs.flatMap fun r => List.replicate r 32 ++ [9]
theorem runsT_snoc (rs : List Nat) (r : Nat) : runsT (rs ++ [r]) = runsT rs ++ (List.replicate r 32 ++ [9]) := by
  simp [runsT]
theorem strOf_length (l : List Nat) : (strOf l).length = l.length := by
  show l.toArray.size = l.length
  simp
theorem strOf_append (a b : List Nat) : strOf a ++ strOf b = strOf (a ++ b) := by
  refine PySem.Str.ext' ?_
  rw [PySem.Str.cps_append]
  show a.toArray ++ b.toArray = (a ++ b).toArray
  simp
theorem mul_blank (n : Int) : Txt.mul (Str.ofString " ") n = strOf (List.replicate n.toNat 32) := by
  refine PySem.Str.ext' (Array.toList_inj.mp ?_)
  have e : Str.ofString " " = ⟨#[32]⟩ := by decide +kernel
  rw [e, mul_one_list]
  show _ = (List.replicate n.toNat 32).toArray.toList
  simp
theorem tab_is : Str.ofString "\t" = strOf [9] := by decide +kernel
theorem strOf_run (a : List Nat) (n : Int) : (strOf a ++ Txt.mul (Str.ofString " ") n) ++ Str.ofString "\t" = strOf (a ++ (List.replicate n.toNat 32 ++ [9])) := by
  rw [mul_blank, tab_is, strOf_append, strOf_append, List.append_assoc]
def numAt (W x0 : Int) (pre : List Int) : Int := pre.foldl (fun x l => 16 * x - (l - 65) * W) x0
theorem numAt_snoc (W x0 : Int) (pre : List Int) (l : Int) : numAt W x0 (pre ++ [l]) = 16 * numAt W x0 pre - (l - 65) * W := by
  simp only [numAt, List.foldl_append, List.foldl_cons, List.foldl_nil]
def nearR (p W : Int) : Int → List Int → List Nat
  | _, [] => []
  | x, l :: ls => (if l < 73 then [((x * p).fdiv W).toNat] else []) ++ nearR p W (16 * x - (l - 65) * W) ls
def farR (p W : Int) : Int → List Int → List Nat
  | _, [] => []
  | x, l :: ls => (if l < 73 then [] else [(p - (x * p).fdiv W).toNat]) ++ farR p W (16 * x - (l - 65) * W) ls
def leadOk (p W : Int) : Int → List Int → Bool
  | _, [] => true
  | x, l :: ls => ((x * p).fmod W == 0) && decide (0 ≤ (x * p).fdiv W) && decide ((x * p).fdiv W ≤ p) && leadOk p W (16 * x - (l - 65) * W) ls
theorem nearR_snoc (p W : Int) (l : Int) : ∀ (pre : List Int) (x : Int), nearR p W x (pre ++ [l]) = nearR p W x pre ++ (if l < 73 then [((numAt W x pre * p).fdiv W).toNat] else [])
  | [], x => by simp [nearR, numAt]
  | k :: r, x => by
    have ih := nearR_snoc p W l r (16 * x - (k - 65) * W)
    have e : numAt W (16 * x - (k - 65) * W) r = numAt W x (k :: r) := by simp [numAt]
    rw [e] at ih
    simp only [List.cons_append, nearR, ih, List.append_assoc]
theorem farR_snoc (p W : Int) (l : Int) : ∀ (pre : List Int) (x : Int), farR p W x (pre ++ [l]) = farR p W x pre ++ (if l < 73 then [] else [(p - (numAt W x pre * p).fdiv W).toNat])
  | [], x => by simp [farR, numAt]
  | k :: r, x => by
    have ih := farR_snoc p W l r (16 * x - (k - 65) * W)
    have e : numAt W (16 * x - (k - 65) * W) r = numAt W x (k :: r) := by simp [numAt]
    rw [e] at ih
    simp only [List.cons_append, farR, ih, List.append_assoc]
theorem leadOk_at' {p W l : Int} {post : List Int} : ∀ (pre : List Int) (x : Int), leadOk p W x (pre ++ l :: post) = true → (numAt W x pre * p).fmod W = 0 ∧ 0 ≤ (numAt W x pre * p).fdiv W ∧ (numAt W x pre * p).fdiv W ≤ p
  | [], x, h => by
    simp only [List.nil_append, leadOk, Bool.and_eq_true, beq_iff_eq, decide_eq_true_eq] at h
    simp only [numAt, List.foldl_nil]
    exact ⟨h.1.1.1, h.1.1.2, h.1.2⟩
  | k :: r, x, h => by
    simp only [List.cons_append, leadOk, Bool.and_eq_true] at h
    have := leadOk_at' (post := post) r _ h.2
    have e : numAt W (16 * x - (k - 65) * W) r = numAt W x (k :: r) := by simp [numAt]
    rw [e] at this
    exact this
theorem leadOk_at {p W l x x0 : Int} {ks pre post : List Int} (hx : x = numAt W x0 pre) (e : ks = pre ++ l :: post) (h : leadOk p W x0 ks = true) : (x * p).fmod W = 0 ∧ 0 ≤ (x * p).fdiv W ∧ (x * p).fdiv W ≤ p := by
  subst hx e
  exact leadOk_at' pre x0 h
structure LeadInv (p W x0 : Int) (pre : List Int) (x : Int) (near far : Str) : Prop where
  num : x = numAt W x0 pre
  nr : near = strOf (runsT (nearR p W x0 pre))
  fr : far = strOf (runsT (farR p W x0 pre))
theorem lead_start (p W x0 : Int) : LeadInv p W x0 [] x0 (Str.ofString "") (Str.ofString "") := ⟨rfl, rfl, rfl⟩
theorem lead_near {p W x0 l x : Int} {pre : List Int} {near far : Str} (h : LeadInv p W x0 pre x near far) (hl : l < 73) :
    LeadInv p W x0 (pre ++ [l]) (16 * x - (l - 65) * W) ((near ++ Txt.mul (Str.ofString " ") ((x * p).fdiv W)) ++ Str.ofString "\t") far := by
  refine ⟨by rw [numAt_snoc, h.num], ?_, ?_⟩
  · rw [h.nr, strOf_run, nearR_snoc, if_pos hl, runsT_snoc, ← h.num]
  · rw [farR_snoc, if_pos hl, List.append_nil]; exact h.fr
theorem lead_far {p W x0 l x : Int} {pre : List Int} {near far : Str} (h : LeadInv p W x0 pre x near far) (hl : ¬ l < 73) :
    LeadInv p W x0 (pre ++ [l]) (16 * x - (l - 65) * W) near ((far ++ Txt.mul (Str.ofString " ") (p - (x * p).fdiv W)) ++ Str.ofString "\t") := by
  refine ⟨by rw [numAt_snoc, h.num], ?_, ?_⟩
  · rw [nearR_snoc, if_neg hl, List.append_nil]; exact h.nr
  · rw [h.fr, strOf_run, farR_snoc, if_neg hl, runsT_snoc, ← h.num]
end Mine
theorem Mine.leads_call {w : World} {mean : ExcName → Option Value} {mg mb : Str → Option Value} {news : List (Addr × Obj)} (b : Array UInt8) (ks : List Int) (hks : KBw.bInts b = ks) (hlen : ks.length ≤ 41) (p : Int) (hp : 7 ≤ p ∧ p ≤ 83) (W : Int) (hW0 : W ≠ 0) (hlog : W.natAbs.log2 < 9000)
  (hOK : Mine.leadOk p W (Mine.numF ks) ks = true) (tb tp tw : Tok) :
  Mine.Claim w mean mg mb 108 news [.bytes b tb, .int p tp, .int W tw] (fun h₀ L m s Q => ∀ (D : Addr) (t1 t2 : Tok) (h' : Heap) (tk' : Nat), Fr h₀ L h' m →
    News h₀ L h' ((D, { cls := .type "tuple", data := .seq #[.str (Mine.strOf (Mine.runsT (Mine.nearR p W (Mine.numF ks) ks))) t1, .str (Mine.strOf (Mine.runsT (Mine.farR p W (Mine.numF ks) ks))) t2] }) :: news) → (∀ q ∈ news, q.1 < D) → Q (.ref D) { s with heap := h', toks := tk' }) := by
  dsimp only [Mine.Claim]
  intros
  rename_i hret
  refine wpAny_call ?_
  k_dflt cell_enter
  k_with "pyIter bytes" => fail
  walk_at "UPTOITER"
  k_with "state" => first
    | exact (rfl : (0 : Int) = Mine.numF [])
    | ((with_reducible rename _ = Mine.numF _ => hh); (rw [Mine.numF_snoc, ← hh]))
  k_state (fun pre number => number = Mine.numF pre) "number"
  · repeat' (walk_at "ST")
  · walk_at "UPTOITER"
    k_with "state" => first
      | exact ⟨by (with_reducible rename _ = Mine.numF _ => hh); rw [hh]; exact Mine.lead_start _ _ _, by decide, by decide⟩
      | (refine ⟨Mine.lead_near (by assumption) (by assumption), ?_, ?_⟩ <;> simp only [List.length_append, List.length_cons, List.length_nil, Str.length_append] <;> omega)
      | (refine ⟨Mine.lead_far (by assumption) (by assumption), ?_, ?_⟩ <;> simp only [List.length_append, List.length_cons, List.length_nil, Str.length_append] <;> omega)
    k_state (fun pre number near far => Mine.LeadInv p W (Mine.numF ks) pre number near far ∧ near.length ≤ 84 * pre.length ∧ far.length ≤ 84 * pre.length) "number" "near" "far"
    · walk_at "UPTODIVMOD"
      refine divmod_N (by assumption) (by assumption) hW0 ?_ (Or.inl (PyProof.noPylong_of_log2 hlog))
      have hok := Mine.leadOk_at (Mine.LeadInv.num (by assumption)) kEq hOK
      obtain ⟨hr0, hr1, hr2⟩ := hok
      have hl1 : (Str.ofString "\t").length = 1 := by decide +kernel
      intro h' F' N'
      repeat' (walk_at "ST")
      exact absurd hr0 (by assumption)
    · repeat' (walk_at "ST")
      (with_reducible rename Mine.LeadInv _ _ _ _ _ _ _ => hI)
      (with_reducible rename News _ _ _ _ => kN)
      (with_reducible rename _ < _ ∧ AllLt _ _ => l1)
      obtain ⟨hn, h1, h2⟩ := hI
      subst h1 h2
      exact hret _ _ _ _ _ (by assumption) (cb_drop kN (fun q hq => (List.mem_cons.mp hq).elim (fun e => e ▸ .head _) fun hq => .tail _ (.tail _ hq))) (kst_ltOf l1.2)
namespace Mine
section
variable {prog : Program} {w : World} {A : Around} {E : Value → Shared → Prop} {s : Shared} {env : Env} {h₀ : Heap} {x : Str} {body : List Stmt} {Q : Flow → Shared → Prop}
def StrEnd (h₀ : Heap) (L : Addr) (J : (Str → Option Value) → List (Addr × Obj) → Prop) (I : Addr) (oI : Obj) (s₁ : Shared) (f : Flow) (s₂ : Shared) : Prop :=
  f = .next ∧ ∃ h' tk m' nx, s₂ = { s₁ with heap := h', toks := tk } ∧ Fr h₀ L h' m' ∧ News h₀ L h' ((I, oI) :: nx) ∧ (∀ p ∈ nx, p.1 ≠ I) ∧ J m' nx
theorem iter_strG {xt : Str} {tx : Tok} {m₀ : Str → Option Value} {news : List (Addr × Obj)} (J : Nat → (Str → Option Value) → List (Addr × Obj) → Prop)
    (ha : xt.cps.all (· < 128) = true) (hh : A.handled = none) (F : Fr h₀ env.locals s.heap m₀) (N : News h₀ env.locals s.heap news) (hj : J 0 m₀ news)
    (turn : ∀ i c t m₁ news₁ h tk I oI, xt.cps[i]? = some c → (∀ p ∈ news₁, p.1 ≠ I) → J i m₁ news₁ → Fr h₀ env.locals h (fun y => if y = x then some (.str ⟨#[c]⟩ t) else m₁ y) → News h₀ env.locals h ((I, oI) :: news₁) →
      wpAny (model prog w) A (execs body env) (StrEnd h₀ env.locals (J (i + 1)) I oI { s with heap := h, toks := tk }) E { s with heap := h, toks := tk })
    (done : ∀ m₁ news₁ h tk, J xt.cps.size m₁ news₁ → Fr h₀ env.locals h m₁ → News h₀ env.locals h news₁ → Q .next { s with heap := h, toks := tk }) :
    wpAny (model prog w) A (pyIter (.str xt tx)) (fun it s₂ => LoopAtV prog w A h₀ env x body Q E it s₂) E s := by
  have W := Walks.strAscii (prog := prog) (w := w) hh s.heap.objs.size xt tx
  refine wpAny_pyIter_ascii ha ?_
  refine ⟨_, _, _, xt.cps.size, _, _, m₀, news, J, rfl, W, ?_, ?_, ?_, ⟨_, Heap.get?_push_size _ rfl, rfl, rfl⟩, F.push _, (fun p hp => ⟨Heap.get?_push_of_some _ (N p hp).1, (N p hp).2⟩), hj, ?_, ?_⟩
  · intro hm
    exact absurd F.ns.lt ((List.mem_singleton.mp hm) ▸ Nat.lt_irrefl _)
  · intro b hb
    rw [List.mem_singleton.mp hb]
    exact next_is_new F
  · intro p hp hI
    exact absurd (Heap.lt_size (N p hp).1) ((List.mem_singleton.mp hI) ▸ Nat.lt_irrefl _)
  · rintro i v m₁ news₁ s₁ own ⟨hh', tk', rfl⟩ hin hP hJ hoff hown hget hfp hst F₁ N₁
    have hI0 : h₀.get? s.heap.objs.size = none := next_is_new F
    obtain ⟨oI, hoI, _⟩ := id hst
    have hIown : (s.heap.objs.size, oI) ∈ own := hfp _ (List.mem_singleton.mpr rfl) hI0 _ hoI
    have hall : ∀ p ∈ own, p = (s.heap.objs.size, oI) := by
      intro p hp
      have e1 := List.mem_singleton.mp (hown p hp)
      have e2 := hget p hp
      rw [e1, hoI] at e2
      obtain ⟨a, b⟩ := p
      simp only at e1 e2
      subst e1
      cases e2
      rfl
    obtain ⟨c, t, hc, rfl⟩ := hP
    have hne : ∀ p ∈ news₁, p.1 ≠ s.heap.objs.size := fun p hp e => hoff p hp (List.mem_singleton.mpr e)
    have N₂ : News h₀ env.locals hh' ((s.heap.objs.size, oI) :: news₁) := fun p hp => N₁ p ((List.mem_cons.mp hp).elim (fun e => List.mem_append.mpr (.inl (e ▸ hIown))) fun hp => List.mem_append.mpr (.inr hp))
    refine wpAny_mono (turn i c t m₁ news₁ hh' tk' s.heap.objs.size oI hc hne hJ F₁ N₂) (fun f s₂ p => ?_) fun _ _ e => e
    obtain ⟨rfl, h', tk, m', nx, e, F', N', hn, hm⟩ := p
    refine .next ⟨rfl, h', tk, m', nx, e, F', fun p hp => ?_, fun p hp hq => hn p hp (List.mem_singleton.mp hq), hm⟩
    rcases List.mem_append.mp hp with h1 | h1
    · rw [hall p h1]; exact N' _ (.head _)
    · exact N' p (.tail _ h1)
  · rintro h' tk m' news' F' N' _ hJ
    exact done m' news' h' tk hJ F' N'
end
end Mine
namespace Mine
structure WS where
  cnt : List Int
  b : Int
  n : Int
  nt : Int
def bump (cnt : List Int) (b : Int) : List Int :=
  let c := if (cnt.length : Int) ≤ b then cnt ++ (List.replicate (b - cnt.length + 1).toNat [0]).flatten else cnt
  c.set b.toNat (c.getD b.toNat 0 + 1)
def wsStep (st : WS) (c : Nat) : WS := if c = 32 then ⟨st.cnt, st.b + 1, st.n + 1, st.nt⟩ else ⟨bump st.cnt st.b, 0, st.n + 1, st.nt + 1⟩
def wsAt (l : List Nat) : WS := l.foldl wsStep ⟨[], 0, 0, 0⟩
theorem wsAt_snoc (l : List Nat) (c : Nat) : wsAt (l ++ [c]) = wsStep (wsAt l) c := by simp [wsAt]
def WsOk (k : Nat) (st : WS) : Prop := 0 ≤ st.b ∧ st.b ≤ k ∧ st.cnt.length ≤ k ∧ 0 ≤ st.n ∧ st.n ≤ k ∧ 0 ≤ st.nt ∧ st.nt ≤ k
theorem bump_length (cnt : List Int) (b : Int) (h0 : 0 ≤ b) : (bump cnt b).length = if (cnt.length : Int) ≤ b then b.toNat + 1 else cnt.length := by
  unfold bump
  split
  · simp; omega
  · simp
theorem wsOk_step {k : Nat} {st : WS} (h : WsOk k st) (c : Nat) : WsOk (k + 1) (wsStep st c) := by
  obtain ⟨h1, h2, h3, h4, h5, h6, h7⟩ := h
  unfold wsStep
  split
  · exact ⟨by simp only; omega, by simp only; omega, by simp only; omega, by simp only; omega, by simp only; omega, h6, by simp only; omega⟩
  · refine ⟨by simp, by simp; omega, ?_, by simp only; omega, by simp only; omega, by simp only; omega, by simp only; omega⟩
    simp only
    rw [bump_length _ _ h1]
    split <;> omega
theorem wsOk_at (l : List Nat) : WsOk l.length (wsAt l) := by
  suffices h : ∀ (l : List Nat) (st : WS) (k : Nat), WsOk k st → WsOk (k + l.length) (l.foldl wsStep st) by
    have := h l ⟨[], 0, 0, 0⟩ 0 ⟨by simp, by simp, by simp, by simp, by simp, by simp, by simp⟩
    simpa [wsAt] using this
  intro l
  induction l with
  | nil => intro st k h; simpa using h
  | cons c r ih =>
    intro st k h
    have := ih (wsStep st c) (k + 1) (wsOk_step h c)
    simp only [List.foldl_cons, List.length_cons]
    have e : k + (r.length + 1) = k + 1 + r.length := by omega
    rw [e]; exact this
structure WsC where
  a : Addr
  vs : List Value
  k : Nat
  tb : Tok
  tn : Tok
  tt : Tok
def wsPs (st : WS) (c : WsC) : List (Str × Value) := [(Str.ofString "count", .ref c.a), (Str.ofString "b", .int st.b c.tb), (Str.ofString "n", .int st.n c.tn), (Str.ofString "nt", .int st.nt c.tt)]
def WsJ (news0 : List (Addr × Obj)) (m₀ : Str → Option Value) (st : WS) (m : Str → Option Value) (nx : List (Addr × Obj)) : Prop :=
  ∃ c : WsC, nx = (c.a, listOf c.vs.toArray c.k) :: news0 ∧ IntsAre c.vs st.cnt ∧ (∀ p ∈ wsPs st c, m p.1 = some p.2) ∧ (∀ z, z ≠ Str.ofString "ch" → (∀ p ∈ wsPs st c, z ≠ p.1) → ([] : List Str).contains z = false → m z = m₀ z) ∧ (∀ p ∈ news0, p.1 ≠ c.a)
theorem cps_take (xt : Str) {i c : Nat} (h : xt.cps[i]? = some c) : xt.cps.toList.take (i + 1) = xt.cps.toList.take i ++ [c] := by
  rw [List.take_add_one]
  have : xt.cps.toList[i]? = some c := by simpa using h
  rw [this]; rfl
end Mine
namespace Mine
section
variable {prog : Program} {w : World} {A : Around} {E : Value → Shared → Prop} {s : Shared} {env : Env} {h₀ : Heap} {body : List Stmt} {Q : Flow → Shared → Prop}
theorem ws_iter {xt : Str} {tx : Tok} {m₀ : Str → Option Value} {news0 : List (Addr × Obj)} {a0 : Addr} {t1 t2 t3 : Tok} {n0 : Nat}
    (hx : ∀ c ∈ xt.cps.toList, c = 32 ∨ c = 9) (hlen : xt.length ≤ 100000) (hh : A.handled = none)
    (F : Fr h₀ env.locals s.heap m₀) (N : News h₀ env.locals s.heap ((a0, listOf ([] : List Value).toArray n0) :: news0)) (hne0 : ∀ p ∈ news0, p.1 ≠ a0)
    (hm : ∀ p ∈ wsPs ⟨[], 0, 0, 0⟩ ⟨a0, [], n0, t1, t2, t3⟩, m₀ p.1 = some p.2)
    (turn : ∀ (cnt : List Int) (b n nt : Int) (k : Nat) (c : Nat) (t : Tok) h tk I oI a vs kk tb tn tt, (c = 32 ∨ c = 9) → k ≤ 100000 → 0 ≤ b → b ≤ k → cnt.length ≤ k → IntsAre vs cnt →
      (∀ p ∈ news0, p.1 ≠ I) → a ≠ I → (∀ p ∈ news0, p.1 ≠ a) →
      Fr h₀ env.locals h (fun y => if y = Str.ofString "ch" then some (.str ⟨#[c]⟩ t) else if y = Str.ofString "count" then some (.ref a) else if y = Str.ofString "b" then some (.int b tb) else if y = Str.ofString "n" then some (.int n tn) else if y = Str.ofString "nt" then some (.int nt tt) else m₀ y) →
      News h₀ env.locals h ((I, oI) :: (a, listOf vs.toArray kk) :: news0) →
      wpAny (model prog w) A (execs body env) (StrEnd h₀ env.locals (WsJ news0 m₀ (wsStep ⟨cnt, b, n, nt⟩ c)) I oI { s with heap := h, toks := tk }) E { s with heap := h, toks := tk })
    (done : ∀ (u : Str → Option Value) h tk a vs kk tb tn tt, IntsAre vs (wsAt xt.cps.toList).cnt → (∀ p ∈ news0, p.1 ≠ a) → WsOk xt.length (wsAt xt.cps.toList) →
      Fr h₀ env.locals h (fun y => if y = Str.ofString "ch" then u y else if y = Str.ofString "count" then some (.ref a) else if y = Str.ofString "b" then some (.int (wsAt xt.cps.toList).b tb) else if y = Str.ofString "n" then some (.int (wsAt xt.cps.toList).n tn) else if y = Str.ofString "nt" then some (.int (wsAt xt.cps.toList).nt tt) else m₀ y) →
      News h₀ env.locals h ((a, listOf vs.toArray kk) :: news0) → Q .next { s with heap := h, toks := tk }) :
    wpAny (model prog w) A (pyIter (.str xt tx)) (fun it s₂ => LoopAtV prog w A h₀ env (Str.ofString "ch") body Q E it s₂) E s := by
  have ha : xt.cps.all (· < 128) = true := by
    rw [← Array.all_toList, List.all_eq_true]
    intro c hc
    rcases hx c hc with rfl | rfl <;> rfl
  refine iter_strG (fun i m nx => WsJ news0 m₀ (wsAt (xt.cps.toList.take i)) m nx) ha hh F N ?_ ?_ ?_
  · exact ⟨⟨a0, [], n0, t1, t2, t3⟩, rfl, .nil, hm, fun _ _ _ _ => rfl, hne0⟩
  · rintro i c t m₁ news₁ h tk I oI hc hI ⟨e, rfl, hi, h1, h2, hne⟩ F₁ N₁
    have hcin : c ∈ xt.cps.toList := by
      have : xt.cps.toList[i]? = some c := by simpa using hc
      exact List.mem_of_getElem? this
    have F₂ := kst_fr h1 h2 F₁
    have hok := wsOk_at (xt.cps.toList.take i)
    rw [cps_take xt hc, wsAt_snoc]
    have hlt : (xt.cps.toList.take i).length ≤ 100000 := by
      rw [List.length_take]
      have : xt.cps.toList.length ≤ 100000 := by simpa [Str.length] using hlen
      omega
    exact turn _ _ _ _ _ c t h tk I oI e.a e.vs e.k e.tb e.tn e.tt (hx c hcin) hlt hok.1 hok.2.1 hok.2.2.1 hi (fun p hp => hI p (.tail _ hp)) (hI _ (.head _)) hne F₂ N₁
  · rintro m₁ nx h tk ⟨e, rfl, hi, h1, h2, hne⟩ F₁ N₁
    have hl : xt.cps.toList.take xt.cps.size = xt.cps.toList := by
      rw [List.take_of_length_le]; simp
    rw [hl] at h1 h2 hi
    have hok := wsOk_at xt.cps.toList
    have e9 : xt.cps.toList.length = xt.length := by simp [Str.length]
    rw [e9] at hok
    exact done m₁ h tk e.a e.vs e.k e.tb e.tn e.tt hi hne hok (kst_frOut h1 h2 F₁) N₁
end
end Mine
namespace Mine
theorem strEnd_intro {news0 news' : List (Addr × Obj)} {m₀ m' : Str → Option Value} {st' : WS} {h₀ h' : Heap} {L I a : Addr} {oI : Obj} {vs : List Value} {kk : Nat} {tb tn tt : Tok} {s₁ : Shared} {tk' : Nat} (hcnt : IntsAre vs st'.cnt) (F : Fr h₀ L h' m') (N : News h₀ L h' news')
    (hs : ∀ p ∈ ((I, oI) :: (a, listOf vs.toArray kk) :: news0), p ∈ news') (hI : ∀ p ∈ news0, p.1 ≠ I) (haI : a ≠ I) (hna : ∀ p ∈ news0, p.1 ≠ a)
    (hm : ∀ p ∈ [(Str.ofString "count", Value.ref a), (Str.ofString "b", .int st'.b tb), (Str.ofString "n", .int st'.n tn), (Str.ofString "nt", .int st'.nt tt)], m' p.1 = some p.2)
    (hoff : ∀ z, z ≠ Str.ofString "ch" → (∀ p ∈ [(Str.ofString "count", Value.ref a), (Str.ofString "b", .int st'.b tb), (Str.ofString "n", .int st'.n tn), (Str.ofString "nt", .int st'.nt tt)], z ≠ p.1) → ([] : List Str).contains z = false → m' z = m₀ z) :
    StrEnd h₀ L (WsJ news0 m₀ st') I oI s₁ .next { s₁ with heap := h', toks := tk' } :=
  ⟨rfl, h', tk', m', _, rfl, F, cb_drop N hs, (fun p hp => (List.mem_cons.mp hp).elim (fun e => e ▸ haI) fun hp => hI p hp), ⟨a, vs, kk, tb, tn, tt⟩, rfl, hcnt, hm, hoff, hna⟩
end Mine
namespace Mine
theorem wsStep9_ge {cnt : List Int} {b n nt : Int} (h : (cnt.length : Int) ≤ b) : wsStep ⟨cnt, b, n, nt⟩ 9 = ⟨(cnt ++ (List.replicate (b - cnt.length + 1).toNat [0]).flatten).set b.toNat ((cnt ++ (List.replicate (b - cnt.length + 1).toNat [0]).flatten).getD b.toNat 0 + 1), 0, n + 1, nt + 1⟩ := by
  simp only [wsStep, bump, if_pos h]; rfl
theorem wsStep9_lt {cnt : List Int} {b n nt : Int} (h : ¬ (cnt.length : Int) ≤ b) : wsStep ⟨cnt, b, n, nt⟩ 9 = ⟨cnt.set b.toNat (cnt.getD b.toNat 0 + 1), 0, n + 1, nt + 1⟩ := by
  simp only [wsStep, bump, if_neg h]; rfl
theorem ne_allLt {d : Addr} {l : List (Addr × Obj)} (h : AllLt d l) : ∀ p ∈ l, p.1 ≠ d := fun p hp => Nat.ne_of_lt (kst_ltOf h p hp)
end Mine
namespace Mine
theorem ne_of_cls {h₀ h : Heap} {L : Addr} {l : List (Addr × Obj)} {a b : Addr} {o1 o2 : Obj} (N : News h₀ L h l) (m1 : (a, o1) ∈ l) (m2 : (b, o2) ∈ l) (hc : o1.cls ≠ o2.cls) : @Ne Nat a b := by
  intro e
  have h1 := (N _ m1).1
  have h2 := (N _ m2).1
  simp only at h1 h2
  have e' : a = b := e
  rw [e', h2] at h1
  exact hc (by cases h1; rfl)
theorem ne_tuple_dict : (Value.type "tuple") ≠ Value.type "dict" := by
  intro h; injection h with h; exact absurd h (by decide)
end Mine
namespace Mine
abbrev wsDict (w : World) (xt : Str) (n nt : Int) (sm : Bool) (D' : Addr) (tx tn tt q1 q2 q3 q4 q5 : Tok) : Obj := dictOf [{ hash := PyData.keyHash w.params (Str.ofString "raw"), key := Value.str (Str.ofString "raw") q1, val := Value.str xt tx }, { hash := PyData.keyHash w.params (Str.ofString "n"), key := Value.str (Str.ofString "n") q2, val := Value.int n tn }, { hash := PyData.keyHash w.params (Str.ofString "nt"), key := Value.str (Str.ofString "nt") q3, val := Value.int nt tt }, { hash := PyData.keyHash w.params (Str.ofString "norm"), key := Value.str (Str.ofString "norm") q4, val := Value.ref D' }, { hash := PyData.keyHash w.params (Str.ofString "is_simple"), key := Value.str (Str.ofString "is_simple") q5, val := Value.bool sm }] 5
abbrev tupObj (vs : Array Value) : Obj := { cls := Value.type "tuple", data := Data.seq vs }
end Mine
namespace Mine
theorem ws_drop {h₀ h : Heap} {L : Addr} {p1 p2 p3 p4 : Addr × Obj} {l : List (Addr × Obj)} (N : News h₀ L h (p1 :: p2 :: p3 :: p4 :: l)) : News h₀ L h (p1 :: p2 :: l) := by
  refine cb_drop N ?_
  intro p hp
  rcases List.mem_cons.mp hp with e | hp
  · exact e ▸ .head _
  rcases List.mem_cons.mp hp with e | hp
  · exact e ▸ .tail _ (.head _)
  · exact .tail _ (.tail _ (.tail _ (.tail _ hp)))
end Mine
theorem Mine.ws_call {w : World} {mean : ExcName → Option Value} {mg mb : Str → Option Value} {news : List (Addr × Obj)} (xt : Str) (tx : Tok) (hx : ∀ c ∈ xt.cps.toList, c = 32 ∨ c = 9) (hlen : xt.length ≤ 100000) :
  Mine.Claim w mean mg mb 83 news [.str xt tx] (fun h₀ L m s Q => ∀ (x d D' D : Addr) (vs : List Value) (sm : Bool) (tx tb tn tt q1 q2 q3 q4 q5 : Tok) (h' : Heap) (tk' : Nat), Fr h₀ L h' m → IntsAre vs (Mine.wsAt xt.cps.toList).cnt →
    News h₀ L h' ((D', Mine.tupObj #[.ref D, .int (Mine.wsAt xt.cps.toList).b tb]) :: (D, Mine.tupObj vs.toArray) :: (x, instObj 83 d) :: (d, Mine.wsDict w xt (Mine.wsAt xt.cps.toList).n (Mine.wsAt xt.cps.toList).nt sm D' tx tn tt q1 q2 q3 q4 q5) :: news) →
    AllLt d news → @LT.lt Nat _ d x → @LT.lt Nat _ x D' → @LT.lt Nat _ D D' → AllLt D' news → Q (.ref x) { s with heap := h', toks := tk' }) := by
  dsimp only [Mine.Claim]
  intros
  rename_i hret
  k_dflt (refine' call_cls ?k1 ?k2 ?k3 ?k4 ?k5 ?k6 ?_; (case k1 => k_asm); (case k2 => k_asm); (case k3 => k_asm); (case k4 => k_is); (case k5 => k_is); (case k6 => k_is); k_whole; intro x' d' h' F' N' l1 l2; (try k_lt l1); (try k_lt2 l2); (try k_sweep))
  k_dflt cell_enter
  k_with "pyIter str" => fail
  walk_at "UPTOITER"
  (with_reducible rename Fr _ _ _ _ => lF)
  (with_reducible rename News _ _ _ _ => lN)
  refine Mine.ws_iter hx hlen (by rfl) lF lN ?h0 (by kst_all) ?_ ?_
  case h0 =>
    (with_reducible rename _ < _ ∧ _ < _ ∧ _ < _ ∧ AllLt _ _ => lD)
    exact Mine.ne_allLt lD
  · rintro cnt b n nt k c t h tk I oI a vs kk tb tn tt hc hk hb0 hbk hck hi hI haI hna F₂ N₂
    clear lF lN
    rcases hc with rfl | rfl
    · repeat' (walk_at "ST")
      (with_reducible rename Fr _ _ _ _ => F₃)
      (with_reducible rename News _ _ _ _ => N₃)
      refine' Mine.strEnd_intro (st' := ⟨cnt, b + 1, n + 1, nt⟩) hi F₃ N₃ (fun p hp => hp) hI haI hna ?hm ?hoff
      case hm => kst_all
      case hoff => kst_same
    · have hoff : OwnOff news [a] := fun p hp b hb => (List.mem_singleton.mp hb) ▸ hna p (.tail _ (.tail _ (.tail _ hp)))
      have haD := neN (hna _ (.head _))
      have hax := neN (hna _ (.tail _ (.head _)))
      have had := neN (hna _ (.tail _ (.tail _ (.head _))))
      have haIN := neN haI
      simp only at haD hax had
      repeat' (walk_at "ST")
      · (with_reducible rename Fr _ _ _ _ => F₃)
        (with_reducible rename News _ _ _ _ => N₃)
        (with_reducible rename _ < _ ∧ _ < _ ∧ _ < _ ∧ _ < _ ∧ _ < _ ∧ _ < _ ∧ _ < _ ∧ AllLt _ _ => lD)
        rw [Mine.wsStep9_ge (by assumption)]
        refine' Mine.strEnd_intro (by assumption) F₃ N₃ ?hs hI ?haI ?hna ?hm ?hoff
        case hs => kst_inAny
        case haI => exact Nat.ne_of_gt lD.2.2.1
        case hna => exact Mine.ne_allLt ⟨lD.2.2.2.2.1, lD.2.2.2.2.2.1, lD.2.2.2.2.2.2.1, lD.2.2.2.2.2.2.2⟩
        case hm => kst_all
        case hoff => kst_same
      · skip
        (with_reducible rename Fr _ _ _ _ => F₃)
        (with_reducible rename News _ _ _ _ => N₃)
        rw [Mine.wsStep9_lt (by assumption)]
        refine' Mine.strEnd_intro (by assumption) F₃ N₃ (fun p hp => hp) hI haI hna ?hm ?hoff
        case hm => kst_all
        case hoff => kst_same
  · rintro u h tk a vs kk tb tn tt hi hna ⟨o1, o2, o3, o4, o5, o6, o7⟩ F₂ N₂
    clear lF lN
    have hoff : OwnOff news [a] := fun p hp b hb => (List.mem_singleton.mp hb) ▸ hna p (.tail _ (.tail _ (.tail _ hp)))
    have haD := neN (hna _ (.head _))
    have hax := neN (hna _ (.tail _ (.head _)))
    have had := neN (hna _ (.tail _ (.tail _ (.head _))))
    simp only at haD hax had
    generalize Mine.wsAt xt.cps.toList = st at *
    obtain ⟨cnt, b, n, nt⟩ := st
    simp only at o1 o2 o3 o4 o5 o6 o7 hi F₂
    repeat' (walk_at "ST")
    (with_reducible rename News _ _ _ _ => N₃)
    have hDd := Mine.ne_of_cls N₃ (.tail _ (.head _)) (.tail _ (.tail _ (.tail _ (.tail _ (.tail _ (.head _)))))) Mine.ne_tuple_dict
    repeat' (walk_at "ST")
    (with_reducible rename News _ _ _ _ => N₄)
    (with_reducible rename _ < _ ∧ _ < _ ∧ _ < _ ∧ _ < _ ∧ _ < _ ∧ AllLt _ _ => lD)
    have lD' := lD.2.2.2.2.2
    exact hret x' d' _ _ vs _ _ _ _ _ _ _ _ _ _ _ _ (by assumption) hi (Mine.ws_drop N₄) (allLt_of l1) l2 lD.2.2.2.1 lD.1 lD'
namespace Mine
def ilF (ts : Int) (cnt : List Int) (is : List Int) : Int := is.foldl (fun a i => a + i.fdiv ts * cnt.getD i.toNat 0) 0
theorem ilF_snoc (ts : Int) (cnt : List Int) (is : List Int) (i : Int) : ilF ts cnt (is ++ [i]) = ilF ts cnt is + i.fdiv ts * cnt.getD i.toNat 0 := by
  simp only [ilF, List.foldl_append, List.foldl_cons, List.foldl_nil]
section
variable {prog : Program} {w : World} {A : Around} {E : Value → Shared → Prop} {s : Shared} {h₀ : Heap} {L : Addr} {news : List (Addr × Obj)} {D : Addr} {vs : List Value} {cnt : List Int}
theorem tup_len {Q : Value → Shared → Prop} (N : News h₀ L s.heap news) (hm : (D, tupObj vs.toArray) ∈ news) (hi : IntsAre vs cnt) (hfit : cnt.length < 2 ^ 62)
    (h : ∀ t k, Q (.int cnt.length t) { s with toks := k }) : wpAny (model prog w) A (call (.builtin "len") [.ref D]) Q E s := by
  have e : vs.toArray.size = cnt.length := by simp [hi.length]
  refine PyProof.Rows.len_tuple (News.isTup N hm) (by rw [e]; omega) ?_
  rw [e]
  exact h _ _
theorem tup_item {value slice : PySem.Expr} {k : Int} {u : Tok} {Q : Value → Shared → Prop} (N : News h₀ L s.heap news) (hm : (D, tupObj vs.toArray) ∈ news) (hi : IntsAre vs cnt) (h0 : 0 ≤ k) (h1 : k < cnt.length) (hfit : k < 2 ^ 62)
    (h : ∀ t, Q (.int (cnt.getD k.toNat 0) t) s)
    (hs : subscripted slice false (.ref D) (.int k u) = operate [.ref D, .int k u] (getItem (.ref D) (.int k u)) := by with_unfolding_all rfl) (hg : ∀ r, letTemporaryGo value (.ref D) r = pure () := by intro _; with_unfolding_all rfl) :
    wpAny (model prog w) A (subscriptTail value slice (.ref D) (.int k u)) Q E s := by
  have hlt : k.toNat < cnt.length := by omega
  have e : vs.toArray.size = cnt.length := by simp [hi.length]
  obtain ⟨t, ht⟩ := hi.get k.toNat cnt[k.toNat] (by simp [hlt])
  have hv : cnt.getD k.toNat 0 = cnt[k.toNat] := by simp [List.getD, hlt]
  refine item_tuple (j := k.toNat) (x := .int cnt[k.toNat] t) (News.isTup N hm) (by omega) (by omega) ?_ (by simpa using ht) (by rw [← hv]; exact h t) hs hg
  rw [e]
  have h2 : ¬ k < 0 := by omega
  simp [seqIndex?, h2]; omega
end
theorem fdiv_bound {k t : Int} (h0 : 0 ≤ k) (h1 : 1 ≤ t) : 0 ≤ k.fdiv t ∧ k.fdiv t ≤ k := by
  rw [Int.fdiv_eq_ediv_of_nonneg _ (by omega)]
  exact ⟨Int.ediv_nonneg h0 (by omega), Int.ediv_le_self _ h0⟩
end Mine
theorem Mine.lvl_call {w : World} {mean : ExcName → Option Value} {mg mb : Str → Option Value} {rest : List (Addr × Obj)} {x d D' D : Addr} {vs : List Value} {cnt : List Int} {xt : Str} {b n nt : Int} {sm : Bool} {tx tb tn tt q1 q2 q3 q4 q5 : Tok} (ts : Int) (tts : Tok)
  (hi : IntsAre vs cnt) (hlen : cnt.length ≤ 100000) (hts : 1 ≤ ts ∧ ts ≤ 1000) :
  Mine.Claim w mean mg mb 52 ((D', Mine.tupObj #[.ref D, .int b tb]) :: (D, Mine.tupObj vs.toArray) :: (x, instObj 83 d) :: (d, Mine.wsDict w xt n nt sm D' tx tn tt q1 q2 q3 q4 q5) :: rest) [.ref x, .int ts tts]
    (fun h₀ L m s Q => ∀ (t : Tok) (h' : Heap) (tk' : Nat), Fr h₀ L h' m → News h₀ L h' ((D', Mine.tupObj #[.ref D, .int b tb]) :: (D, Mine.tupObj vs.toArray) :: (x, instObj 83 d) :: (d, Mine.wsDict w xt n nt sm D' tx tn tt q1 q2 q3 q4 q5) :: rest) → Q (.int (b + ts * (Mine.ilF ts cnt (rangeKs ts ((cnt.length : Int) - ts).toNat) + nt)) t) { s with heap := h', toks := tk' }) := by
  dsimp only [Mine.Claim]
  intros
  rename_i hret
  refine wpAny_call ?_
  k_dflt cell_enter
  walk_at "UPTOLEN"
  refine Mine.tup_len (by k_asm) (.tail _ (.head _)) hi (by omega) ?_
  intro tl kl
  walk_at "UPTOITER"
  k_with "state" => first
    | exact (rfl : (0 : Int) = Mine.ilF ts cnt [])
    | ((with_reducible rename _ = Mine.ilF _ _ _ => hh); (rw [Mine.ilF_snoc, ← hh]))
  k_state (fun pre il => il = Mine.ilF ts cnt pre) "il"
  · have hq := Mine.fdiv_bound (k := kN) (t := ts) (by omega) hts.1
    repeat' (walk_at "ST")
  · repeat' (walk_at "ST")
    rw [kInv]
    exact hret _ _ _ (by assumption) (by assumption)
namespace Mine
open LCg
abbrev EltE (prog : Program) (w : World) (A : Around) (h₀ : Heap) (L : Addr) (m : Str → Option Value) (env : Env) (elt : PySem.Expr) (x x₂ : Str) (scope : Scope) (cl : List (Str × Addr)) (s : Shared) (news : List (Addr × Obj)) (items : Array Value) : Prop :=
  ∀ (i : Nat) (v : Value) (ys : List Value) (I J C D : Addr) (oI oJ oC : Obj) (m₂ : Str → Option Value) (h : Heap) (tk : Nat) (t : Tok) (E' : Value → Shared → Prop), items[i]? = some v → NsObj oC m₂ → m₂ x = some (.int i t) → m₂ x₂ = some v →
    Fr h₀ L h m → News h₀ L h ((I, oI) :: (C, oC) :: (D, lst ys) :: (J, oJ) :: news) → Off3 I C D news → (∀ p ∈ news, p.1 ≠ J) → ((@Ne Nat I C) ∧ (@Ne Nat I D) ∧ (@Ne Nat C D) ∧ (@Ne Nat J I) ∧ (@Ne Nat J C) ∧ (@Ne Nat J D)) →
    wpAny (model prog w) A (eval elt (compEnvC scope cl C env)) (fun y s₂ => ∃ h' tk' z t' all, s₂ = { s with heap := h', toks := tk' } ∧ y = .int z t' ∧ Fr h₀ L h' m ∧ News h₀ L h' all ∧ ∀ p ∈ ((I, oI) :: (C, oC) :: (D, lst ys) :: (J, oJ) :: news), p ∈ all) E' { s with heap := h, toks := tk }
section
variable {prog : Program} {w : World} {A : Around} {E : Value → Shared → Prop} {s : Shared} {h₀ : Heap} {L : Addr} {m : Str → Option Value} {env : Env}
theorem block_E {elt iter : PySem.Expr} {x x₂ : Str} {px px₂ tp : Pos} {tk} {scope : Scope} {cl : List (Str × Addr)} {pos : Pos} {s₂ : Shared} {I J l : Addr} {items : Array Value} {ol : Obj} {news : List (Addr × Obj)}
    {RR : Value → Addr → Result → Shared → Prop}
    (hsz : items.size ≤ sizeLine) (hl : (l, ol) ∈ news) (hlc : ol.cls = .type "list") (hld : ∃ k, ol.data = .seq items k)
    (hcell : ∀ y ∈ scope.names, y.2 ≠ .cell) (hkind : scope.kind = .function) (hx : scope.names.lookup x = some .local) (hx₂ : scope.names.lookup x₂ = some .local) (hxx : x ≠ x₂) (hh : A.handled = none)
    (hE : IsEnum s₂.heap I J 0 .none) (hJ : s₂.heap.IsListIter J l 0) (hIJ : I ≠ J)
    (F : Fr h₀ L s₂.heap m) (N : News h₀ L s₂.heap news) (hIL : L ≠ I) (hJL : L ≠ J) (hI₀ : h₀.get? I = none) (hJ₀ : h₀.get? J = none) (offI : ∀ p ∈ news, p.1 ≠ I) (offJ : ∀ p ∈ news, p.1 ≠ J)
    (R : EltE prog w A h₀ L m env elt x x₂ scope cl s₂ news items)
    (hRR : ∀ D C h tk m' ys zs, Fr h₀ L h m → News h₀ L h ((D, lst ys) :: news) → Off1 D news → h.Ns C m' → h₀.get? C = none → h₀.get? D = none → C ≠ L → D ≠ L → C ≠ D → (∀ p ∈ news, p.1 ≠ C) → IntsAre ys zs → zs.length = items.size → RR (.ref D) C (.ok .next) { s₂ with heap := h, toks := tk }) :
    wpAny (model prog w) A (newList []) (fun acc s₃ => wpAny (model prog w) A (newFunctionEnv scope env.globals cl [] env.qual none .none (some env)) (fun cenv s₄ =>
      codeAny (model prog w) A (.compStart (.ListComp elt [⟨.Tuple [.Name x px, .Name x₂ px₂] tk tp, iter, [], 0⟩] scope pos) 0 (.ref I) acc { cenv with scope := relabel scope env }) (RR acc cenv.locals) s₄) E s₃) E s₂ := by
  have hlI : l ≠ I := offI _ hl
  have hlJ : l ≠ J := offJ _ hl
  have W := WalksT.enumerate (prog := prog) (w := w) hh I J l hIJ hlI hlJ items
  have hst : (∃ old, IsEnum s₂.heap I J ((0 : Nat) : Int) old) ∧ s₂.heap.IsListIter J l 0 ∧ s₂.heap.IsList l items := ⟨⟨_, hE⟩, hJ, ⟨ol, (N _ hl).1, hlc, hld⟩⟩
  refine wpAny_newObj_type (wpAny_newFunctionEnv hcell (by intro y hy; simp at hy) (fun h₁ hns₁ hsb₁ => ?_) hkind)
  dsimp only at hns₁ hsb₁ ⊢
  generalize hH2 : s₂.heap.push { cls := .type "list", dict := none, data := .seq ([] : List Value).toArray } = H2 at hns₁ hsb₁ ⊢
  have hC : H2.objs.size = s₂.heap.objs.size + 1 := by rw [← hH2, Heap.size_push]
  have hDC : s₂.heap.objs.size ≠ H2.objs.size := by rw [hC]; exact Nat.ne_of_lt (Nat.lt_succ_self _)
  have below : ∀ b, b < s₂.heap.objs.size → b ≠ H2.objs.size ∧ b ≠ s₂.heap.objs.size := fun b hb => ⟨by rw [hC]; exact Nat.ne_of_lt (Nat.lt_succ_of_lt hb), Nat.ne_of_lt hb⟩
  have hIlt : I < s₂.heap.objs.size := Heap.lt_size hE
  have hJlt : J < s₂.heap.objs.size := by obtain ⟨_, e, _⟩ := hJ; exact Heap.lt_size e
  have hllt : l < s₂.heap.objs.size := Heap.lt_size (N _ hl).1
  have old : ∀ b o, s₂.heap.get? b = some o → h₁.get? b = some o := fun b o e => hsb₁.extBut b o (below b (Heap.lt_size e)).1 (Heap.get?_push_of_some _ (hH2 ▸ Heap.get?_push_of_some _ e))
  have hacc : h₁.get? s₂.heap.objs.size = some (lst []) := hsb₁.extBut _ _ hDC (Heap.get?_push_of_some _ (hH2 ▸ Heap.get?_push_size _ rfl))
  have hst₁ := W.frame 0 _ h₁ hst fun b _ o e => old b o e
  have fresh : ∀ a, s₂.heap.objs.size ≤ a → s₂.heap.get? a = none := fun a ha => by
    cases e : s₂.heap.get? a with
    | none => rfl
    | some o' => exact absurd (Heap.lt_size e) (Nat.not_lt.mpr ha)
  have fresh₀ : ∀ a, s₂.heap.objs.size ≤ a → h₀.get? a = none := fun a ha => by
    cases e : h₀.get? a with
    | none => rfl
    | some o' => have := F.keep a o' e; rw [fresh a ha] at this; cases this
  have hD₀ : h₀.get? s₂.heap.objs.size = none := fresh₀ _ (Nat.le_refl _)
  have hC₀ : h₀.get? H2.objs.size = none := fresh₀ _ (by rw [hC]; exact Nat.le_succ _)
  have hLlt : L < s₂.heap.objs.size := F.ns.lt
  have hDL : s₂.heap.objs.size ≠ L := Ne.symm (below L hLlt).2
  have hCL : H2.objs.size ≠ L := Ne.symm (below L hLlt).1
  have hCI : I ≠ H2.objs.size := (below I hIlt).1
  have hDI : I ≠ s₂.heap.objs.size := (below I hIlt).2
  have hCJ : J ≠ H2.objs.size := (below J hJlt).1
  have hDJ : J ≠ s₂.heap.objs.size := (below J hJlt).2
  have offC : ∀ p ∈ news, p.1 ≠ H2.objs.size := fun p hp => (below _ (Heap.lt_size (N p hp).1)).1
  have offD : ∀ p ∈ news, p.1 ≠ s₂.heap.objs.size := fun p hp => (below _ (Heap.lt_size (N p hp).1)).2
  have off₀ : Off3 I H2.objs.size s₂.heap.objs.size news := Off3.of fun p hp => ⟨offI p hp, offC p hp, offD p hp⟩
  have two : ∀ b, b ≠ I → b ≠ J → b ∉ [I, J] := fun b h1 h2 hm => by
    rcases List.mem_cons.mp hm with e | hm
    · exact h1 e
    · exact h2 (List.mem_singleton.mp hm)
  have frT : ∀ {h h' : Heap}, Fr h₀ L h m → (∀ b o, b ∉ [I, J] → h.get? b = some o → h'.get? b = some o) → Fr h₀ L h' m := fun F hk =>
    ⟨F.ns.at' fun o e => hk L o (two _ hIL hJL) e, fun b o e => hk b o (two _ (fun q => by rw [q, hI₀] at e; cases e) (fun q => by rw [q, hJ₀] at e; cases e)) (F.keep b o e), F.above⟩
  have newsT : ∀ {h h' : Heap} {ys : List Value}, News h₀ L h ((s₂.heap.objs.size, lst ys) :: news) → (∀ b o, b ∉ [I, J] → h.get? b = some o → h'.get? b = some o) → News h₀ L h' ((s₂.heap.objs.size, lst ys) :: news) := fun N hk p hp =>
    ⟨hk _ _ (by
      rcases List.mem_cons.mp hp with rfl | hp
      · exact two _ (Ne.symm hDI) (Ne.symm hDJ)
      · exact two _ (offI p hp) (offJ p hp)) (N p hp).1, (N p hp).2⟩
  have loop : ∀ s₃ : Shared, s₃ = { s₂ with heap := h₁, toks := s₂.toks + ([] : List (Str × Value)).length } →
      codeAny (model prog w) A (.compLoop (.ListComp elt [⟨.Tuple [.Name x px, .Name x₂ px₂] tk tp, iter, [], 0⟩] scope pos) 0 (.ref I) (.ref s₂.heap.objs.size) (compEnvC scope cl H2.objs.size env))
        (RR (.ref s₂.heap.objs.size) H2.objs.size) s₃ := by
    rintro s₃ rfl
    refine LCp.codeAny_compLoop_pair
      (fun k s' => ∃ h' tk i ys zs m', s' = { s₂ with heap := h', toks := tk } ∧ i ≤ items.size ∧ k = items.size + 1 - i ∧ (IntsAre ys zs ∧ zs.length = i) ∧ ((∃ old, IsEnum h' I J (i : Int) old) ∧ h'.IsListIter J l i ∧ h'.IsList l items) ∧ Fr h₀ L h' m ∧ h'.Ns H2.objs.size m' ∧ News h₀ L h' ((s₂.heap.objs.size, lst ys) :: news)) ?_ (items.size + 1)
      ⟨h₁, _, 0, [], [], _, rfl, Nat.zero_le _, rfl, ⟨.nil, rfl⟩, hst₁, F.keeps old, hns₁, fun p hp => ?_⟩
    · rintro k s' ⟨h', tk, i, ys, zs, m', rfl, hi, rfl, ⟨hyl, hzl⟩, hst', F', hn', N'⟩
      by_cases hlt : i < items.size
      · refine W.item i _ _ _ hlt hst' fun T vals h₂ tk₂ hPt hT hIsT hMid hk₂ => ?_
        obtain ⟨t, v, hv, rfl⟩ := hPt
        have hT2 := W.apart _ _ _ hMid
        refine W.go _ _ _ i T _ _ _ hMid fun h₄ hst₄ hk₄ => ?_
        have ht : IsTup h₄ T #[.int i t, v] := by obtain ⟨o, ho, r⟩ := hIsT; exact ⟨o, hk₄ _ _ hT2 ho, r⟩
        have hk : ∀ b o, b ∉ [I, J] → h'.get? b = some o → h₄.get? b = some o := fun b o hb e => hk₄ b o hb (hk₂ b o hb e)
        have F₄ := frT F' hk
        have N₄ := newsT N' hk
        refine assign_Tuple_tuple hh ht rfl rfl fun h₅ he => ?_
        have he' : ∀ b o, h₄.get? b = some o → h₅.get? b = some o := fun b o e => he b o (Nat.ne_of_lt (Heap.lt_size e)) e
        refine assignInOrder_cons (wpAny_assign_Name (wpAny_storeName_local (lookup_relabel_local hx) ((hn'.at' fun o e => hk _ o (two _ (Ne.symm hCI) (Ne.symm hCJ)) e).at' fun o e => he' _ o e) (fun h₆ hn₆ hs₆ => ?_) (by simp [compEnvC, relabel, hkind])))
        refine assignInOrder_cons (wpAny_assign_Name (wpAny_storeName_local (lookup_relabel_local hx₂) hn₆ (fun h₃ hn₃ hs₃ => ?_) (by simp [compEnvC, relabel, hkind])))
        refine assignInOrder_nil ?_
        have old3 : ∀ b o, b ≠ H2.objs.size → h₄.get? b = some o → h₃.get? b = some o := fun b o hb e => hs₃.extBut b o hb (hs₆.extBut b o hb (he' b o e))
        have hst₃ := W.frame (i + 1) _ h₃ hst₄ fun b hb o e => old3 b o (fun q => by
          rcases List.mem_cons.mp hb with e1 | hb
          · exact hCI (by rw [← e1]; exact q)
          rcases List.mem_cons.mp hb with e1 | hb
          · exact hCJ (by rw [← e1]; exact q)
          · exact (below l hllt).1 (by rw [← List.mem_singleton.mp hb]; exact q)) e
        obtain ⟨oC, heC, hoC⟩ := ns_obj hn₃
        obtain ⟨⟨oldI, heI⟩, ⟨oJ, heJ, rJ⟩, hL3⟩ := id hst₃
        have F₃ : Fr h₀ L h₃ m := ((F₄.keeps he').change hs₆ hCL hC₀).change hs₃ hCL hC₀
        have N₃ : News h₀ L h₃ ((I, _) :: (H2.objs.size, oC) :: (s₂.heap.objs.size, lst ys) :: (J, oJ) :: news) := fun p hp => by
          rcases List.mem_cons.mp hp with rfl | hp
          · exact ⟨heI, Ne.symm hIL, hI₀⟩
          rcases List.mem_cons.mp hp with rfl | hp
          · exact ⟨heC, hCL, hC₀⟩
          rcases List.mem_cons.mp hp with rfl | hp
          · exact ⟨old3 _ _ hDC (N₄ _ (.head _)).1, (N₄ _ (.head _)).2⟩
          rcases List.mem_cons.mp hp with rfl | hp
          · exact ⟨heJ, Ne.symm hJL, hJ₀⟩
          · exact ⟨old3 _ _ (offC p hp) (N₄ _ (.tail _ hp)).1, (N₄ _ (.tail _ hp)).2⟩
        refine wpAny_mono (R i v ys I J H2.objs.size s₂.heap.objs.size _ oJ oC _ h₃ _ t _ hv hoC (by simp [hxx]) (by simp) F₃ N₃ off₀ offJ ⟨hCI, hDI, Ne.symm hDC, Ne.symm hIJ, hCJ, hDJ⟩) (fun y s₄ h₄ => ?_) fun _ _ e => e
        obtain ⟨h₇, tk₄, z, t', all, rfl, rfl, F₇, N₇a, hall⟩ := h₄
        have N₇ := cb_drop N₇a hall
        have zI := (N₇ _ (.head _)).1
        have zC := (N₇ _ (.tail _ (.head _))).1
        have zD := (N₇ _ (.tail _ (.tail _ (.head _)))).1
        have zJ := (N₇ _ (.tail _ (.tail _ (.tail _ (.head _))))).1
        have hst₇ : (∃ old, IsEnum h₇ I J ((i + 1 : Nat) : Int) old) ∧ h₇.IsListIter J l (i + 1) ∧ h₇.IsList l items :=
          ⟨⟨_, zI⟩, ⟨oJ, zJ, rJ⟩, ⟨ol, (N₇ _ (.tail _ (.tail _ (.tail _ (.tail _ hl))))).1, hlc, hld⟩⟩
        have hyl2 : ys.length = i := by rw [hyl.length, hzl]
        refine append_at (hsz := by show ys.toArray.size ≤ sizeLine; rw [List.size_toArray, hyl2]; exact Nat.le_trans hi hsz) zD fun h₈ hs₈ hD₈ => ?_
        refine ⟨items.size + 1 - (i + 1), by omega, h₈, tk₄, i + 1, ys ++ [.int z t'], zs ++ [z], _, rfl, hlt, rfl, ⟨IntsAre.append hyl (.cons _ _ .nil), by simp [hzl]⟩, W.frame (i + 1) _ h₈ hst₇ fun b hb o e => hs₈.extBut b o (fun q => by
          rcases List.mem_cons.mp hb with e1 | hb
          · exact hDI (by rw [← e1]; exact q)
          rcases List.mem_cons.mp hb with e1 | hb
          · exact hDJ (by rw [← e1]; exact q)
          · exact (below l hllt).2 (by rw [← List.mem_singleton.mp hb]; exact q)) e, F₇.change hs₈ hDL hD₀,
          (hoC.ns zC).sameBut hs₈ (Ne.symm hDC), fun p hp => ?_⟩
        · rcases List.mem_cons.mp hp with rfl | hp
          · exact ⟨hD₈.trans (congrArg some (lst_snoc ys _)), hDL, hD₀⟩
          · have z := N₇ p (.tail _ (.tail _ (.tail _ (.tail _ hp))))
            exact ⟨hs₈.extBut _ _ (offD p hp) z.1, z.2⟩
      · obtain rfl : i = items.size := Nat.le_antisymm hi (Nat.not_lt.mp hlt)
        refine W.done _ _ _ hst' fun h₂ tk₂ hk₂ => ?_
        exact hRR _ _ h₂ tk₂ _ ys zs (frT F' hk₂) (newsT N' hk₂) off₀.one (hn'.at' fun o e => hk₂ _ o (two _ (Ne.symm hCI) (Ne.symm hCJ)) e) hC₀ hD₀ hCL hDL (Ne.symm hDC) offC hyl hzl
    · rcases List.mem_cons.mp hp with rfl | hp
      · exact ⟨hacc, hDL, hD₀⟩
      · exact ⟨old _ _ (N p hp).1, (N p hp).2⟩
  exact codeAny_compStart_list (loop _ rfl) (W.self 0 _ _ _ hst₁ (loop _ rfl))
end
end Mine
namespace Mine
open LCg
section
variable {prog : Program} {w : World} {A : Around} {E : Value → Shared → Prop} {s : Shared} {h₀ : Heap} {L : Addr} {m : Str → Option Value} {env : Env}
def SrcE (prog : Program) (w : World) (A : Around) (h₀ : Heap) (L : Addr) (m : Str → Option Value) (env : Env) (elt : PySem.Expr) (x x₂ : Str) (scope : Scope) (cl : List (Str × Addr)) (Fin : Shared → List Value → List (Addr × Obj) → Nat → Prop) (xv : Value) (s₁ : Shared) : Prop :=
  ∃ I J l items ol news, xv = .ref I ∧ A.handled = none ∧ Fr h₀ L s₁.heap m ∧ News h₀ L s₁.heap news ∧ (l, ol) ∈ news ∧ ol.cls = .type "list" ∧ (∃ k, ol.data = .seq items k) ∧ items.size ≤ sizeLine ∧
    IsEnum s₁.heap I J 0 .none ∧ s₁.heap.IsListIter J l 0 ∧ I ≠ J ∧ L ≠ I ∧ L ≠ J ∧ h₀.get? I = none ∧ h₀.get? J = none ∧ (∀ p ∈ news, p.1 ≠ I) ∧ (∀ p ∈ news, p.1 ≠ J) ∧
    EltE prog w A h₀ L m env elt x x₂ scope cl s₁ news items ∧ ∀ ys, Fin s₁ ys news items.size
theorem SrcE.of_call {elt : PySem.Expr} {x x₂ : Str} {scope : Scope} {cl : List (Str × Addr)} {Fin : Shared → List Value → List (Addr × Obj) → Nat → Prop} {l : Addr} {items : Array Value} {k : Nat} {news : List (Addr × Obj)}
    (hh : A.handled = none) (F : Fr h₀ L s.heap m) (N : News h₀ L s.heap news) (hl : (l, ({ cls := .type "list", data := .seq items k } : Obj)) ∈ news) (hsz : items.size ≤ sizeLine)
    (R : ∀ g, EltE prog w A h₀ L m env elt x x₂ scope cl { s with heap := g } news items) (fin : ∀ g ys, Fin { s with heap := g } ys news items.size) :
    wpAny (model prog w) A (call (.type "enumerate") [.ref l]) (SrcE prog w A h₀ L m env elt x x₂ scope cl Fin) E s := by
  have fresh₀ : ∀ a, s.heap.objs.size ≤ a → h₀.get? a = none := fun a ha => by
    cases e : h₀.get? a with
    | none => rfl
    | some o' => exact absurd (Heap.lt_size (F.keep a o' e)) (Nat.not_lt.mpr ha)
  refine call_enumerate_list (News.isList N hl) fun h' he hit hz hk => ?_
  have hlt : ∀ p ∈ news, p.1 < s.heap.objs.size := fun p hp => Heap.lt_size (N p hp).1
  have hL : L < s.heap.objs.size := F.ns.lt
  exact ⟨_, _, l, items, _, news, rfl, hh, F.keeps hk, N.grown hk, hl, rfl, ⟨k, rfl⟩, hsz, he, hit, Nat.succ_ne_self _, Nat.ne_of_lt (Nat.lt_succ_of_lt hL), Nat.ne_of_lt hL, fresh₀ _ (Nat.le_succ _), fresh₀ _ (Nat.le_refl _),
    fun p hp => Nat.ne_of_lt (Nat.lt_succ_of_lt (hlt p hp)), fun p hp => Nat.ne_of_lt (hlt p hp), R _, fun ys => fin _ ys⟩
theorem Assign_ListComp_E {elt iter : PySem.Expr} {x x₂ y : Str} {px px₂ tp py : Pos} {tk} {scope : Scope} {cl : List (Str × Addr)} {pos spos : Pos} {Q : Flow → Shared → Prop} (F₀ : Fr h₀ L s.heap m) (hLe : env.locals = L)
    (hsw : swapsWith (.ListComp elt [⟨.Tuple [.Name x px, .Name x₂ px₂] tk tp, iter, [], 0⟩] scope pos) (some (.Name y py)) spos.line env = pure true)
    (hclos : closureFor scope env = pure cl) (hcell : ∀ z ∈ scope.names, z.2 ≠ .cell) (hkind : scope.kind = .function)
    (hnames : ∀ z ∈ scope.names, z.2 = .local → scope.names.lookup z.1 = some .local) (hx : scope.names.lookup x = some .local) (hx₂ : scope.names.lookup x₂ = some .local) (hxx : x ≠ x₂)
    (hy : env.kindOf y = some .local) (hp : (env.scope.kind == .class || (env.scope.kind == .module && env.locals != env.globals)) = false)
    (h : wpAny (model prog w) A (eval iter env) (SrcE prog w A h₀ L m env elt x x₂ scope cl (fun s₂ ys news n => ∀ zs, IntsAre ys zs → zs.length = n → FinA h₀ L m s₂ y Q ys news)) E s)
    (hs : ∀ x, foldedSetIterable iter env x = pure x := by intro _; rfl) :
    wpAny (model prog w) A (exec (.Assign [.Name y py] (.ListComp elt [⟨.Tuple [.Name x px, .Name x₂ px₂] tk tp, iter, [], 0⟩] scope pos) spos) env) Q E s := by
  subst hLe
  rw [exec_Assign_Name_used _ _ _ _ hsw]
  refine wpAny_bind (wpAny_standAt (wpAny_bind ?_))
  show wpAny _ A (do let _ ← comprehension (.ListComp elt [⟨.Tuple [.Name x px, .Name x₂ px₂] tk tp, iter, [], 0⟩] scope pos) scope env _ (newList []) false (eval iter env) (some (assign (.Name y py) env))) _ _ s
  refine wpAny_bind (wpAny_mono (wpAny_comprehension_free (use := some (assign (.Name y py) env)) (Q := fun _ s' => Q .next s') rfl hs hclos hkind hnames
    (wpAny_mono h (fun xv s₁ h₁ => ?_) fun _ _ e => e)) (fun _ s' hq => wpAny_pure (wpAny_pure hq)) fun _ _ e => e)
  obtain ⟨I, J, l, items, ol, news, rfl, hh, F, N, hl, hlc, hld, hsz, hE, hJ, hIJ, hIL, hJL, hI₀, hJ₀, offI, offJ, R, fin⟩ := h₁
  refine wpAny_pyIter_enum hE ?_
  refine block_E hsz hl hlc hld hcell hkind hx hx₂ hxx hh hE hJ hIJ F N hIL hJL hI₀ hJ₀ offI offJ R ?_
  intro D C h' tk m' ys zs F' N' o1 hn hC₀ hD₀ hCL hDL hCD offC hyl hzl
  show wpAny _ A (assign (.Name y py) env (.ref D)) _ _ _
  refine wpAny_assign_Name (wpAny_storeName_local hy F'.ns (fun h₂ hn₂ hs₂ => ?_) hp)
  have hL₀ : h₀.get? env.locals = none := Heap.get?_none_of_le F'.above
  have F₂ : Fr h₀ env.locals h₂ (fun z => if z = y then some (.ref D) else m z) := ⟨hn₂, fun b o e => hs₂.extBut b o (fun q => by rw [q, hL₀] at e; cases e) (F'.keep b o e), F'.above⟩
  refine ⟨m', hn.sameBut hs₂ hCL, fun h'' hs'' => fin ys zs hyl hzl D h'' _ (F₂.change hs'' hCL hC₀) (fun p hp => ?_) o1⟩
  have z : h₂.get? p.1 = some p.2 := hs₂.extBut _ _ (N' p hp).2.1 (N' p hp).1
  refine ⟨hs''.extBut _ _ ?_ z, (N' p hp).2⟩
  rcases List.mem_cons.mp hp with rfl | hp
  · exact Ne.symm hCD
  · exact offC p hp
end
end Mine
namespace Mine
theorem allInts_pick {its : Array Value} {lo hi st : Option Int} (h : AllInts its) : AllInts (slicePick its lo hi st) := by
  intro v hv
  unfold slicePick at hv
  rw [List.mem_toArray, List.mem_filterMap] at hv
  obtain ⟨i, _, e⟩ := hv
  exact h v (Array.mem_of_getElem? e)
theorem sum_any {prog : Program} {w : World} {A : Around} {E : Value → Shared → Prop} {s : Shared} {h₀ : Heap} {L l : Addr} {m : Str → Option Value} {news : List (Addr × Obj)} {items : Array Value} {k : Nat} {Q : Value → Shared → Prop}
    (hh : A.handled = none) (F : Fr h₀ L s.heap m) (N : News h₀ L s.heap news) (hl : (l, ({ cls := .type "list", data := .seq items k } : Obj)) ∈ news) (hall : AllInts items)
    (h : ∀ z h' tk t', Fr h₀ L h' m → News h₀ L h' news → Q (.int z t') { s with heap := h', toks := tk }) : wpAny (model prog w) A (call (.builtin "sum") [.ref l]) Q E s := by
  have hl' := News.isList N hl
  obtain ⟨xs, hx⟩ := hall.items
  rw [hx] at hl'
  exact sum_intListG hh hl' fun h' tk t' hk => h _ h' tk t' (F.keeps hk) (N.grown hk)
theorem three_int {a b c : Int} {ta tb tc : Tok} {i : Nat} {v : Value} (h : (#[Value.int a ta, .int b tb, .int c tc] : Array Value)[i]? = some v) : ∃ z t, v = .int z t := by
  match i, h with
  | 0, h => exact ⟨a, ta, by simpa using h.symm⟩
  | 1, h => exact ⟨b, tb, by simpa using h.symm⟩
  | 2, h => exact ⟨c, tc, by simpa using h.symm⟩
  | i + 3, h => simp at h
end Mine
namespace Mine
abbrev primes : List Int := [7, 11, 19, 23, 47, 59, 67, 71, 79, 83]
theorem prime_in (z : Int) : primes.getD (z.fmod 10).toNat 0 ∈ primes := by
  have h : (z.fmod 10).toNat < 10 := by
    have := Int.fmod_lt_of_pos z (show (0 : Int) < 10 by decide)
    omega
  generalize (z.fmod 10).toNat = k at h
  have : ∀ k : Fin 10, primes.getD k.val 0 ∈ primes := by decide
  exact this ⟨k, h⟩
theorem prime_bd {p : Int} (h : p ∈ primes) : 7 ≤ p ∧ p ≤ 83 := by
  simp only [primes, List.mem_cons, List.not_mem_nil, or_false] at h
  omega
end Mine
namespace Mine
def whole (p : Int) : Int := 16 ^ (p.fdiv 2).toNat - 1
def quo (p : Int) : Nat := ((whole p).fdiv p).toNat
def lettersOf (p : Int) : List UInt8 := apF 42 (quo p) []
theorem all_primes {P : Int → Prop} [DecidablePred P] (h : ∀ p ∈ primes, P p) {p : Int} (hp : p ∈ primes) : P p := h p hp
theorem quo_ok {p : Int} (hp : p ∈ primes) : (whole p).fdiv p = (quo p : Int) ∧ quo p < 16 ^ 42 :=
  (by decide +kernel : ∀ p ∈ primes, (whole p).fdiv p = (quo p : Int) ∧ quo p < 16 ^ 42) p hp
theorem whole_ok {p : Int} (hp : p ∈ primes) : whole p ≠ 0 ∧ (whole p).natAbs.log2 < 9000 :=
  (by decide +kernel : ∀ p ∈ primes, whole p ≠ 0 ∧ (whole p).natAbs.log2 < 9000) p hp
theorem letters_ok {p : Int} (hp : p ∈ primes) : (lettersOf p).length ≤ 41 ∧ ((lettersOf p).length : Int) ≤ p.fdiv 2 :=
  (by decide +kernel : ∀ p ∈ primes, (lettersOf p).length ≤ 41 ∧ ((lettersOf p).length : Int) ≤ p.fdiv 2) p hp
end Mine
namespace Mine
def lettersK (p : Int) : List Int := KBw.bInts (apF 42 (quo p) []).toArray
theorem lettersK_ok {p : Int} (hp : p ∈ primes) : (lettersK p).length ≤ 41 ∧ ((lettersK p).length : Int) ≤ p.fdiv 2 :=
  (by decide +kernel : ∀ p ∈ primes, (lettersK p).length ≤ 41 ∧ ((lettersK p).length : Int) ≤ p.fdiv 2) p hp
end Mine
namespace Mine
def ksOf (p : Int) : List Int := List.replicate (p.fdiv 2 - (lettersK p).length).toNat 65 ++ lettersK p
theorem bInts_rep (n : Nat) : KBw.bInts (List.replicate n ([65] : List UInt8)).flatten.toArray = List.replicate n 65 := by
  unfold KBw.bInts
  simp
theorem word_ints {p : Int} {LA : Array UInt8} (h : KBw.bInts LA = lettersK p) : KBw.bInts ((List.replicate (p.fdiv 2 - (lettersK p).length).toNat ([65] : List UInt8)).flatten.toArray ++ LA) = ksOf p :=
  KBw.ints_app (bInts_rep _) h
theorem word_size {p : Int} {LA : Array UInt8} (h : KBw.bInts LA = lettersK p) (h1 : p.fdiv 2 ≤ 41) (h2 : (lettersK p).length ≤ 41) : (List.replicate (p.fdiv 2 - (lettersK p).length).toNat ([65] : List UInt8)).flatten.toArray.size + LA.size ≤ 16777216 := by
  rw [← KBw.ints_length LA, h, ← KBw.ints_length, bInts_rep, List.length_replicate]
  omega
theorem ks_ok {p : Int} (hp : p ∈ primes) : (ksOf p).length ≤ 41 ∧ leadOk p (whole p) (numF (ksOf p)) (ksOf p) = true :=
  (by decide +kernel : ∀ p ∈ primes, (ksOf p).length ≤ 41 ∧ leadOk p (whole p) (numF (ksOf p)) (ksOf p) = true) p hp
end Mine
namespace Mine
def frontG (k : Int) : Str := Txt.mul (Str.ofString " ") (k.fmod 5) ++ Str.ofString "\t"
def frontR (k : Int) : Nat := (k.fmod 5).toNat
theorem frontG_is (k : Int) : frontG k = strOf (List.replicate (frontR k) 32 ++ [9]) := by
  unfold frontG frontR
  rw [mul_blank, tab_is, strOf_append]
theorem frontR_le (k : Int) : frontR k ≤ 4 := by
  have := Int.fmod_lt_of_pos k (show (0 : Int) < 5 by decide)
  unfold frontR; omega
theorem frontG_len (k : Int) : (frontG k).length ≤ 5 := by
  rw [frontG_is, strOf_length]
  have := frontR_le k
  simp; omega
theorem join_strOf : ∀ l : List (List Nat), Str.join (Str.ofString "") (l.map strOf) = strOf l.flatten
  | [] => by simp [Str.join, strOf]; rfl
  | [a] => by simp [Str.join]
  | a :: b :: r => by
    have ih := join_strOf (b :: r)
    simp only [List.map_cons] at ih ⊢
    show strOf a ++ Str.ofString "" ++ Str.join (Str.ofString "") (strOf b :: r.map strOf) = _
    rw [ih]
    have e : Str.ofString "" = strOf [] := by decide +kernel
    rw [e, strOf_append, strOf_append]
    simp
theorem front_text (l : List Int) : Txt.join (Str.ofString "") (l.map frontG) = strOf (runsT (l.map frontR)) := by
  show Builtin.Str.glued (Str.ofString "") (l.map frontG) = _
  rw [StrLaws.glued_eq_join]
  have e : l.map frontG = (l.map fun k => List.replicate (frontR k) 32 ++ [9]).map strOf := by
    rw [List.map_map]
    exact List.map_congr_left fun k _ => frontG_is k
  rw [e, join_strOf]
  unfold runsT
  rw [List.flatMap_def, List.map_map]
  rfl
theorem runsT_len : ∀ (l : List Nat), (∀ r ∈ l, r ≤ 4) → (runsT l).length ≤ 5 * l.length
  | [], _ => by simp [runsT]
  | a :: r, h => by
    have ih := runsT_len r fun x hx => h x (.tail _ hx)
    have h1 := h a (.head _)
    have e : runsT (a :: r) = (List.replicate a 32 ++ [9]) ++ runsT r := by simp [runsT]
    rw [e]
    simp only [List.length_append, List.length_replicate, List.length_cons, List.length_nil]
    omega
theorem runsT_signs (l : List Nat) : ∀ c ∈ runsT l, c = 32 ∨ c = 9 := by
  intro c hc
  simp only [runsT, List.mem_flatMap, List.mem_append, List.mem_replicate, List.mem_singleton] at hc
  obtain ⟨r, _, h | h⟩ := hc
  · exact .inl h.2
  · exact .inr h
def nearOf (p : Int) : List Nat := nearR p (whole p) (numF (ksOf p)) (ksOf p)
def farOf (p : Int) : List Nat := farR p (whole p) (numF (ksOf p)) (ksOf p)
theorem nf_len {p : Int} (hp : p ∈ primes) : (runsT (nearOf p)).length ≤ 1000 ∧ (runsT (farOf p)).length ≤ 1000 :=
  (by decide +kernel : ∀ p ∈ primes, (runsT (nearOf p)).length ≤ 1000 ∧ (runsT (farOf p)).length ≤ 1000) p hp
end Mine
namespace Mine
theorem join_front {prog : Program} {w : World} {A : Around} {E : Value → Shared → Prop} {s : Shared} {t : Tok} {Q : Value → Shared → Prop} {D : Addr} {ys : List Value} {l : List Int} (hl : s.heap.IsList D ys.toArray) (hc : CarriedAll ys ((List.take 6 l).map fun a => PyData.str (frontG a)))
    (h : ∀ fr t' k, (strOf (runsT fr)).length ≤ 30 → Q (.str (strOf (runsT fr)) t') { s with toks := k }) : wpAny (model prog w) A (call (.builtin "str.join") [.str (Str.ofString "") t, .ref D]) Q E s := by
  have hlen : (List.take 6 l).length ≤ 6 := by rw [List.length_take]; omega
  refine KT.join_B 8 hl hc (fun a _ => Nat.le_trans (frontG_len a) (by decide)) (by omega) (by decide) fun t' k => ?_
  rw [front_text]
  refine h _ _ _ ?_
  rw [strOf_length]
  have h1 := runsT_len ((List.take 6 l).map frontR) (fun r hr => by obtain ⟨k, _, rfl⟩ := List.mem_map.mp hr; exact frontR_le k)
  rw [List.length_map] at h1
  omega
theorem text1 {fr : List Nat} {p z : Int} {NS : Str} (h : strOf (runsT (nearOf p)) = NS) : (strOf (runsT fr) ++ NS) ++ Txt.mul (Str.ofString " ") z = strOf (runsT (fr ++ nearOf p) ++ List.replicate z.toNat 32) := by
  rw [← h, mul_blank, strOf_append, strOf_append]
  simp [runsT]
theorem text2 {fr : List Nat} {p : Int} {FS : Str} (h : strOf (runsT (farOf p)) = FS) : strOf (runsT fr) ++ FS = strOf (runsT (fr ++ farOf p) ++ List.replicate 0 32) := by
  rw [← h, strOf_append]
  simp [runsT]
theorem cps_strOf (l : List Nat) : (strOf l).cps.toList = l := by
  show l.toArray.toList = l
  simp
theorem text_signs (rs : List Nat) (t : Nat) : ∀ c ∈ (strOf (runsT rs ++ List.replicate t 32)).cps.toList, c = 32 ∨ c = 9 := by
  intro c hc
  rw [cps_strOf, List.mem_append] at hc
  rcases hc with h | h
  · exact runsT_signs rs c h
  · exact .inl (List.mem_replicate.mp h).2
theorem fmod4 (z : Int) : 0 ≤ z.fmod 4 ∧ z.fmod 4 < 4 := ⟨by rw [Int.fmod_eq_emod_of_nonneg _ (by decide)]; omega, Int.fmod_lt_of_pos z (by decide)⟩
theorem fmod5 (z : Int) : 0 ≤ z.fmod 5 ∧ z.fmod 5 < 5 := ⟨by rw [Int.fmod_eq_emod_of_nonneg _ (by decide)]; omega, Int.fmod_lt_of_pos z (by decide)⟩
theorem fmod7 (z : Int) : 0 ≤ z.fmod 7 ∧ z.fmod 7 < 7 := ⟨by rw [Int.fmod_eq_emod_of_nonneg _ (by decide)]; omega, Int.fmod_lt_of_pos z (by decide)⟩
end Mine
namespace Mine
theorem fr_script {h₀ h : Heap} {L : Addr} {m0 : Str → Option Value} {v : Value} (F : Fr h₀ L h m0) (e : m0 (Str.ofString "script") = some v) : ∃ m1 : Str → Option Value, Fr h₀ L h (fun y => if y = Str.ofString "script" then some v else m1 y) := by
  refine ⟨m0, ?_⟩
  have : (fun y => if y = Str.ofString "script" then some v else m0 y) = m0 := by
    funext y
    by_cases hy : y = Str.ofString "script"
    · rw [if_pos hy, hy, e]
    · rw [if_neg hy]
  rw [this]
  exact F
end Mine
namespace Mine
theorem keep5 {h₀ h : Heap} {L : Addr} {p1 p2 p3 p4 p5 p6 p7 p8 : Addr × Obj} {l : List (Addr × Obj)} (N : News h₀ L h (p1 :: p2 :: p3 :: p4 :: p5 :: p6 :: p7 :: p8 :: l)) : News h₀ L h (p5 :: l) := by
  refine cb_drop N ?_
  intro p hp
  rcases List.mem_cons.mp hp with e | hp
  · exact e ▸ .tail _ (.tail _ (.tail _ (.tail _ (.head _))))
  · exact .tail _ (.tail _ (.tail _ (.tail _ (.tail _ (.tail _ (.tail _ (.tail _ hp)))))))
end Mine
namespace Mine
theorem ne_of_cell {h₀ h : Heap} {L : Addr} {l : List (Addr × Obj)} {a b : Addr} {vs : Array Value} {o : Obj} {v : Option Value} (N : News h₀ L h l) (m1 : (a, tupObj vs) ∈ l) (m2 : (b, o) ∈ l) (hc : o.data = .cell v) : @Ne Nat a b := by
  intro e
  have h1 := (N _ m1).1
  have h2 := (N _ m2).1
  simp only at h1 h2
  have e' : a = b := e
  rw [e', h2] at h1
  cases h1
  cases hc
end Mine
namespace Mine
theorem news_tail {h₀ h : Heap} {L : Addr} {p : Addr × Obj} {l : List (Addr × Obj)} (N : News h₀ L h (p :: l)) : News h₀ L h l := fun q hq => N q (.tail _ hq)
end Mine
namespace Mine
theorem three_list {ys : List Value} {zs : List Int} (h : IntsAre ys zs) (hl : zs.length = 3) : ∃ a b c ta tb tc, ys = [Value.int a ta, .int b tb, .int c tc] := by
  cases h with
  | nil => simp at hl
  | cons a ta h =>
    cases h with
    | nil => simp at hl
    | cons b tb h =>
      cases h with
      | nil => simp at hl
      | cons c tc h =>
        cases h with
        | nil => exact ⟨_, _, _, _, _, _, rfl⟩
        | cons e te h => simp at hl
theorem cnt_len (xt : Str) (h : xt.length ≤ 100000) : (wsAt xt.cps.toList).cnt.length ≤ 100000 := by
  have h1 := (wsOk_at xt.cps.toList).2.2.1
  have e : xt.cps.toList.length = xt.length := by simp [Str.length]
  omega
theorem bring4 {h₀ h : Heap} {L : Addr} {p1 p2 p3 p4 : Addr × Obj} {l : List (Addr × Obj)} (N : News h₀ L h l) (m1 : p1 ∈ l) (m2 : p2 ∈ l) (m3 : p3 ∈ l) (m4 : p4 ∈ l) : News h₀ L h (p1 :: p2 :: p3 :: p4 :: l) := by
  intro p hp
  rcases List.mem_cons.mp hp with e | hp
  · exact e ▸ N _ m1
  rcases List.mem_cons.mp hp with e | hp
  · exact e ▸ N _ m2
  rcases List.mem_cons.mp hp with e | hp
  · exact e ▸ N _ m3
  rcases List.mem_cons.mp hp with e | hp
  · exact e ▸ N _ m4
  · exact N _ hp
theorem drop4 {h₀ h : Heap} {L : Addr} {p1 p2 p3 p4 : Addr × Obj} {l : List (Addr × Obj)} (N : News h₀ L h (p1 :: p2 :: p3 :: p4 :: l)) : News h₀ L h l := news_tail (news_tail (news_tail (news_tail N)))
end Mine
namespace Mine
/-- weight of the counts: place k counts k / ts each -/
def wsum (ts : Int) : Nat → List Int → Int
  | _, [] => 0
  | k, c :: r => ((k : Int).fdiv ts) * c + wsum ts (k + 1) r
theorem wsum_append (ts : Int) : ∀ (l m : List Int) (k : Nat), wsum ts k (l ++ m) = wsum ts k l + wsum ts (k + l.length) m
  | [], m, k => by simp [wsum]
  | c :: r, m, k => by
    have ih := wsum_append ts r m (k + 1)
    simp only [List.cons_append, wsum, ih, List.length_cons]
    rw [show k + 1 + r.length = k + (r.length + 1) by omega]
    omega
theorem wsum_zeros (ts : Int) : ∀ (n k : Nat), wsum ts k (List.replicate n 0) = 0
  | 0, _ => rfl
  | n + 1, k => by simp [List.replicate_succ, wsum, wsum_zeros ts n (k + 1)]
theorem wsum_set (ts : Int) : ∀ (l : List Int) (j k : Nat), j < l.length → wsum ts k (l.set j (l.getD j 0 + 1)) = wsum ts k l + ((k + j : Nat) : Int).fdiv ts
  | [], j, k, h => by simp at h
  | c :: r, 0, k, _ => by
    simp only [List.set_cons_zero, List.getD_cons_zero, wsum, Nat.add_zero]
    rw [Int.mul_add, Int.mul_one]; omega
  | c :: r, j + 1, k, h => by
    have ih := wsum_set ts r j (k + 1) (by simpa using h)
    simp only [List.set_cons_succ, List.getD_cons_succ, wsum, ih]
    rw [show k + 1 + j = k + (j + 1) by omega]
    omega
theorem flat_zeros (n : Nat) : (List.replicate n ([0] : List Int)).flatten = List.replicate n 0 := by
  induction n with
  | zero => rfl
  | succ n ih => simp [List.replicate_succ, ih]
theorem wsum_bump (ts : Int) (cnt : List Int) (b : Int) (h0 : 0 ≤ b) : wsum ts 0 (bump cnt b) = wsum ts 0 cnt + b.fdiv ts := by
  have hb : ((0 + b.toNat : Nat) : Int) = b := by omega
  unfold bump
  by_cases h : (cnt.length : Int) ≤ b
  · simp only [if_pos h]
    rw [flat_zeros, wsum_set ts _ _ 0 (by simp; omega), wsum_append, wsum_zeros, hb]
    omega
  · simp only [if_neg h]
    rw [wsum_set ts _ _ 0 (by omega), hb]
theorem ilF_eq (ts : Int) (cnt : List Int) (is : List Int) : ∀ a, is.foldl (fun a i => a + i.fdiv ts * cnt.getD i.toNat 0) a = a + (is.map fun i => i.fdiv ts * cnt.getD i.toNat 0).sum := by
  induction is with
  | nil => intro a; simp
  | cons i r ih => intro a; simp only [List.foldl_cons, ih, List.map_cons, List.sum_cons]; omega
theorem wsum_drop (ts : Int) : ∀ (n k : Nat) (cnt : List Int), k + n = cnt.length → ((rangeKs (k : Int) n).map fun i => i.fdiv ts * cnt.getD i.toNat 0).sum = wsum ts k (cnt.drop k)
  | 0, k, cnt, h => by
    rw [List.drop_of_length_le (by omega)]
    simp [rangeKs, wsum]
  | n + 1, k, cnt, h => by
    have ih := wsum_drop ts n (k + 1) cnt (by omega)
    have hk : k < cnt.length := by omega
    rw [List.drop_eq_getElem_cons hk, wsum, ← ih]
    have e : rangeKs (k : Int) (n + 1) = (k : Int) :: rangeKs ((k + 1 : Nat) : Int) n := by
      simp only [rangeKs, List.range_succ_eq_map, List.map_cons, List.map_map]
      have hd0 : (k : Int) + ((0 : Nat) : Int) = (k : Int) := by simp
      have tl0 : (List.range n).map ((fun i : Nat => (k : Int) + (i : Int)) ∘ Nat.succ) = (List.range n).map fun i : Nat => ((k + 1 : Nat) : Int) + (i : Int) :=
        List.map_congr_left fun a _ => by simp only [Function.comp, Nat.succ_eq_add_one]; omega
      rw [hd0, tl0]
    rw [e, List.map_cons, List.sum_cons]
    have e2 : cnt.getD ((k : Int)).toNat 0 = cnt[k] := by simp [List.getD, hk]
    rw [e2]
theorem wsum_low (ts : Int) : ∀ (l : List Int) (k : Nat), ((k + l.length : Nat) : Int) ≤ ts → wsum ts k l = 0
  | [], _, _ => rfl
  | c :: r, k, h => by
    simp only [List.length_cons] at h
    have ih := wsum_low ts r (k + 1) (by omega)
    have e : (k : Int).fdiv ts = 0 := by
      rw [Int.fdiv_eq_ediv_of_nonneg _ (by omega)]
      exact Int.ediv_eq_zero_of_lt (by omega) (by omega)
    rw [wsum, ih, e]; simp
theorem ilF_wsum (ts : Int) (h1 : 1 ≤ ts) (cnt : List Int) : ilF ts cnt (rangeKs ts ((cnt.length : Int) - ts).toNat) = wsum ts 0 cnt := by
  obtain ⟨k, rfl⟩ : ∃ k : Nat, ts = (k : Int) := ⟨ts.toNat, by omega⟩
  unfold ilF
  rw [ilF_eq]
  by_cases h : k ≤ cnt.length
  · have e : ((cnt.length : Int) - (k : Int)).toNat = cnt.length - k := by omega
    rw [e, wsum_drop _ (cnt.length - k) k cnt (by omega)]
    have hs := wsum_append (k : Int) (cnt.take k) (cnt.drop k) 0
    rw [List.take_append_drop] at hs
    have hl : (cnt.take k).length = k := by rw [List.length_take]; omega
    have hz := wsum_low (k : Int) (cnt.take k) 0 (by rw [hl]; omega)
    rw [hs, hz, hl]
    simp
  · have e : ((cnt.length : Int) - (k : Int)).toNat = 0 := by omega
    rw [e, wsum_low _ cnt 0 (by omega)]
    simp [rangeKs]
def rsum (ts : Int) (rs : List Nat) : Int := (rs.map fun (r : Nat) => ((r : Int)).fdiv ts).sum
theorem ws_blanks : ∀ (n : Nat) (st : WS), (List.replicate n 32).foldl wsStep st = ⟨st.cnt, st.b + n, st.n + n, st.nt⟩
  | 0, st => by simp
  | n + 1, st => by
    rw [List.replicate_succ, List.foldl_cons, ws_blanks n]
    simp only [wsStep, if_true]
    congr 1 <;> omega
theorem ws_runs (ts : Int) : ∀ (rs : List Nat) (st : WS), st.b = 0 → ((runsT rs).foldl wsStep st).b = 0 ∧ ((runsT rs).foldl wsStep st).nt = st.nt + rs.length ∧ wsum ts 0 ((runsT rs).foldl wsStep st).cnt = wsum ts 0 st.cnt + rsum ts rs
  | [], st, h => by simp [runsT, rsum, h]
  | r :: rs, st, h => by
    have e : runsT (r :: rs) = (List.replicate r 32 ++ [9]) ++ runsT rs := by simp [runsT]
    rw [e, List.foldl_append, List.foldl_append, ws_blanks]
    simp only [List.foldl_cons, List.foldl_nil]
    have hstep : wsStep ⟨st.cnt, st.b + r, st.n + r, st.nt⟩ 9 = ⟨bump st.cnt (st.b + r), 0, st.n + r + 1, st.nt + 1⟩ := by simp [wsStep]
    rw [hstep]
    obtain ⟨h1, h2, h3⟩ := ws_runs ts rs ⟨bump st.cnt (st.b + r), 0, st.n + r + 1, st.nt + 1⟩ rfl
    refine ⟨h1, ?_, ?_⟩
    · rw [h2]; simp only [List.length_cons]; omega
    · rw [h3]
      simp only
      rw [wsum_bump _ _ _ (by omega), h]
      simp only [rsum, List.map_cons, List.sum_cons]
      rw [show (0 : Int) + (r : Int) = (r : Int) by omega]
      omega
theorem ws_text (rs : List Nat) (t : Nat) : (wsAt (strOf (runsT rs ++ List.replicate t 32)).cps.toList).b = t ∧ (wsAt (strOf (runsT rs ++ List.replicate t 32)).cps.toList).nt = rs.length ∧
    ∀ ts, 1 ≤ ts → ilF ts (wsAt (strOf (runsT rs ++ List.replicate t 32)).cps.toList).cnt (rangeKs ts (((wsAt (strOf (runsT rs ++ List.replicate t 32)).cps.toList).cnt.length : Int) - ts).toNat) = rsum ts rs := by
  rw [cps_strOf]
  have key : ∀ ts, (wsAt (runsT rs ++ List.replicate t 32)).b = t ∧ (wsAt (runsT rs ++ List.replicate t 32)).nt = rs.length ∧ wsum ts 0 (wsAt (runsT rs ++ List.replicate t 32)).cnt = rsum ts rs := by
    intro ts
    unfold wsAt
    rw [List.foldl_append, ws_blanks]
    obtain ⟨h1, h2, h3⟩ := ws_runs ts rs ⟨[], 0, 0, 0⟩ rfl
    refine ⟨?_, ?_, ?_⟩
    · simp only [h1]; omega
    · simp only [h2]; omega
    · simp only [h3, wsum]; omega
  exact ⟨(key 1).1, (key 1).2.1, fun ts hts => by rw [ilF_wsum ts hts]; exact (key ts).2.2⟩
end Mine
namespace Mine
theorem rsum_append (ts : Int) (a b : List Nat) : rsum ts (a ++ b) = rsum ts a + rsum ts b := by
  simp [rsum]
def ld (p ts : Int) : Int := ts * ((rsum ts (nearOf p) + (nearOf p).length) - (rsum ts (farOf p) + (farOf p).length))
theorem told_is {p ts z : Int} {fr : List Nat} (hz : 0 ≤ z) {v1 v2 : Int} (h1 : v1 = ((z.toNat : Nat) : Int) + ts * (rsum ts (fr ++ nearOf p) + ((fr ++ nearOf p).length : Int))) (h2 : v2 = ((0 : Nat) : Int) + ts * (rsum ts (fr ++ farOf p) + ((fr ++ farOf p).length : Int))) : v1 - v2 - z = ld p ts := by
  have e : ((z.toNat : Nat) : Int) = z := by omega
  rw [h1, h2, e, rsum_append, rsum_append, List.length_append, List.length_append]
  unfold ld
  simp only [Int.natCast_add, Int.mul_add, Int.mul_sub]
  omega
def finOk (p : Int) : Bool :=
  (if p.fmod 8 = 7 then decide (ld p 1 = classes p) && decide (ld p 2 = 2 * classes p) && [0, 1, 2, 3, 4, 5, 6].all fun d => decide (ld p (p.fdiv 2 + 1 + d) = (p.fdiv 2 + 1 + d) * classes p)
   else decide (ld p 1 = (p + 3) * classes p) && decide (ld p 2 = (p + 3) * classes p) && [0, 1, 2, 3, 4, 5, 6].all fun d => decide (ld p (p.fdiv 2 + 1 + d) = 3 * (p.fdiv 2 + 1 + d) * classes p))
  && decide (2 * ((ksOf p).sum - 65 * p.fdiv 2) = 15 * (p.fdiv 2 - classes p))
theorem fin_all : ∀ p ∈ primes, finOk p = true := by decide +kernel
theorem fin_sum {p : Int} (hp : p ∈ primes) : 2 * ((ksOf p).sum - 65 * p.fdiv 2) = 15 * (p.fdiv 2 - classes p) := by
  have h := fin_all p hp
  simp only [finOk, Bool.and_eq_true, decide_eq_true_eq] at h
  exact h.2
theorem seven {d : Int} (h : 0 ≤ d ∧ d < 7) : d ∈ ([0, 1, 2, 3, 4, 5, 6] : List Int) := by
  simp only [List.mem_cons, List.not_mem_nil, or_false]; omega
theorem fin_yes {p d : Int} (hp : p ∈ primes) (h8 : p.fmod 8 = 7) (hd : 0 ≤ d ∧ d < 7) : ld p 1 = classes p ∧ ld p 2 = 2 * classes p ∧ ld p (p.fdiv 2 + 1 + d) = (p.fdiv 2 + 1 + d) * classes p := by
  have h := fin_all p hp
  simp only [finOk, if_pos h8, Bool.and_eq_true, decide_eq_true_eq, List.all_eq_true] at h
  exact ⟨h.1.1.1, h.1.1.2, h.1.2 d (seven hd)⟩
theorem fin_no {p d : Int} (hp : p ∈ primes) (h8 : p.fmod 8 ≠ 7) (hd : 0 ≤ d ∧ d < 7) : ld p 1 = (p + 3) * classes p ∧ ld p 2 = (p + 3) * classes p ∧ ld p (p.fdiv 2 + 1 + d) = 3 * (p.fdiv 2 + 1 + d) * classes p := by
  have h := fin_all p hp
  simp only [finOk, if_neg h8, Bool.and_eq_true, decide_eq_true_eq, List.all_eq_true] at h
  exact ⟨h.1.1.1, h.1.1.2, h.1.2 d (seven hd)⟩
end Mine
namespace Mine
theorem len_blanks {prog : Program} {w : World} {A : Around} {E : Value → Shared → Prop} {s : Shared} {t : Tok} {z : Int} {Q : Value → Shared → Prop} (hz : 0 ≤ z ∧ z < 4) (h : Q (.int z (s.toks + 1)) { s with toks := s.toks + 1 + 1 }) : wpAny (model prog w) A (call (.builtin "len") [.str (Txt.mul (Str.ofString " ") z) t]) Q E s := by
  have e : ((Txt.mul (Str.ofString " ") z).length : Int) = z := by
    rw [mul_blank, strOf_length, List.length_replicate]
    omega
  refine P.len_str (by rw [e]; omega) ?_
  rw [e]
  exact h
theorem three_ints {ys : List Value} {a b c : Int} (h : IntsAre ys [a, b, c]) : ∃ ta tb tc, ys = [Value.int a ta, .int b tb, .int c tc] := by
  obtain ⟨a', b', c', ta, tb, tc, e⟩ := three_list h rfl
  subst e
  cases h with
  | cons _ _ h =>
    cases h with
    | cons _ _ h =>
      cases h with
      | cons _ _ h =>
        exact ⟨_, _, _, rfl⟩
theorem first {h₀ h : Heap} {L : Addr} {p : Addr × Obj} {l : List (Addr × Obj)} (N : News h₀ L h (p :: l)) : News h₀ L h [p] := fun q hq => N q (by cases hq with | head => exact .head _ | tail _ h => cases h)
end Mine
namespace Mine
theorem eq_same {prog : Program} {w : World} {A : Around} {E : Value → Shared → Prop} {s : Shared} {a b : Addr} {xs ys : List Value} {ns : List Int} {Q : Value → Shared → Prop} (ha : s.heap.IsList a xs.toArray) (hb : s.heap.IsList b ys.toArray) (hi : IntsAre xs ns) (hj : IntsAre ys ns) (hu : A.units + 64 < cLine) (h : Q (.bool true) s) : wpAny (model prog w) A (compareOp .Eq (.ref a) (.ref b)) Q E s := by
  refine eq_intsK ha hi hb hj hu ?_
  rw [decide_eq_true rfl]
  exact h
end Mine
theorem PySem.Challenge.cw_tp0014_01_holds : PySem.Challenge.rw_tp0014_01.Holds := by
  refine Mine.hd ?_
  k_go0
  (all_goals try k_fold)
  (with_reducible rename Shared => s1)
  have hfin : ∀ h' tk' m' news', Fr s1.heap s1.heap.objs.size h' m' → News s1.heap s1.heap.objs.size h' news' → qk (.ret (.bool true)) (Shared.mk h' s1.gens s1.drawn tk' s1.os) := by
    intro h' tk' m' news' F' N'
    k_unfold
    dsimp only
    kc_close
  clear_value qk ek
  (with_reducible rename Top _ _ _ _ _ _ => hT)
  (with_reducible rename Below _ _ _ _ => hB)
  (with_reducible rename Frag.In _ _ => hK)
  (with_reducible rename Heap.IsList _ _ _ => hSL)
  (with_reducible rename Fr _ _ _ _ => hF)
  (with_reducible rename News _ _ _ _ => hN)
  (with_reducible rename IntsAre _ _ => hSI)
  (with_reducible rename ¬ (_ : Int) < _ => hlen63)
  obtain ⟨m1, hF1⟩ := Mine.fr_script (v := .ref _) hF (by rfl)
  clear hF
  (with_reducible rename _ = Data.cell _ => c4)
  revert c4
  (with_reducible rename _ = Data.cell _ => c3)
  revert c3
  (with_reducible rename _ = Data.cell _ => c2)
  revert c2
  (with_reducible rename _ = Data.cell _ => c1)
  revert c1
  intro (c1 : _ = Data.cell none) (c2 : _ = Data.cell none) (c3 : _ = Data.cell none) (c4 : _ = Data.cell none)
  (try ((with_reducible rename Ground _ _ _ _ _ _ _ _ _ => zz); clear zz))
  (try ((with_reducible rename CellsAre _ _ _ => zz); clear zz))
  (try ((with_reducible rename Heap.CodeRec _ _ _ => zz); clear zz))
  (try ((with_reducible rename Dflts _ _ _ _ _ _ => zz); clear zz))
  (try ((with_reducible rename Glob _ _ _ _ _ _ _ _ => zz); clear zz))
  (try ((with_reducible rename Flt.MathXP _ _ _ => zz); clear zz))
  (try ((with_reducible rename LooseAre _ _ _ => zz); clear zz))
  (try ((with_reducible rename Tables _ _ _ _ => zz); clear zz))
  (try ((with_reducible rename TopE _ _ _ _ => zz); clear zz))
  (try ((with_reducible rename TopW _ _ _ => zz); clear zz))
  (try ((with_reducible rename BMod _ _ _ _ _ => zz); clear zz))
  (try ((with_reducible rename Hook.says _ _ _ => zz); clear zz))
  (try ((with_reducible rename Spec.Shape.has _ _ = true => zz); clear zz))
  (try ((with_reducible rename PyData.layable0 _ = true => zz); clear zz))
  (try ((with_reducible rename PyData.layableAll0 _ = true => zz); clear zz))
  (try ((with_reducible rename WShape.hasAll _ _ _ = true => zz); clear zz))
  (try ((with_reducible rename WData.layableAll _ = true => zz); clear zz))
  (try ((with_reducible rename ReadsAll _ _ _ _ => zz); clear zz))
  (try ((with_reducible rename Reads _ _ _ _ => zz); clear zz))
  (try ((with_reducible rename Well _ _ _ _ => zz); clear zz))
  (try ((with_reducible rename ReadsAllW _ _ _ _ _ _ => zz); clear zz))
  dsimp only
  walk_at "UPTOPAIR"
  k_dflt (refine Mine.Assign_ListComp_E (F₀ := by k_asm) (by rfl) (by with_unfolding_all rfl) (by with_unfolding_all rfl) (by decide) (by rfl) (by decide) (by rfl) (by rfl) (by decide) (by rfl) (by rfl) ?_)
  walk_at "UPTOENUM"
  k_dflt (refine Mine.SrcE.of_call (by rfl) (by k_asm) (by k_asm) (by k_mem) (by exact Nat.le_of_ble_eq_true rfl) ?_ ?_)
  · intro g' i' v' ys' I' J' C' D' oI' oJ' oC' m' h' tk' t' E' hv' hC' hx' hy' F' N' off' offJ' ne'
    obtain ⟨z', tz', rfl⟩ := Mine.three_int hv'
    walk_at "UPTOSUM"
    k_dflt (refine Mine.sum_any (by rfl) (by k_asm) (by k_asm) (.head _) (Mine.allInts_pick (IntsAre.allInts (by assumption))) ?_)
    intro zz hh' tt' ttk F9 N9
    walk_at "UPTOEX"
    exact ⟨_, _, _, _, _, rfl, rfl, by assumption, by assumption, fun p hp => .tail _ hp⟩
  · intro g' ys' zs' hz' hzl' D' h' tk' F' N' o1'
    obtain ⟨z0, z1, z2, tz0, tz1, tz2, rfl⟩ := Mine.three_list hz' hzl'
    clear hz' hzl'
    dsimp only
    walk_at "UPTOFDIV"
    have hpin := Mine.prime_in (([z0, z1, z2] : List Int).getD (Int.toNat 0) 0)
    dsimp only [Mine.primes] at hpin
    generalize ([7, 11, 19, 23, 47, 59, 67, 71, 79, 83] : List Int).getD ((([z0, z1, z2] : List Int).getD (Int.toNat 0) 0).fmod 10).toNat 0 = p at *
    have hpb := Mine.prime_bd hpin
    have hsz : 3 ≤ p.fdiv 2 ∧ p.fdiv 2 ≤ 41 := by rw [Int.fdiv_eq_ediv_of_nonneg _ (by decide)]; omega
    walk_at "UPTOCALLREF"
    rw [show (16 : Int) ^ (p.fdiv 2).toNat - 1 = Mine.whole p from rfl, (Mine.quo_ok hpin).1]
    k_dflt (refine' Mine.ap_call (Mine.quo p) (Mine.quo_ok hpin).2 _ _ _ _ _ _ _ _ _ _ _ _ _ _ _ _ _ _ ?k1 ?k2 ?k3 ?k4 ?k5 ?kK trivial ?kd ?ku ?kR)
    case k2 => k_asm
    case k4 => k_asm
    case k1 => k_asm
    case k3 => k_asm
    case k5 => k_asm
    case kK => exact rfl
    case kd => ktr_room
    case ku => ktr_units
    intro tL hL tkL FL NL
    dsimp only
    have hLA : KBw.bInts (Mine.apF 42 (Mine.quo p) []).toArray = Mine.lettersK p := rfl
    obtain ⟨hLn1, hLn2⟩ := Mine.lettersK_ok hpin
    generalize (Mine.apF 42 (Mine.quo p) []).toArray = LA at *
    walk_at "UPTOADD"
    refine KBy.add_bytes (Mine.word_size hLA hsz.2 hLn1) ?_
    intro tWD kWD
    have hWD := Mine.word_ints hLA
    obtain ⟨hks1, hks2⟩ := Mine.ks_ok hpin
    generalize (List.replicate (p.fdiv 2 - (Mine.lettersK p).length).toNat ([65] : List UInt8)).flatten.toArray ++ LA = WD at *
    walk_at "UPTOCALLREF"
    k_dflt (refine' Mine.leads_call WD (Mine.ksOf p) hWD hks1 p hpb (Mine.whole p) (Mine.whole_ok hpin).1 (Mine.whole_ok hpin).2 hks2 _ _ _ _ _ _ _ _ _ _ _ _ _ _ _ _ _ _ _ _ ?bk1 ?bk2 ?bk3 ?bk4 ?bk5 ?bkK ?bkd ?bku ?bkR)
    case bk2 => k_asm
    case bk4 => k_asm
    case bk1 => k_asm
    case bk3 => k_asm
    case bk5 => k_asm
    case bkK => exact rfl
    case bkd => ktr_room
    case bku => ktr_units
    intro DD tN tF hNF tkNF FL NL lNF
    k_lt lNF
    dsimp only
    obtain ⟨hnl, hfl⟩ := Mine.nf_len hpin
    rw [← Mine.strOf_length] at hnl hfl
    rw [show Mine.nearR p (Mine.whole p) (Mine.numF (Mine.ksOf p)) (Mine.ksOf p) = Mine.nearOf p from rfl, show Mine.farR p (Mine.whole p) (Mine.numF (Mine.ksOf p)) (Mine.ksOf p) = Mine.farOf p from rfl] at NL
    generalize hNS : Mine.strOf (Mine.runsT (Mine.nearOf p)) = NS at *
    generalize hFS : Mine.strOf (Mine.runsT (Mine.farOf p)) = FS at *
    walk_at "UPTOLC"
    k_dflt (refine LCg.ListComp_U (F₀ := by k_asm) (by with_unfolding_all rfl) (by decide) (by rfl) (by decide) (by rfl) ?_)
    walk_at "UPTOSRC"
    refine LCg.CompSrc.ledger (by rfl) (by k_asm) (by k_asm) (by k_mem) (by kcf_size) ?_
    intro gF
    refine' kct_list Mine.frontG (by assumption) (fun k' t' I' oI' C' oC' D' m' ys' h' tk' E' hk' hC' hx' F' N' off' ne' hMark => ?_) ?_
    · have off0 := off'
      (try simp only [LCg.Off3, and_true] at off')
      have hfm := Mine.fmod5 k'
      have hl1 : (Str.ofString "\t").length = 1 := by decide +kernel
      walk_at "UPTOCE"
      exact LCg.CompEnd.intro (by assumption) (by assumption) _ (fun q hq => hq) off0 (.inr ⟨_, by k_mem, rfl, _, rfl⟩) ⟨rfl, _, rfl⟩
    · unfold KPfDone
      intro ysF hcar hlk D9 h9 tk9 F9 N9 o9
      dsimp only
      walk_at "UPTOJOIN"
      k_dflt (refine Mine.join_front (News.isList (by k_asm) (.head _)) hcar ?_)
      intro fr tfr kfr hfrl
      replace N9 := Mine.keep5 N9
      simp only [LCg.Off1, and_true] at o1'
      have h4 := Mine.fmod4 (([z0, z1, z2] : List Int).getD (Int.toNat 1) 0)
      walk_at "UPTOCALLREF"
      have hx1 : ((Mine.strOf (Mine.runsT fr) ++ NS) ++ Txt.mul (Str.ofString " ") ((([z0, z1, z2] : List Int).getD (Int.toNat 1) 0).fmod 4)).length ≤ 100000 := by omega
      rw [Mine.text1 hNS]
      rw [Mine.text1 hNS] at hx1
      k_dflt (refine' Mine.ws_call _ _ (Mine.text_signs _ _) hx1 _ _ _ _ _ _ _ _ _ _ _ _ _ _ _ _ _ ?e1 ?e2 ?e3 ?e4 ?e5 ?eK ?ed ?eu ?eR)
      case e2 => k_asm
      case e4 => k_asm
      case e1 => k_asm
      case e3 => k_asm
      case e5 => k_asm
      case eK => exact rfl
      case ed => ktr_room
      case eu => ktr_units
      intro x1 d1 T1 D1 vs1 sm1 tx1 tb1 tn1 tt1 qa1 qa2 qa3 qa4 qa5 hh1 tkk1 FF1 hI1 NN1 lA1 lB1 lC1 lD1 lE1
      simp only [AllLt, and_true] at lA1 lE1
      obtain ⟨hb1, hnt1, hcf1⟩ := Mine.ws_text (fr ++ Mine.nearOf p) ((([z0, z1, z2] : List Int).getD (Int.toNat 1) 0).fmod 4).toNat
      have hcl1 := Mine.cnt_len _ hx1
      rw [hb1, hnt1] at NN1
      clear hb1 hnt1
      generalize (Mine.wsAt (Mine.strOf (Mine.runsT (fr ++ Mine.nearOf p) ++ List.replicate ((([z0, z1, z2] : List Int).getD (Int.toNat 1) 0).fmod 4).toNat 32)).cps.toList).cnt = cnt1 at *
      generalize (Mine.wsAt (Mine.strOf (Mine.runsT (fr ++ Mine.nearOf p) ++ List.replicate ((([z0, z1, z2] : List Int).getD (Int.toNat 1) 0).fmod 4).toNat 32)).cps.toList).n = nn1 at *
      have hne1 := Mine.ne_of_cell NN1 (.tail _ (.head _)) (by k_mem) c1
      have hne2 := Mine.ne_of_cell NN1 (.tail _ (.head _)) (by k_mem) c2
      dsimp only
      walk_at "UPTOCALLREF"
      rw [Mine.text2 hFS]
      have hx2 : (Mine.strOf (Mine.runsT (fr ++ Mine.farOf p) ++ List.replicate 0 32)).length ≤ 100000 := by rw [← Mine.text2 hFS]; omega
      k_dflt (refine' Mine.ws_call _ _ (Mine.text_signs _ _) hx2 _ _ _ _ _ _ _ _ _ _ _ _ _ _ _ _ _ ?g1 ?g2 ?g3 ?g4 ?g5 ?gK ?gd ?gu ?gR)
      case g2 => k_asm
      case g4 => k_asm
      case g1 => k_asm
      case g3 => k_asm
      case g5 => k_asm
      case gK => exact rfl
      case gd => ktr_room
      case gu => ktr_units
      intro x2 d2 T2 D2 vs2 sm2 tx2 tb2 tn2 tt2 qb1 qb2 qb3 qb4 qb5 hh2 tkk2 FF2 hI2 NN2 lA2 lB2 lC2 lD2 lE2
      simp only [AllLt, and_true] at lA2 lE2
      obtain ⟨hb2, hnt2, hcf2⟩ := Mine.ws_text (fr ++ Mine.farOf p) 0
      have hcl2 := Mine.cnt_len _ hx2
      rw [hb2, hnt2] at NN2
      clear hb2 hnt2
      generalize (Mine.wsAt (Mine.strOf (Mine.runsT (fr ++ Mine.farOf p) ++ List.replicate 0 32)).cps.toList).cnt = cnt2 at *
      generalize (Mine.wsAt (Mine.strOf (Mine.runsT (fr ++ Mine.farOf p) ++ List.replicate 0 32)).cps.toList).n = nn2 at *
      have hne3 := Mine.ne_of_cell NN2 (.tail _ (.head _)) (by k_mem) c1
      have hne4 := Mine.ne_of_cell NN2 (.tail _ (.head _)) (by k_mem) c2
      dsimp only
      walk_at "UPTOSTORE"
      (with_reducible rename News _ _ _ _ => NQ)
      replace NQ := Mine.news_tail NQ
      walk_at "UPTOCALLREF"
      k_dflt (refine' Mine.classes_call p hpb _ _ _ _ _ _ _ _ _ _ _ _ _ _ _ _ _ _ ?q1 ?q2 ?q3 ?q4 ?q5 ?qK trivial ?qd ?qu ?qR)
      case q2 => k_asm
      case q4 => k_asm
      case q1 => k_asm
      case q3 => k_asm
      case q5 => k_asm
      case qK => exact rfl
      case qd => ktr_room
      case qu => ktr_units
      intro tC hC tkC FC NC
      dsimp only
      have h7 := Mine.fmod7 (([z0, z1, z2] : List Int).getD (Int.toNat 2) 0)
      have hwide : 4 ≤ p.fdiv 2 + 1 + (([z0, z1, z2] : List Int).getD (Int.toNat 2) 0).fmod 7 ∧ p.fdiv 2 + 1 + (([z0, z1, z2] : List Int).getD (Int.toNat 2) 0).fmod 7 ≤ 48 := by omega
      walk_at "UPTOALC"
      k_dflt (refine LCg.Assign_ListComp_U (F₀ := by k_asm) (by rfl) (by with_unfolding_all rfl) (by with_unfolding_all rfl) (by decide) (by rfl) (by decide) (by rfl) (by rfl) (by rfl) ?_)
      walk_at "UPTOSRC"
      refine LCg.CompSrc.ledger (by rfl) (by k_asm) (by k_asm) (by k_mem) (by kcf_size) ?_
      intro gT
      refine' kcf_list (ns := [1, 2, p.fdiv 2 + 1 + (([z0, z1, z2] : List Int).getD (Int.toNat 2) 0).fmod 7]) (Mine.ld p) (.cons _ _ (.cons _ _ (.cons _ _ .nil))) (fun k' t' I' oI' C' oC' D' m' ys' h' tk' E' hk' hC' hx' F' N' off' ne' hMark => ?_) ?_
      · have off0 := off'
        (try simp only [LCg.Off3, and_true] at off')
        have hkb : 1 ≤ k' ∧ k' ≤ 1000 := by
          simp only [List.mem_cons, List.not_mem_nil, or_false] at hk'
          omega
        walk_at "UPTOCALLREF"
        (with_reducible rename News _ _ _ _ => NQ)
        have NB := Mine.bring4 (p1 := (T1, _)) (p2 := (D1, _)) (p3 := (x1, _)) (p4 := (d1, _)) NQ (by k_mem) (by k_mem) (by k_mem) (by k_mem)
        k_dflt (refine' Mine.lvl_call _ _ hI1 hcl1 hkb _ _ _ _ _ _ _ _ _ _ _ _ _ _ _ _ _ ?ra1 ?ra2 ?ra3 ?ra4 ?ra5 ?raK ?rad ?rau ?raR)
        case ra2 => k_asm
        case ra4 => exact NB
        case ra1 => k_asm
        case ra3 => k_asm
        case ra5 => k_asm
        case raK => exact rfl
        case rad => ktr_room
        case rau => ktr_units
        clear NB NQ
        intro tv1 hv1 tkv1 FV1 NV1
        rw [hcf1 _ hkb.1]
        replace NV1 := Mine.drop4 NV1
        dsimp only
        walk_at "UPTOCALLREF"
        (with_reducible rename News _ _ _ _ => NQ)
        have NB := Mine.bring4 (p1 := (T2, _)) (p2 := (D2, _)) (p3 := (x2, _)) (p4 := (d2, _)) NQ (by k_mem) (by k_mem) (by k_mem) (by k_mem)
        k_dflt (refine' Mine.lvl_call _ _ hI2 hcl2 hkb _ _ _ _ _ _ _ _ _ _ _ _ _ _ _ _ _ ?rb1 ?rb2 ?rb3 ?rb4 ?rb5 ?rbK ?rbd ?rbu ?rbR)
        case rb2 => k_asm
        case rb4 => exact NB
        case rb1 => k_asm
        case rb3 => k_asm
        case rb5 => k_asm
        case rbK => exact rfl
        case rbd => ktr_room
        case rbu => ktr_units
        clear NB NQ
        intro tv2 hv2 tkv2 FV2 NV2
        rw [hcf2 _ hkb.1]
        replace NV2 := Mine.drop4 NV2
        dsimp only
        walk_at "UPTOLEN"
        refine Mine.len_blanks h4 ?_
        dsimp only
        walk_at "UPTOCE"
        exact LCg.CompEnd.intro (by assumption) (by assumption) _ (fun q hq => hq) off0 (.inr ⟨_, by k_mem, rfl, _, rfl⟩) (kcf_el (Mine.told_is h4.1 rfl rfl).symm rfl rfl)
      · unfold KPfDone
        intro ysT hIT DT hT9 tkT FT NT oT
        obtain ⟨u1, u2, u3, hys⟩ := Mine.three_ints (a := Mine.ld p 1) (b := Mine.ld p 2) (c := Mine.ld p (p.fdiv 2 + 1 + (([z0, z1, z2] : List Int).getD (Int.toNat 2) 0).fmod 7)) hIT
        subst hys
        clear hIT
        replace NT := Mine.first NT
        dsimp only
        by_cases h8 : p.fmod 8 = 7
        · have hy := Mine.fin_yes hpin h8 h7
          rw [hy.1, hy.2.1, hy.2.2] at NT
          clear hy
          walk_at "UPTOEQL"
          all_goals (try exact absurd h8 (by assumption))
          k_dflt (refine' Mine.eq_same (ns := [Mine.classes p, 2 * Mine.classes p, (p.fdiv 2 + 1 + (([z0, z1, z2] : List Int).getD (Int.toNat 2) 0).fmod 7) * Mine.classes p]) (News.isList (by k_asm) (.tail _ (.head _))) (News.isList (by k_asm) (.head _)) (.cons _ _ (.cons _ _ (.cons _ _ .nil))) (.cons _ _ (.cons _ _ (.cons _ _ .nil))) ?wau ?waR)
          case wau => ktr_units
          dsimp only
          walk_at "UPTOSUM"
          k_dflt (refine' KBmo.sum_K (by k_asm) (by k_asm) (by with_unfolding_all rfl) hWD (Nat.le_trans hks1 (by decide)) ?_)
          intro hS tS tkS FS NS2 hs0 hs1
          dsimp only
          walk_at "UPTOEQI"
          rw [Mine.fin_sum hpin]
          refine P.eq_int ?_
          rw [beq_self_eq_true]
          dsimp only
          repeat (walk_at "ST")
          exact hfin _ _ _ _ (by assumption) (by assumption)
        · have hy := Mine.fin_no hpin h8 h7
          rw [hy.1, hy.2.1, hy.2.2] at NT
          clear hy
          walk_at "UPTOEQL"
          all_goals (try exact absurd (by assumption) h8)
          walk_at "UPTOEQL"
          k_dflt (refine' Mine.eq_same (ns := [(p + 3) * Mine.classes p, (p + 3) * Mine.classes p, 3 * (p.fdiv 2 + 1 + (([z0, z1, z2] : List Int).getD (Int.toNat 2) 0).fmod 7) * Mine.classes p]) (News.isList (by k_asm) (.tail _ (.head _))) (News.isList (by k_asm) (.head _)) (.cons _ _ (.cons _ _ (.cons _ _ .nil))) (.cons _ _ (.cons _ _ (.cons _ _ .nil))) ?wbu ?wbR)
          case wbu => ktr_units
          dsimp only
          walk_at "UPTOSUM"
          k_dflt (refine' KBmo.sum_K (by k_asm) (by k_asm) (by with_unfolding_all rfl) hWD (Nat.le_trans hks1 (by decide)) ?_)
          intro hS tS tkS FS NS2 hs0 hs1
          dsimp only
          walk_at "UPTOEQI"
          rw [Mine.fin_sum hpin]
          refine P.eq_int ?_
          rw [beq_self_eq_true]
          dsimp only
          repeat (walk_at "ST")
          exact hfin _ _ _ _ (by assumption) (by assumption)
