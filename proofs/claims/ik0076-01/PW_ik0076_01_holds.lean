import PyProof.Rows.All
import Wide.All
import OpenK.AllK
import Wide.FinOn
import KE.KLam
import PyProof.StrReplace2
import PyProof.LetGo
import PyProof.Rows.SeqItemCall
import PyProof.CompMap
import PyProof.StrWalks
import PyProof.EnumMake
import PyProof.WalksMore
import PyProof.RulesTry
import PyProof.MeetsSeq
import PyProof.ListIndexNeg
import PyProof.NeData
import PyProof.P3Eq
import PyProof.Rows.ChunkLeaf
import PyProof.SliceMore
import PyProof.Rows.GenRowsK
import PyProof.JoinWalk
import PyProof.AttrMissHeap
import PyProof.Rows.AttrNode
import PyProof.IsiH_list
import PyProof.Rows.Range3
import PyProof.InstFacts
import PyProof.Rows.Exc
import PyProof.IsiHeapPairs
import PyProof.WalksPairs
import PyProof.ForAny
import PyProof.EnumFor
import KE.KxPercent
import PyProof.FString5
import PyProof.CompFree
import PyProof.Rows.CellsFrame
import PyProof.AutoSeq1
import KE.KTabLook
import Lean
import PySem.Challenge.RW_ik0076_01
set_option Elab.async false
set_option linter.all false
set_option maxHeartbeats 4000000
set_option maxRecDepth 100000
namespace Mine
section
set_option maxHeartbeats 8000000
open PySem PySem.W PyProof.Rows
theorem hd_bare : (["vars", "dir", "locals"] : List Str).filter (readsOut PySem.Challenge.rw_ik0076_01.row.prog PySem.Challenge.rw_ik0076_01.row.prog.main.body) = [] := by decide +kernel
theorem hd_said : PySem.Challenge.rw_ik0076_01.wellSaid = true := by
  unfold OpenLaw.wellSaid OpenRow.wellSaid OpenRow.partSaid looksOpen
  rw [hd_bare]
  repeat' with_reducible refine look_both ?_ ?_
  all_goals decide +kernel
theorem hd_law (h : PySem.Challenge.rw_ik0076_01.row.wellSaid = true → PySem.Challenge.rw_ik0076_01.row.Holds) : PySem.Challenge.rw_ik0076_01.Holds := holds_law hd_said h
end
section
open PySem PySem.Calls PyProof.Rows PySem.Spec PySem.W PySem.Builtin.Str
/- the walk's rows, written as rows of words; word: lemma and its side goals (name:closer) -/
set_option compiler.extract_closed false
abbrev Sx := Lean.Syntax
def qzN (k : String) (l : List Sx) : Sx := .node .none ("Lean.Parser." ++ k).toName l.toArray
def qz0 (l : List Sx) : Sx := .node .none `null l.toArray
def qzA (s : String) : Sx := .atom .none s
def qzI (s : String) : Sx := .ident .none s.toRawSubstring (if s.any (· == '.') then (if s == "Eq.symm" || s.startsWith "_" then s else if s.startsWith "GM." || s.startsWith "P." then "_root_.PySem." ++ s else if s.startsWith "PyS" || s.startsWith "Nat." || s.startsWith "List." then "_root_." ++ s else "_root_.Mine." ++ s) else s).toName []
def qzS (l : List Sx) : Sx := qzN "Tactic.tacticSeq" [qzN "Tactic.tacticSeq1Indented" [qz0 (l.intersperse (qzA ";"))]]
def qzP (l : List Sx) : Sx := qzN "Tactic.paren" [qzA "(", qzS l, qzA ")"]
def qzW (s : String) : Sx := .node .none `Lean.Parser.Tactic.fail #[qzA "fail", qz0 [.mkStrLit s]]
def qzF (l : List Sx) : Sx := qzN "Tactic.first" [qzA "first", qz0 (l.map fun t => .node .none `group #[qzA "|", qzS [t]])]
def qzU : Sx := qzN "Term.hole" [qzA "_"]
def qzH (s : String) : Sx := if s == "-" then qzU else qzN "Term.syntheticHole" [qzA "?", if s == "_" then qzA s else qzI s]
def qzap (f : String) (l : List Sx) : Sx := qzN "Term.app" [qzI f, qz0 l]
def qzK (k a : String) (l : List Sx) : Sx := qzN ("Tactic." ++ k) (qzA a :: l)
def qzR (t : Sx) : Sx := qzK "withReducible" "with_reducible" [qzS [t]]
def qzC (n : String) (t : Sx) : Sx := qzK "case" "case" [qz0 [qzN "Tactic.caseArg" [.node .none `Lean.binderIdent #[qzI n], qz0 []]], qzA "=>", qzS [t]]
def qzE (s : String) : Sx := qzK "exact" "exact" [qzI s]
def qzcl (w : String) : Sx := match w with
  | "r" => qzE "rfl"
  | "d" => qzK "decide" "decide" [qzN "Tactic.optConfig" [qz0 []]]
  | "u" => qzK "withUnfoldingAll" "with_unfolding_all" [qzS [qzE "rfl"]]
  | "a" => qzK "assumption" "assumption" []
  | "ra" => qzR (qzK "assumption" "assumption" [])
  | "b" => qzR (qzK "exact" "exact" [qzap "Nat.le_of_ble_eq_true" [qzI "rfl"]])
  | "B" => qzK "exact" "exact" [qzap "Nat.le_of_ble_eq_true" [qzI "rfl"]]
  | "i" => qzK "exact" "exact" [qzN "Term.fun" [qzA "fun", qzN "Term.basicFun" [qz0 [qzU], qz0 [], qzA "=>", qzI "rfl"]]]
  | w => qzW w
def qzT (u x : String) : Sx := match x.splitOn " " with
  | m :: l :: hs =>
    let hs := hs.map (·.splitOn ":")
    let ap (e : List Sx) := [qzap l (hs.map (fun h => let h := h.head!; qzH (if h == "_" || h == "-" then h else h ++ u)) ++ e)]
    let q (e : List Sx) := qzR (qzK "refine'" "refine'" (ap e))
    let cs := hs.filterMap fun h => h[1]?.map fun c => qzC (h.head! ++ u) (qzcl c)
    if m == "k" then qzP [qzR (qzK "refine'" "refine'" [qzap l [qzH ("hk" ++ u), qzH "_"]]), qzW ("kc" ++ u)]
    else if m == "s" then let n (t : Sx) := qzK "failIfSuccess" "fail_if_success" [qzS [t]]; qzP [n (n (qzR (qzK "show" "show" [qzap "wpAny" [qzU, qzU, qzap l (hs.map fun _ => qzU), qzU, qzU, qzU]]))), qzW hs.head!.head!]
    else if m == "h" then let n (t : Sx) := qzK "failIfSuccess" "fail_if_success" [qzS [t]]; qzP [n (n (qzR (qzK "refine" "refine" [qzap l [qzH "_"]]))), qzW "kin"]
    else if m == "n" then qzP (qzR (qzK "refine" "refine" (ap [qzH "_"])) :: cs)
    else if m == "q" then qzP (q [qzH "_"] :: cs)
    else if m == "m" then qzP (q [] :: cs)
    else if m == "r" then qzP (q [] :: cs.reverse)
    else if m == "v" then qzP (q [qzH "_"] :: cs ++ [qzW "vin", qzK "intros" "intros" [qz0 []]])
    else if m == "e" then qzP (qzK "refine'" "refine'" (ap []) :: cs)
    else qzP (q [qzH "_"] :: cs ++ [qzK "intros" "intros" [qz0 []]])
  | _ => qzcl x
def qzrow (u t : String) : Option Sx := if t == "" then none else some (qzF ((t.splitOn "|").map (qzT u)))
theorem nlit (n : Nat) : (OfNat.ofNat n : Nat) ≤ OfNat.ofNat n := Nat.le_refl _
def qzub (s : String) : String :=
  if s == "ub0" then "m nlit -|ra|m Nat.add_le_add a:ub0 b:ub0|m Nat.mul_le_mul a:ub0 b:ub0|m Nat.le_trans p:lar h:ra|m Nat.le_trans p:lal h:ra|m Nat.le_trans p:lsb h:ub0|m Nat.le_trans p:mir h:ub0|m Nat.le_trans p:mil h:ub0" else
  if s == "lar" then "m Nat.le_add_right - -" else
  if s == "lal" then "m Nat.le_add_left - -" else
  if s == "lsb" then "m Nat.sub_le - -" else
  if s == "mir" then "m Nat.min_le_right - -" else
  if s == "mil" then "m Nat.min_le_left - -" else
  if s == "ub" then "ub0|m Nat.add_le_add a:ub b:ub|m Nat.le_trans e:eqa h:ub0|m Nat.le_trans e:ra h:ub0" else
  if s == "eqa" then "m Nat.le_of_eq e:ra" else
  if s == "eqs" then "m Nat.le_of_eq e:sya" else
  if s == "sya" then "m Eq.symm h:ra" else
  if s == "om" then "ra|b|m Nat.le_trans h:ub0 k:d|m Nat.le_trans h:ub k:d|m Nat.le_of_lt h:ra|eqa|eqs|m Nat.lt_of_lt_of_le h:ra k:ra|m Nat.lt_of_le_of_lt h:ra k:ra|m Nat.le_trans h:ra k:ra" else
  ""
def qztab (s : String) : String :=
  if s == "kn" then "n RQ.mk|k KN.nx|k KN.rt|k KN.br|k KN.co|k HD.fr|k HD.fn|k HD.ln|k HD.wn|k HD.lr|k HD.wr|k HD.lb|k HD.wb|k HD.lc|k HD.wc|k HC.out|k HD.out" else
  if s == "loc" then "q ev_loc hS:S hi:r hv:r hk:r hl:r hL:r hd:r" else
  if s == "ld" then "q ld_loc hS:S hi:r hv:r hk:r hl:r hL:r" else
  if s == "glb" then "q ev_glob hS:S hm:gl hk:r hx:r hG:r hd:r" else
  if s == "blt" then "q ev_blt hS:S hm:bl hb:bb hn:d hk:r hx:r hG:r hB:r hd:r" else
  if s == "st" then "v st_loV hS:S hi:r hv:sv hk:r hl:r hL:r" else
  if s == "lists" then "q gm_append ho:hp hc:r hd:r|q gm_pop ho:hp hc:r hd:r|q gm_extend ho:hp hc:r hd:r" else
  if s == "app" then "i append0 hS:S hz:sz|i append1 hS:S hz:sz|i append2 hS:S hz:sz|i append3 hS:S hz:sz|i append4 hS:S hz:sz" else
  if s == "gm" then "n GM.rfind|n GM.find|n GM.startswith|n GM.endswith|n GM.isalnum|n GM.lstrip|n GM.rstrip|n GM.split|n GM.join|n GM.replace|n GM.lower" else
  if s == "str" then "i s_rfind hS:S|n s_starts|n s_ends|n s_isalnum|i s_lstripC hS:S hz:sz|i s_rstripC hS:S hz:sz|i s_lstrip hS:S hz:sz|i s_rstrip hS:S hz:sz|app|i s_len hS:S hz:sz|i s_split hS:S hz:sz" else
  if s == "ops" then "i i_add hS:S|i i_sub hS:S|i i_iadd hS:S|i i_neg hS:S|i s_add hS:S hz:sz|i s_iadd hS:S hz:sz|i s_mul hS:S hz:sz|n s_eq|n s_ne|n s_in|n s_notin|n P.eq_int|n P.lt_int|n P.le_int|n P.gt_int|n P.ge_int" else
  if s == "nodes" then "ek|n wpAny_execs_nil|n ex_if|n ex_assign hs:r|n ex_ret|n wpAny_Break|i ex_doc hS:S hi:r hs:r|n ex_aug|n ex_expr hi:r hs:r|n ex_try|n ex_for hs:i|q ex_swap2 hs:r hw:r|q ex_tup hs:r hw:r" else
  if s == "evals" then "loc|glb|blt|q ev_meth he:r|n ev_call he:r|n ev_cmp hm:r|n ev_bin|n ev_una|n ev_ifexp|n ev_sub|n ev_slice|n ev_tup|n ev_lst|lc|n Constant_none|n Constant_bool|i ev_strC hS:S hx:r|i ev_int hS:S" else
  if s == "trues" then "n is_cmp hm:r|n is_bool|n wpAny_isTrue_Not|n is_plain he:r" else
  if s == "rest" then "n sp_cons he:r|n sp_nil|n cw_b he:r hp:r|n cw_m he:r hp:r|n cw_m0|n cw_type he:r hp:r|n cw_fn hG:a hi:r he:r|q toHA hS:S|st|ld|n wpAny_assign_Name|n part_none|n part_some|n tf_false|n tf_true|n to_false|n to_true|n truthy_none|n all_and1|n all_or1|n all_and|n all_or|n wpAny_truthy_bool|i s_tr hS:S hz:sz|i new_tup hS:S hz:sz|gm|lists|i new_lst hS:S hz:sz|i un_tup hS:S hh:rm ht:a hn:r|n as_swap2|i as_tup2 hS:S hh:rm ht:a|i as_tup3 hS:S hh:rm ht:a|n assignInOrder_nil|n assignInOrder_cons" else
  if s == "cut" then "i s_last hS:S hl:sz hs:u|i s_itemz hS:S hl:sz h0:d hc:r hs:u|q t_item ho:hp he:r hlo:d hhi:d hj:r hx:r hs:u|q l_item ho:hp he:r h0:d hf:d hx:r hs:u|i cut_n0 hS:S hz:sz hs:u|i cut_n2 hS:S hj:sz hz:sz hs:u|i cut_1n hS:S hj:sz hz:sz hs:u|i cut_ns hS:S hj:sz hz:sz hs:u|i cut_sn hS:S hj:sz hz:sz hs:u|i cut_ss hS:S hi:sz hj:sz hz:sz hs:u" else
  if s == "hp" then "e zh0 q3:S|e zh1 q3:S|e zh2 q3:S|e zh3 q3:S|e St.gh q3:S - - q4:a|e St.fh q3:S - - q4:a" else
  if s == "S" then "a|e St.tk q5:a -" else
  if s == "gl" then "e Gl.gl q1:a - - q2:r" else
  if s == "bl" then "e Gl.bl q1:a - - q2:r" else
  if s == "bb" then "e _root_.Mine.bb - - q2:r" else
  if s == "rm" then "e Rm.dh q1:a" else
  if s == "lc" then "m wpAny_ListComp hf:d hk:r hn:d _ hs:i" else
  if s == "tt" then "n tfT hb:bv|n tfF hb:bv|n toF hb:bv|n toT hb:bv" else
  if s == "sz" then "B|o|sl" else
  if s == "bv" then "rl|a|b1|b2|b3" else
  if s == "kk" then "h kkH|h kkC" else
  if s == "1" then "s eval evals -|s exec nodes -|s execs nodes -|s PySem.isTrue trues - -|s call str -|s subscriptTail cut - - -|rest|ops|kk|kn" else
  ""
def qzrd (s : String) : Sx := ((s.splitOn " ").foldl (fun (l : List Sx) t => match t.splitOn "/" with
  | [k, n] => let n := n.toNat!; let x := (l.take n).reverse; (if k == "" then qz0 x else if k == "P" then qzP x else if k == "F" then qzF x else if k == "S" then qzS x else qzN ("Tactic." ++ k) x) :: l.drop n
  | _ => (if t.startsWith "'" then qzA (t.drop 1).toString else if t.startsWith "%" then qzW (t.drop 1).toString else qzI t) :: l) []).headD .missing
def qznum (f : String → Sx) : List Sx := ("0 1 2 3 4 5 6 7 8 9".splitOn " ").map f
def qztac (u s : String) : Sx := if s.startsWith "kc" then
    qzF (qznum fun i => qzP [qzC ("hk" ++ (s.drop 2).toString) (qzR (qzE ("hK" ++ i))), qzK "clear" "clear" [qz0 [qzI ("hK" ++ i), qzI ("K" ++ i)]]]).reverse
  else match s with
  | "kin" => qzF (qznum fun i => qzP [qzK "failIfSuccess" "fail_if_success" [qzS [qzK "clear" "clear" [qz0 [qzI ("hK" ++ i)]]]], qzK "intro" "intro" [qz0 [qzI ("K" ++ i), qzI ("hK" ++ i)]]])
  | "vin" => qzF ((List.range 60).map fun i => let n := qzI ("zv" ++ toString i); qzP [qzK "failIfSuccess" "fail_if_success" [qzS [qzK "revert" "revert" [qz0 [n]]]], qzK "intro" "intro" [qz0 [n]]])
  | "ek" => qzP [qzR (qzK "refine" "refine" [qzap "execs_k" [qzH "_"]]), qzW "kin"]
  | "go" => let r (t : Sx) := qzK "tacticRepeat_" "repeat" [qzS [t]]; qzP [r (qzW "1"), r (qzP [qzW "tt", r (qzW "1")])]
  | s => match qzrow u (qztab s) with
    | some t => t
    | none => let x := match s with
      | "o" => "%om 'simp '+ arith posConfigItem/2 configItem/1 /1 optConfig/1 /0 'only /1 /0 /0 simp/6 'done done/1 P/2 'omega /0 optConfig/1 omega/2 F/3"
      | "sv" => "'try 'simp '+ zetaDelta posConfigItem/2 configItem/1 /1 optConfig/1 /0 'only /1 '[ /0 /0 List.set_cons_succ simpLemma/3 ', /0 /0 List.set_cons_zero simpLemma/3 /3 '] /3 /0 simp/6 S/1 tacticTry_/2 'done done/1 'exact rfl exact/2 F/2 P/2"
      | "sl" => "'try 'simp /0 optConfig/1 /0 'only /1 '[ /0 /0 List.length_append simpLemma/3 ', /0 /0 List.length_take simpLemma/3 ', /0 /0 List.length_drop simpLemma/3 ', /0 /0 List.length_cons simpLemma/3 ', /0 /0 List.length_nil simpLemma/3 ', /0 /0 List.length_reverse simpLemma/3 /11 '] /3 'at '* locationWildcard/1 location/2 /1 simp/6 S/1 tacticTry_/2 %o P/2"
      | "rl" => "'rfl tacticRfl/1"
      | "b1" => "'simp /0 optConfig/1 /0 /0 /0 /0 simp/6 'done done/1 P/2"
      | "b2" => "'simp /0 optConfig/1 /0 /0 /0 /0 simp/6 %o P/2"
      | "b3" => "'simp /0 optConfig/1 /0 /0 '[ '* simpStar/1 /1 '] /3 /0 simp/6 'done done/1 P/2"
      | "zS" => "'try 'dsimp '+ zetaDelta posConfigItem/2 configItem/1 /1 optConfig/1 /0 'only /1 /0 'at S /1 locationHyp/1 location/2 /1 dsimp/6 S/1 tacticTry_/2"
      | _ => ""
      if x == "" then (qzrow u (qzub s)).getD .missing else qzrd x
noncomputable def onFn {α : Type} (z : α) (f : PySem.Str → PySem.Arguments → List PySem.Stmt → PySem.Scope → α) : PySem.Stmt → α
  | .FunctionDef n a b _ _ _ sc _ _ _ => f n a b sc
  | _ => z
theorem onFn_out {f : PySem.Str → PySem.Arguments → List PySem.Stmt → PySem.Scope → Prop} {st : PySem.Stmt} (h : onFn False f st) : ∃ n a b sc, f n a b sc := by
  cases st <;> first | exact h.elim | exact ⟨_, _, _, _, h⟩
theorem onFn_imp {f g : PySem.Str → PySem.Arguments → List PySem.Stmt → PySem.Scope → Prop} {st : PySem.Stmt} (h : onFn False f st) (i : ∀ n a b sc, f n a b sc → g n a b sc) : onFn False g st := by
  cases st <;> first | exact h.elim | exact i _ _ _ _ h
noncomputable def inWhile (P : List PySem.Stmt → Prop) : PySem.Stmt → Prop | .While _ b _ _ => P b | _ => False
noncomputable def inIf (P : List PySem.Stmt → List PySem.Stmt → Prop) : PySem.Stmt → Prop | .If _ b e _ => P b e | _ => False
noncomputable def inFor (P : PySem.Expr → PySem.Expr → List PySem.Stmt → PySem.Pos → Prop) : PySem.Stmt → Prop | .For t i b _ p => P t i b p | _ => False
end
set_option compiler.extract_closed false
local macro_rules | `(tactic| walk_at $s:str) => return qzW s.getString
local macro_rules | `(tactic| fail $s:str) => do match qztac (toString (← Lean.MonadQuotation.getCurrMacroScope)) s.getString with
  | .missing => Lean.Macro.throwUnsupported
  | t => return t
section
set_option maxHeartbeats 8000000
open PySem PySem.W PyProof.Rows
noncomputable section
noncomputable def l10 : List Nat := [80, 97, 114, 115, 101, 32, 104, 101, 97, 100, 101, 114, 32, 118, 97, 108, 117, 101, 115, 32, 105, 110, 116, 111, 32, 97, 32, 108, 105, 115, 116, 32, 111, 102, 32, 108, 105, 115, 116, 115, 32, 99, 111, 110, 116, 97, 105, 110, 105, 110, 103, 32, 107, 101, 121, 44, 118, 97, 108, 117, 101, 32, 112, 97, 105, 114, 115, 46, 10, 10, 84, 104, 101, 32, 102, 117, 110, 99, 116, 105, 111, 110, 32, 107, 110, 111, 119, 115, 32, 104, 111, 119, 32, 116, 111, 32, 100, 101, 97, 108, 32, 119, 105, 116, 104, 32, 34, 44, 34, 44, 32, 34, 59, 34, 32, 97, 110, 100, 32, 34, 61, 34, 32, 97, 115, 32, 119, 101, 108, 108, 32, 97, 115, 32, 113, 117, 111, 116, 101, 100, 10, 118, 97, 108, 117, 101, 115, 32, 97, 102, 116, 101, 114, 32, 34, 61, 34, 46, 32, 32, 65, 32, 108, 105, 115, 116, 32, 111, 102, 32, 115, 112, 97, 99, 101, 32, 115, 101, 112, 97, 114, 97, 116, 101, 100, 32, 116, 111, 107, 101, 110, 115, 32, 97, 114, 101, 32, 112, 97, 114, 115, 101, 100, 32, 97, 115, 32, 105, 102, 32, 116, 104, 101, 121, 10, 119, 101, 114, 101, 32, 115, 101, 112, 97, 114, 97, 116, 101, 100, 32, 98, 121, 32, 34, 59, 34, 46, 10, 10, 73, 102, 32, 116, 104, 101, 32, 104, 101, 97, 100, 101, 114, 95, 118, 97, 108, 117, 101, 115, 32, 112, 97, 115, 115, 101, 100, 32, 97, 115, 32, 97, 114, 103, 117, 109, 101, 110, 116, 32, 99, 111, 110, 116, 97, 105, 110, 115, 32, 109, 117, 108, 116, 105, 112, 108, 101, 32, 118, 97, 108, 117, 101, 115, 44, 32, 116, 104, 101, 110, 32, 116, 104, 101, 121, 10, 97, 114, 101, 32, 116, 114, 101, 97, 116, 101, 100, 32, 97, 115, 32, 105, 102, 32, 116, 104, 101, 121, 32, 119, 101, 114, 101, 32, 97, 32, 115, 105, 110, 103, 108, 101, 32, 118, 97, 108, 117, 101, 32, 115, 101, 112, 97, 114, 97, 116, 101, 100, 32, 98, 121, 32, 99, 111, 109, 109, 97, 32, 34, 44, 34, 46, 10, 10, 84, 104, 105, 115, 32, 109, 101, 97, 110, 115, 32, 116, 104, 97, 116, 32, 116, 104, 105, 115, 32, 102, 117, 110, 99, 116, 105, 111, 110, 32, 105, 115, 32, 117, 115, 101, 102, 117, 108, 32, 102, 111, 114, 32, 112, 97, 114, 115, 105, 110, 103, 32, 104, 101, 97, 100, 101, 114, 32, 102, 105, 101, 108, 100, 115, 32, 116, 104, 97, 116, 10, 102, 111, 108, 108, 111, 119, 32, 116, 104, 105, 115, 32, 115, 121, 110, 116, 97, 120, 32, 40, 66, 78, 70, 32, 97, 115, 32, 102, 114, 111, 109, 32, 116, 104, 101, 32, 72, 84, 84, 80, 47, 49, 46, 49, 32, 115, 112, 101, 99, 105, 102, 105, 99, 97, 116, 105, 111, 110, 44, 32, 98, 117, 116, 32, 119, 101, 32, 114, 101, 108, 97, 120, 10, 116, 104, 101, 32, 114, 101, 113, 117, 105, 114, 101, 109, 101, 110, 116, 32, 102, 111, 114, 32, 116, 111, 107, 101, 110, 115, 41, 46, 10, 10, 32, 32, 104, 101, 97, 100, 101, 114, 115, 32, 32, 32, 32, 32, 32, 32, 32, 32, 32, 32, 61, 32, 35, 104, 101, 97, 100, 101, 114, 10, 32, 32, 104, 101, 97, 100, 101, 114, 32, 32, 32, 32, 32, 32, 32, 32, 32, 32, 32, 32, 61, 32, 40, 116, 111, 107, 101, 110, 32, 124, 32, 112, 97, 114, 97, 109, 101, 116, 101, 114, 41, 32, 42, 40, 32, 91, 34, 59, 34, 93, 32, 40, 116, 111, 107, 101, 110, 32, 124, 32, 112, 97, 114, 97, 109, 101, 116, 101, 114, 41, 41, 10, 10, 32, 32, 116, 111, 107, 101, 110, 32, 32, 32, 32, 32, 32, 32, 32, 32, 32, 32, 32, 32, 61, 32, 49, 42, 60, 97, 110, 121, 32, 67, 72, 65, 82, 32, 101, 120, 99, 101, 112, 116, 32, 67, 84, 76, 115, 32, 111, 114, 32, 115, 101, 112, 97, 114, 97, 116, 111, 114, 115, 62, 10, 32, 32, 115, 101, 112, 97, 114, 97, 116, 111, 114, 115, 32, 32, 32, 32, 32, 32, 32, 32, 61, 32, 34, 40, 34, 32, 124, 32, 34, 41, 34, 32, 124, 32, 34, 60, 34, 32, 124, 32, 34, 62, 34, 32, 124, 32, 34, 64, 34, 10, 32, 32, 32, 32, 32, 32, 32, 32, 32, 32, 32, 32, 32, 32, 32, 32, 32, 32, 32, 32, 124, 32, 34, 44, 34, 32, 124, 32, 34, 59, 34, 32, 124, 32, 34, 58, 34, 32, 124, 32, 34, 92, 34, 32, 124, 32, 60, 34, 62, 10, 32, 32, 32, 32, 32, 32, 32, 32, 32, 32, 32, 32, 32, 32, 32, 32, 32, 32, 32, 32, 124, 32, 34, 47, 34, 32, 124, 32, 34, 91, 34, 32, 124, 32, 34, 93, 34, 32, 124, 32, 34, 63, 34, 32, 124, 32, 34, 61, 34, 10, 32, 32, 32, 32, 32, 32, 32, 32, 32, 32, 32, 32, 32, 32, 32, 32, 32, 32, 32, 32, 124, 32, 34, 123, 34, 32, 124, 32, 34, 125, 34, 32, 124, 32, 83, 80, 32, 124, 32, 72, 84, 10, 10, 32, 32, 113, 117, 111, 116, 101, 100, 45, 115, 116, 114, 105, 110, 103, 32, 32, 32, 32, 32, 61, 32, 40, 32, 60, 34, 62, 32, 42, 40, 113, 100, 116, 101, 120, 116, 32, 124, 32, 113, 117, 111, 116, 101, 100, 45, 112, 97, 105, 114, 32, 41, 32, 60, 34, 62, 32, 41, 10, 32, 32, 113, 100, 116, 101, 120, 116, 32, 32, 32, 32, 32, 32, 32, 32, 32, 32, 32, 32, 61, 32, 60, 97, 110, 121, 32, 84, 69, 88, 84, 32, 101, 120, 99, 101, 112, 116, 32, 60, 34, 62, 62, 10, 32, 32, 113, 117, 111, 116, 101, 100, 45, 112, 97, 105, 114, 32, 32, 32, 32, 32, 32, 32, 61, 32, 34, 92, 34, 32, 67, 72, 65, 82, 10, 10, 32, 32, 112, 97, 114, 97, 109, 101, 116, 101, 114, 32, 32, 32, 32, 32, 32, 32, 32, 32, 61, 32, 97, 116, 116, 114, 105, 98, 117, 116, 101, 32, 34, 61, 34, 32, 118, 97, 108, 117, 101, 10, 32, 32, 97, 116, 116, 114, 105, 98, 117, 116, 101, 32, 32, 32, 32, 32, 32, 32, 32, 32, 61, 32, 116, 111, 107, 101, 110, 10, 32, 32, 118, 97, 108, 117, 101, 32, 32, 32, 32, 32, 32, 32, 32, 32, 32, 32, 32, 32, 61, 32, 116, 111, 107, 101, 110, 32, 124, 32, 113, 117, 111, 116, 101, 100, 45, 115, 116, 114, 105, 110, 103, 10, 10, 69, 97, 99, 104, 32, 104, 101, 97, 100, 101, 114, 32, 105, 115, 32, 114, 101, 112, 114, 101, 115, 101, 110, 116, 101, 100, 32, 98, 121, 32, 97, 32, 108, 105, 115, 116, 32, 111, 102, 32, 107, 101, 121, 47, 118, 97, 108, 117, 101, 32, 112, 97, 105, 114, 115, 46, 32, 32, 84, 104, 101, 32, 118, 97, 108, 117, 101, 32, 102, 111, 114, 32, 97, 10, 115, 105, 109, 112, 108, 101, 32, 116, 111, 107, 101, 110, 32, 40, 110, 111, 116, 32, 112, 97, 114, 116, 32, 111, 102, 32, 97, 32, 112, 97, 114, 97, 109, 101, 116, 101, 114, 41, 32, 105, 115, 32, 78, 111, 110, 101, 46, 32, 32, 83, 121, 110, 116, 97, 99, 116, 105, 99, 97, 108, 108, 121, 32, 105, 110, 99, 111, 114, 114, 101, 99, 116, 10, 104, 101, 97, 100, 101, 114, 115, 32, 119, 105, 108, 108, 32, 110, 111, 116, 32, 110, 101, 99, 101, 115, 115, 97, 114, 105, 108, 121, 32, 98, 101, 32, 112, 97, 114, 115, 101, 100, 32, 97, 115, 32, 121, 111, 117, 32, 119, 111, 117, 108, 100, 32, 119, 97, 110, 116, 46, 10, 10, 84, 104, 105, 115, 32, 105, 115, 32, 101, 97, 115, 105, 101, 114, 32, 116, 111, 32, 100, 101, 115, 99, 114, 105, 98, 101, 32, 119, 105, 116, 104, 32, 115, 111, 109, 101, 32, 101, 120, 97, 109, 112, 108, 101, 115, 58, 10, 10, 62, 62, 62, 32, 115, 112, 108, 105, 116, 95, 104, 101, 97, 100, 101, 114, 95, 119, 111, 114, 100, 115, 40, 91, 39, 102, 111, 111, 61, 34, 98, 97, 114, 34, 59, 32, 112, 111, 114, 116, 61, 34, 56, 48, 44, 56, 49, 34, 59, 32, 100, 105, 115, 99, 97, 114, 100, 44, 32, 98, 97, 114, 61, 98, 97, 122, 39, 93, 41, 10, 91, 91, 40, 39, 102, 111, 111, 39, 44, 32, 39, 98, 97, 114, 39, 41, 44, 32, 40, 39, 112, 111, 114, 116, 39, 44, 32, 39, 56, 48, 44, 56, 49, 39, 41, 44, 32, 40, 39, 100, 105, 115, 99, 97, 114, 100, 39, 44, 32, 78, 111, 110, 101, 41, 93, 44, 32, 91, 40, 39, 98, 97, 114, 39, 44, 32, 39, 98, 97, 122, 39, 41, 93, 93, 10, 62, 62, 62, 32, 115, 112, 108, 105, 116, 95, 104, 101, 97, 100, 101, 114, 95, 119, 111, 114, 100, 115, 40, 91, 39, 116, 101, 120, 116, 47, 104, 116, 109, 108, 59, 32, 99, 104, 97, 114, 115, 101, 116, 61, 34, 105, 115, 111, 45, 56, 56, 53, 57, 45, 49, 34, 39, 93, 41, 10, 91, 91, 40, 39, 116, 101, 120, 116, 47, 104, 116, 109, 108, 39, 44, 32, 78, 111, 110, 101, 41, 44, 32, 40, 39, 99, 104, 97, 114, 115, 101, 116, 39, 44, 32, 39, 105, 115, 111, 45, 56, 56, 53, 57, 45, 49, 39, 41, 93, 93, 10, 62, 62, 62, 32, 115, 112, 108, 105, 116, 95, 104, 101, 97, 100, 101, 114, 95, 119, 111, 114, 100, 115, 40, 91, 114, 39, 66, 97, 115, 105, 99, 32, 114, 101, 97, 108, 109, 61, 34, 92, 34, 102, 111, 111, 92, 98, 97, 114, 92, 34, 34, 39, 93, 41, 10, 91, 91, 40, 39, 66, 97, 115, 105, 99, 39, 44, 32, 78, 111, 110, 101, 41, 44, 32, 40, 39, 114, 101, 97, 108, 109, 39, 44, 32, 39, 34, 102, 111, 111, 98, 97, 114, 34, 39, 41, 93, 93, 10, 10]
noncomputable def l13 : List Nat := [68, 111, 32, 116, 104, 101, 32, 105, 110, 118, 101, 114, 115, 101, 32, 40, 97, 108, 109, 111, 115, 116, 41, 32, 111, 102, 32, 116, 104, 101, 32, 99, 111, 110, 118, 101, 114, 115, 105, 111, 110, 32, 100, 111, 110, 101, 32, 98, 121, 32, 115, 112, 108, 105, 116, 95, 104, 101, 97, 100, 101, 114, 95, 119, 111, 114, 100, 115, 46, 10, 10, 84, 97, 107, 101, 115, 32, 97, 32, 108, 105, 115, 116, 32, 111, 102, 32, 108, 105, 115, 116, 115, 32, 111, 102, 32, 40, 107, 101, 121, 44, 32, 118, 97, 108, 117, 101, 41, 32, 112, 97, 105, 114, 115, 32, 97, 110, 100, 32, 112, 114, 111, 100, 117, 99, 101, 115, 32, 97, 32, 115, 105, 110, 103, 108, 101, 32, 104, 101, 97, 100, 101, 114, 10, 118, 97, 108, 117, 101, 46, 32, 32, 65, 116, 116, 114, 105, 98, 117, 116, 101, 32, 118, 97, 108, 117, 101, 115, 32, 97, 114, 101, 32, 113, 117, 111, 116, 101, 100, 32, 105, 102, 32, 110, 101, 101, 100, 101, 100, 46, 10, 10, 62, 62, 62, 32, 106, 111, 105, 110, 95, 104, 101, 97, 100, 101, 114, 95, 119, 111, 114, 100, 115, 40, 91, 91, 40, 34, 116, 101, 120, 116, 47, 112, 108, 97, 105, 110, 34, 44, 32, 78, 111, 110, 101, 41, 44, 32, 40, 34, 99, 104, 97, 114, 115, 101, 116, 34, 44, 32, 34, 105, 115, 111, 45, 56, 56, 53, 57, 47, 49, 34, 41, 93, 93, 41, 10, 39, 116, 101, 120, 116, 47, 112, 108, 97, 105, 110, 59, 32, 99, 104, 97, 114, 115, 101, 116, 61, 34, 105, 115, 111, 45, 56, 56, 53, 57, 47, 49, 34, 39, 10, 62, 62, 62, 32, 106, 111, 105, 110, 95, 104, 101, 97, 100, 101, 114, 95, 119, 111, 114, 100, 115, 40, 91, 91, 40, 34, 116, 101, 120, 116, 47, 112, 108, 97, 105, 110, 34, 44, 32, 78, 111, 110, 101, 41, 93, 44, 32, 91, 40, 34, 99, 104, 97, 114, 115, 101, 116, 34, 44, 32, 34, 105, 115, 111, 45, 56, 56, 53, 57, 47, 49, 34, 41, 93, 93, 41, 10, 39, 116, 101, 120, 116, 47, 112, 108, 97, 105, 110, 44, 32, 99, 104, 97, 114, 115, 101, 116, 61, 34, 105, 115, 111, 45, 56, 56, 53, 57, 47, 49, 34, 39, 10, 10]
noncomputable def d10 : Str := ⟨l10.toArray⟩
noncomputable def d13 : Str := ⟨l13.toArray⟩
noncomputable def bodyOf : Stmt → List Stmt := onFn [] fun _ _ b _ => b
noncomputable def setBody (b : List Stmt) (st : Stmt) : Stmt := match st with | .FunctionDef n a _ x y z sc u v w => .FunctionDef n a b x y z sc u v w | st => st
theorem setBody_same (st : Stmt) : setBody (bodyOf st) st = st := by cases st <;> rfl
noncomputable def docE (d : Str) (l : Nat) (e : Nat) : Stmt := .Expr (.Constant (.str d) 0 ⟨l, 4, e, 7⟩) ⟨l, 4, e, 7⟩
noncomputable def oS (i : Nat) : Stmt := PySem.Challenge.pw_ik0076_01.main.body.getD i (.Pass default)
noncomputable def nS (i : Nat) (d : Str) (l e : Nat) : Stmt := setBody (docE d l e :: (bodyOf (oS i)).tail) (oS i)
theorem nS_eq {i l e : Nat} {d d' : Str} (h : bodyOf (oS i) = docE d' l e :: (bodyOf (oS i)).tail) (q : d' = d) : nS i d l e = oS i := by
  unfold nS
  rw [← q, ← h, setBody_same]
noncomputable def tP : Program := { PySem.Challenge.pw_ik0076_01 with main := { PySem.Challenge.pw_ik0076_01.main with body := ((PySem.Challenge.pw_ik0076_01.main.body.set 10 (nS 10 d10 24 67)).set 13 (nS 13 d13 107 117)) } }
noncomputable abbrev tT := PySem.W.Fast.tw14364793385576792824
noncomputable abbrev tImp := PySem.W.Fast.tw14789777615569096658
noncomputable def ts (i : Nat) : Stmt := tP.main.body.getD i (.Pass default)
noncomputable def tc (i j : Nat) : Stmt := match ts i with | .ClassDef _ _ _ b _ _ _ _ _ _ _ => b.getD j (.Pass default) | _ => .Pass default
noncomputable def FN (st : Stmt) (qual : Str) (gl _ncl : Nat) (d k doc pm : Value) (an : Option Addr) (cd ct : Value) (bl : Nat) : Data :=
  onFn .plain (fun n a b sc => .func { name := n, qualname := qual, params := a, body := .stmts b, scope := sc, globals := gl, closure := [], defaults := d, kwdefaults := k, doc := doc, pyModule := pm, annotations := an, code := cd, closureTuple := ct, builtins := bl }) st
noncomputable def EN (P : Params) (s : Str) (t : Tok) (v : Value) : DictEntry := ⟨match s.cps.isEmpty with | true => 0 | false => reduceHash (P.strHash s.cps), .str s t, v⟩
noncomputable def qs (ns : List Nat) (h : PySem.W.S.low ns = true) : String := PySem.W.S.litE (ns.map UInt8.ofNat) ns h rfl
end
noncomputable section
noncomputable def q0 : String := qs [100, 105, 99, 116] rfl
noncomputable def q1 : String := qs [95, 95, 109, 97, 105, 110, 95, 95, 46, 95, 95, 108, 111, 97, 100, 101, 114, 95, 95, 35, 111, 112, 97, 113, 117, 101] rfl
noncomputable def q2 : String := qs [109, 111, 100, 117, 108, 101] rfl
noncomputable def q3 : String := qs [116, 117, 112, 108, 101] rfl
noncomputable def q4 : String := qs [99, 111, 100, 101] rfl
noncomputable def q5 : String := qs [102, 114, 97, 109, 101] rfl
noncomputable def q6 : String := qs [95, 115, 114, 101, 46, 99, 111, 109, 112, 105, 108, 101] rfl
noncomputable def q7 : String := qs [95, 115, 114, 101, 46, 116, 101, 109, 112, 108, 97, 116, 101] rfl
noncomputable def q8 : String := qs [95, 115, 114, 101, 46, 103, 101, 116, 99, 111, 100, 101, 115, 105, 122, 101] rfl
noncomputable def q9 : String := qs [95, 115, 114, 101, 46, 97, 115, 99, 105, 105, 95, 105, 115, 99, 97, 115, 101, 100] rfl
noncomputable def q10 : String := qs [95, 115, 114, 101, 46, 117, 110, 105, 99, 111, 100, 101, 95, 105, 115, 99, 97, 115, 101, 100] rfl
noncomputable def q11 : String := qs [95, 115, 114, 101, 46, 97, 115, 99, 105, 105, 95, 116, 111, 108, 111, 119, 101, 114] rfl
noncomputable def q12 : String := qs [95, 115, 114, 101, 46, 117, 110, 105, 99, 111, 100, 101, 95, 116, 111, 108, 111, 119, 101, 114] rfl
noncomputable def q13 : String := qs [95, 102, 114, 111, 122, 101, 110, 95, 105, 109, 112, 111, 114, 116, 108, 105, 98, 46, 66, 117, 105, 108, 116, 105, 110, 73, 109, 112, 111, 114, 116, 101, 114, 46, 95, 95, 100, 111, 99, 95, 95, 58, 115, 116, 114, 35, 111, 112, 97, 113, 117, 101] rfl
noncomputable def q14 : String := qs [95, 102, 114, 111, 122, 101, 110, 95, 105, 109, 112, 111, 114, 116, 108, 105, 98, 46, 66, 117, 105, 108, 116, 105, 110, 73, 109, 112, 111, 114, 116, 101, 114, 46, 102, 105, 110, 100, 95, 115, 112, 101, 99, 35, 111, 112, 97, 113, 117, 101] rfl
noncomputable def q15 : String := qs [95, 102, 114, 111, 122, 101, 110, 95, 105, 109, 112, 111, 114, 116, 108, 105, 98, 46, 66, 117, 105, 108, 116, 105, 110, 73, 109, 112, 111, 114, 116, 101, 114, 46, 99, 114, 101, 97, 116, 101, 95, 109, 111, 100, 117, 108, 101, 35, 111, 112, 97, 113, 117, 101] rfl
noncomputable def q16 : String := qs [95, 102, 114, 111, 122, 101, 110, 95, 105, 109, 112, 111, 114, 116, 108, 105, 98, 46, 66, 117, 105, 108, 116, 105, 110, 73, 109, 112, 111, 114, 116, 101, 114, 46, 101, 120, 101, 99, 95, 109, 111, 100, 117, 108, 101, 35, 111, 112, 97, 113, 117, 101] rfl
noncomputable def q17 : String := qs [95, 102, 114, 111, 122, 101, 110, 95, 105, 109, 112, 111, 114, 116, 108, 105, 98, 46, 66, 117, 105, 108, 116, 105, 110, 73, 109, 112, 111, 114, 116, 101, 114, 46, 103, 101, 116, 95, 99, 111, 100, 101, 35, 111, 112, 97, 113, 117, 101] rfl
noncomputable def q18 : String := qs [95, 102, 114, 111, 122, 101, 110, 95, 105, 109, 112, 111, 114, 116, 108, 105, 98, 46, 66, 117, 105, 108, 116, 105, 110, 73, 109, 112, 111, 114, 116, 101, 114, 46, 103, 101, 116, 95, 115, 111, 117, 114, 99, 101, 35, 111, 112, 97, 113, 117, 101] rfl
noncomputable def q19 : String := qs [95, 102, 114, 111, 122, 101, 110, 95, 105, 109, 112, 111, 114, 116, 108, 105, 98, 46, 66, 117, 105, 108, 116, 105, 110, 73, 109, 112, 111, 114, 116, 101, 114, 46, 105, 115, 95, 112, 97, 99, 107, 97, 103, 101, 35, 111, 112, 97, 113, 117, 101] rfl
noncomputable def q20 : String := qs [95, 102, 114, 111, 122, 101, 110, 95, 105, 109, 112, 111, 114, 116, 108, 105, 98, 46, 66, 117, 105, 108, 116, 105, 110, 73, 109, 112, 111, 114, 116, 101, 114, 46, 108, 111, 97, 100, 95, 109, 111, 100, 117, 108, 101, 35, 111, 112, 97, 113, 117, 101] rfl
noncomputable def q21 : String := qs [116, 121, 112, 101] rfl
noncomputable def q22 : String := qs [111, 98, 106, 101, 99, 116] rfl
noncomputable def q23 : String := qs [103, 101, 116, 115, 101, 116, 95, 100, 101, 115, 99, 114, 105, 112, 116, 111, 114] rfl
noncomputable def q24 : String := qs [102, 117, 110, 99, 116, 105, 111, 110, 46, 95, 95, 100, 105, 99, 116, 95, 95] rfl
noncomputable def q25 : String := qs [102, 117, 110, 99, 116, 105, 111, 110, 46, 95, 95, 100, 105, 99, 116, 95, 95, 35, 115, 101, 116] rfl
noncomputable def q26 : String := qs [69, 120, 99, 101, 112, 116, 105, 111, 110, 71, 114, 111, 117, 112, 46, 95, 95, 119, 101, 97, 107, 114, 101, 102, 95, 95] rfl
noncomputable def q27 : String := qs [108, 105, 115, 116] rfl
noncomputable def q28 : String := qs [95, 102, 114, 111, 122, 101, 110, 95, 105, 109, 112, 111, 114, 116, 108, 105, 98, 46, 77, 111, 100, 117, 108, 101, 83, 112, 101, 99, 46, 95, 95, 100, 111, 99, 95, 95, 58, 115, 116, 114, 35, 111, 112, 97, 113, 117, 101] rfl
noncomputable def q29 : String := qs [95, 102, 114, 111, 122, 101, 110, 95, 105, 109, 112, 111, 114, 116, 108, 105, 98, 46, 77, 111, 100, 117, 108, 101, 83, 112, 101, 99, 46, 95, 95, 105, 110, 105, 116, 95, 95, 35, 111, 112, 97, 113, 117, 101] rfl
noncomputable def q30 : String := qs [95, 102, 114, 111, 122, 101, 110, 95, 105, 109, 112, 111, 114, 116, 108, 105, 98, 46, 77, 111, 100, 117, 108, 101, 83, 112, 101, 99, 46, 95, 95, 114, 101, 112, 114, 95, 95, 35, 111, 112, 97, 113, 117, 101] rfl
noncomputable def q31 : String := qs [95, 102, 114, 111, 122, 101, 110, 95, 105, 109, 112, 111, 114, 116, 108, 105, 98, 46, 77, 111, 100, 117, 108, 101, 83, 112, 101, 99, 46, 95, 95, 101, 113, 95, 95, 35, 111, 112, 97, 113, 117, 101] rfl
noncomputable def q32 : String := qs [95, 102, 114, 111, 122, 101, 110, 95, 105, 109, 112, 111, 114, 116, 108, 105, 98, 46, 77, 111, 100, 117, 108, 101, 83, 112, 101, 99, 46, 99, 97, 99, 104, 101, 100, 35, 111, 112, 97, 113, 117, 101] rfl
noncomputable def q33 : String := qs [95, 102, 114, 111, 122, 101, 110, 95, 105, 109, 112, 111, 114, 116, 108, 105, 98, 46, 77, 111, 100, 117, 108, 101, 83, 112, 101, 99, 46, 112, 97, 114, 101, 110, 116, 35, 111, 112, 97, 113, 117, 101] rfl
noncomputable def q34 : String := qs [95, 102, 114, 111, 122, 101, 110, 95, 105, 109, 112, 111, 114, 116, 108, 105, 98, 46, 77, 111, 100, 117, 108, 101, 83, 112, 101, 99, 46, 104, 97, 115, 95, 108, 111, 99, 97, 116, 105, 111, 110, 35, 111, 112, 97, 113, 117, 101] rfl
noncomputable def q35 : String := qs [111, 102, 102, 45, 116, 104, 101, 45, 116, 97, 98, 108, 101, 58, 95, 115, 114, 101, 46, 95, 95, 108, 111, 97, 100, 101, 114, 95, 95, 58, 115, 104, 97, 114, 101, 100, 35, 111, 112, 97, 113, 117, 101] rfl
noncomputable def q36 : String := qs [111, 102, 102, 45, 116, 104, 101, 45, 116, 97, 98, 108, 101, 58, 95, 115, 114, 101, 46, 95, 95, 115, 112, 101, 99, 95, 95, 58, 115, 104, 97, 114, 101, 100, 35, 111, 112, 97, 113, 117, 101] rfl
noncomputable def q37 : String := qs [111, 102, 102, 45, 116, 104, 101, 45, 116, 97, 98, 108, 101, 58, 95, 115, 114, 101, 46, 116, 101, 109, 112, 108, 97, 116, 101, 58, 115, 104, 97, 114, 101, 100, 35, 111, 112, 97, 113, 117, 101] rfl
noncomputable def q38 : String := qs [111, 102, 102, 45, 116, 104, 101, 45, 116, 97, 98, 108, 101, 58, 95, 115, 114, 101, 46, 103, 101, 116, 99, 111, 100, 101, 115, 105, 122, 101, 58, 115, 104, 97, 114, 101, 100, 35, 111, 112, 97, 113, 117, 101] rfl
noncomputable def q39 : String := qs [111, 102, 102, 45, 116, 104, 101, 45, 116, 97, 98, 108, 101, 58, 95, 115, 114, 101, 46, 97, 115, 99, 105, 105, 95, 105, 115, 99, 97, 115, 101, 100, 58, 115, 104, 97, 114, 101, 100, 35, 111, 112, 97, 113, 117, 101] rfl
noncomputable def q40 : String := qs [111, 102, 102, 45, 116, 104, 101, 45, 116, 97, 98, 108, 101, 58, 95, 115, 114, 101, 46, 117, 110, 105, 99, 111, 100, 101, 95, 105, 115, 99, 97, 115, 101, 100, 58, 115, 104, 97, 114, 101, 100, 35, 111, 112, 97, 113, 117, 101] rfl
noncomputable def q41 : String := qs [111, 102, 102, 45, 116, 104, 101, 45, 116, 97, 98, 108, 101, 58, 95, 115, 114, 101, 46, 97, 115, 99, 105, 105, 95, 116, 111, 108, 111, 119, 101, 114, 58, 115, 104, 97, 114, 101, 100, 35, 111, 112, 97, 113, 117, 101] rfl
noncomputable def q42 : String := qs [111, 102, 102, 45, 116, 104, 101, 45, 116, 97, 98, 108, 101, 58, 95, 115, 114, 101, 46, 117, 110, 105, 99, 111, 100, 101, 95, 116, 111, 108, 111, 119, 101, 114, 58, 115, 104, 97, 114, 101, 100, 35, 111, 112, 97, 113, 117, 101] rfl
noncomputable def q43 : String := qs [102, 117, 110, 99, 116, 105, 111, 110] rfl
noncomputable def q44 : String := qs [114, 101, 46, 80, 97, 116, 116, 101, 114, 110] rfl
noncomputable def q45 : String := qs [98, 121, 116, 101, 115, 95, 105, 116, 101, 114, 97, 116, 111, 114] rfl
noncomputable def q46 : String := qs [83, 116, 111, 112, 73, 116, 101, 114, 97, 116, 105, 111, 110] rfl
noncomputable def q47 : String := qs [98, 117, 105, 108, 116, 105, 110, 95, 102, 117, 110, 99, 116, 105, 111, 110, 95, 111, 114, 95, 109, 101, 116, 104, 111, 100] rfl
noncomputable def q48 : String := qs [116, 121, 112, 101, 46, 95, 95, 112, 114, 101, 112, 97, 114, 101, 95, 95] rfl
noncomputable def q49 : String := qs [116, 121, 112, 101, 46, 95, 95, 110, 101, 119, 95, 95] rfl
noncomputable def q50 : String := qs [115, 117, 112, 101, 114] rfl
noncomputable def q51 : String := qs [111, 98, 106, 101, 99, 116, 46, 95, 95, 105, 110, 105, 116, 95, 115, 117, 98, 99, 108, 97, 115, 115, 95, 95] rfl
noncomputable def o0 (P : Params) : Obj := boot_o_0 P
noncomputable def o1 (P : Params) : Obj := ⟨(.type q0), none, (.dict #[EN P ⟨#[98, 117, 105, 108, 116, 105, 110, 115]⟩ 162 (.ref 4), EN P ⟨#[95, 95, 109, 97, 105, 110, 95, 95]⟩ 163 (.ref 5), EN P ⟨#[95, 115, 114, 101]⟩ 244 (.ref 12)] 3), #[]⟩
noncomputable def o2 (P : Params) : Obj := ⟨.none, none, (.dict #[EN P ⟨#[105, 109, 112, 111, 114, 116, 46, 108, 111, 97, 100, 101, 100, 46, 95, 115, 114, 101]⟩ 183 (.bool true), EN P ⟨#[99, 108, 97, 115, 115, 46, 95, 102, 114, 111, 122, 101, 110, 95, 105, 109, 112, 111, 114, 116, 108, 105, 98, 46, 66, 117, 105, 108, 116, 105, 110, 73, 109, 112, 111, 114, 116, 101, 114]⟩ 185 (.ref 14), EN P ⟨#[119, 97, 116, 99, 104, 101, 100, 46, 105, 109, 112, 111, 114, 116]⟩ 206 (.ref 18), EN P ⟨#[99, 108, 97, 115, 115, 46, 95, 102, 114, 111, 122, 101, 110, 95, 105, 109, 112, 111, 114, 116, 108, 105, 98, 46, 77, 111, 100, 117, 108, 101, 83, 112, 101, 99]⟩ 216 (.ref 22), EN P ⟨#[115, 121, 115, 46, 109, 111, 100, 117, 108, 101, 115, 46, 98, 111, 111, 107, 101, 100, 45, 101, 112, 111, 99, 104]⟩ 245 (.int 3 0), EN P ⟨#[105, 109, 112, 111, 114, 116, 46, 108, 97, 116, 101, 114, 45, 108, 97, 105, 100, 46, 95, 115, 114, 101]⟩ 270 (.bool true), EN P ⟨#[119, 97, 116, 99, 104, 101, 100, 46, 108, 105, 98, 114, 97, 114, 121]⟩ 272 (.ref 27), EN P ⟨#[119, 97, 116, 99, 104, 101, 100, 46, 108, 105, 98, 114, 97, 114, 121, 45, 111, 98, 106, 101, 99, 116, 115]⟩ 0 (.str ⟨#[12]⟩ 0), EN P ⟨#[119, 97, 116, 99, 104, 101, 100, 46, 108, 105, 98, 114, 97, 114, 121, 45, 100, 101, 101, 112, 46, 95, 115, 114, 101]⟩ 273 (.str ⟨#[4, 0, 0, 11, 4, 0, 0, 11, 4, 0, 0, 3, 4, 0, 0, 11, 8, 4, 100, 105, 99, 116, 2]⟩ 0)] 9), #[]⟩
noncomputable def o3 (P : Params) : Obj := ⟨(.type q0), none, (.dict #[EN P ⟨#[95, 95, 110, 97, 109, 101, 95, 95]⟩ 165 (.str ⟨#[95, 95, 109, 97, 105, 110, 95, 95]⟩ 164), EN P ⟨#[95, 95, 100, 111, 99, 95, 95]⟩ 166 .none, EN P ⟨#[95, 95, 112, 97, 99, 107, 97, 103, 101, 95, 95]⟩ 167 .none, EN P ⟨#[95, 95, 108, 111, 97, 100, 101, 114, 95, 95]⟩ 168 (.builtin q1), EN P ⟨#[95, 95, 115, 112, 101, 99, 95, 95]⟩ 169 .none, EN P ⟨#[95, 95, 97, 110, 110, 111, 116, 97, 116, 105, 111, 110, 115, 95, 95]⟩ 170 (.ref 6), EN P ⟨#[95, 95, 98, 117, 105, 108, 116, 105, 110, 115, 95, 95]⟩ 171 (.ref 4), EN P ⟨#[95, 95, 102, 105, 108, 101, 95, 95]⟩ 173 (.str ⟨#[47, 99, 108, 97, 105, 109, 47, 99, 117, 116, 46, 112, 121]⟩ 172), EN P ⟨#[95, 95, 99, 97, 99, 104, 101, 100, 95, 95]⟩ 174 .none, EN P ⟨#[95, 115, 114, 101]⟩ 275 (.ref 12)] 10), #[]⟩
noncomputable def o4 (P : Params) : Obj := ⟨(.type q2), (some 0), .plain, #[]⟩
noncomputable def o5 (P : Params) : Obj := ⟨(.type q2), (some 3), .plain, #[]⟩
noncomputable def o6 (P : Params) : Obj := ⟨(.type q0), none, (.dict #[] 0), #[]⟩
noncomputable def o7 (P : Params) : Obj := ⟨(.type q3), none, (.seq #[] 0), #[]⟩
noncomputable def o8 (P : Params) : Obj := ⟨.none, none, (.fields #[]), #[]⟩
noncomputable def o9 (P : Params) : Obj := ⟨(.type q4), none, (.fields #[(.str ⟨#[60, 109, 111, 100, 117, 108, 101, 62]⟩ 176), (.str ⟨#[60, 109, 111, 100, 117, 108, 101, 62]⟩ 177), (.str ⟨#[47, 99, 108, 97, 105, 109, 47, 99, 117, 116, 46, 112, 121]⟩ 178), (.int 1 0), (.int 0 0), (.int 0 0), (.int 0 0), (.int 0 0), (.ref 7), (.bool false), (.int 175 0), (.ref 8), .none, .none, .none, .none, (.int 179 0), (.int 1 0), (.str ⟨#[47, 99, 108, 97, 105, 109, 47, 99, 117, 116, 46, 112, 121]⟩ 180)]), #[]⟩
noncomputable def o10 (P : Params) : Obj := ⟨(.type q5), none, .plain, #[some (.ref 9), some (.ref 3), some (.ref 3), none, some (.str ⟨#[95, 95, 109, 97, 105, 110, 95, 95]⟩ 164), none, some (.ref 0)]⟩
noncomputable def o11 (P : Params) : Obj := ⟨(.type q0), none, (.dict #[EN P ⟨#[95, 95, 110, 97, 109, 101, 95, 95]⟩ 247 (.str ⟨#[95, 115, 114, 101]⟩ 246), EN P ⟨#[95, 95, 100, 111, 99, 95, 95]⟩ 248 .none, EN P ⟨#[95, 95, 112, 97, 99, 107, 97, 103, 101, 95, 95]⟩ 250 (.str ⟨#[]⟩ 249), EN P ⟨#[95, 95, 108, 111, 97, 100, 101, 114, 95, 95]⟩ 251 (.ref 14), EN P ⟨#[95, 95, 115, 112, 101, 99, 95, 95]⟩ 252 (.ref 26), EN P ⟨#[99, 111, 109, 112, 105, 108, 101]⟩ 253 (.builtin q6), EN P ⟨#[116, 101, 109, 112, 108, 97, 116, 101]⟩ 254 (.builtin q7), EN P ⟨#[103, 101, 116, 99, 111, 100, 101, 115, 105, 122, 101]⟩ 255 (.builtin q8), EN P ⟨#[97, 115, 99, 105, 105, 95, 105, 115, 99, 97, 115, 101, 100]⟩ 256 (.builtin q9), EN P ⟨#[117, 110, 105, 99, 111, 100, 101, 95, 105, 115, 99, 97, 115, 101, 100]⟩ 257 (.builtin q10), EN P ⟨#[97, 115, 99, 105, 105, 95, 116, 111, 108, 111, 119, 101, 114]⟩ 258 (.builtin q11), EN P ⟨#[117, 110, 105, 99, 111, 100, 101, 95, 116, 111, 108, 111, 119, 101, 114]⟩ 259 (.builtin q12), EN P ⟨#[77, 65, 71, 73, 67]⟩ 261 (.int 20230612 260), EN P ⟨#[67, 79, 68, 69, 83, 73, 90, 69]⟩ 263 (.int 4 262), EN P ⟨#[77, 65, 88, 82, 69, 80, 69, 65, 84]⟩ 265 (.int 4294967295 264), EN P ⟨#[77, 65, 88, 71, 82, 79, 85, 80, 83]⟩ 267 (.int 1073741823 266), EN P ⟨#[99, 111, 112, 121, 114, 105, 103, 104, 116]⟩ 269 (.str ⟨#[32, 83, 82, 69, 32, 50, 46, 50, 46, 50, 32, 67, 111, 112, 121, 114, 105, 103, 104, 116, 32, 40, 99, 41, 32, 49, 57, 57, 55, 45, 50, 48, 48, 50, 32, 98, 121, 32, 83, 101, 99, 114, 101, 116, 32, 76, 97, 98, 115, 32, 65, 66, 32]⟩ 268)] 17), #[]⟩
noncomputable def o12 (P : Params) : Obj := ⟨(.type q2), (some 11), .plain, #[]⟩
noncomputable def o13 (P : Params) : Obj := ⟨(.type q0), none, (.dict #[EN P ⟨#[95, 95, 109, 111, 100, 117, 108, 101, 95, 95]⟩ 189 (.str ⟨#[95, 102, 114, 111, 122, 101, 110, 95, 105, 109, 112, 111, 114, 116, 108, 105, 98]⟩ 186), EN P ⟨#[95, 95, 102, 105, 114, 115, 116, 108, 105, 110, 101, 110, 111, 95, 95]⟩ 190 (.int 971 187), EN P ⟨#[95, 95, 100, 111, 99, 95, 95]⟩ 191 (.builtin q13), EN P ⟨#[95, 79, 82, 73, 71, 73, 78]⟩ 192 (.str ⟨#[98, 117, 105, 108, 116, 45, 105, 110]⟩ 188), EN P ⟨#[102, 105, 110, 100, 95, 115, 112, 101, 99]⟩ 193 (.builtin q14), EN P ⟨#[99, 114, 101, 97, 116, 101, 95, 109, 111, 100, 117, 108, 101]⟩ 194 (.builtin q15), EN P ⟨#[101, 120, 101, 99, 95, 109, 111, 100, 117, 108, 101]⟩ 195 (.builtin q16), EN P ⟨#[103, 101, 116, 95, 99, 111, 100, 101]⟩ 196 (.builtin q17), EN P ⟨#[103, 101, 116, 95, 115, 111, 117, 114, 99, 101]⟩ 197 (.builtin q18), EN P ⟨#[105, 115, 95, 112, 97, 99, 107, 97, 103, 101]⟩ 198 (.builtin q19), EN P ⟨#[108, 111, 97, 100, 95, 109, 111, 100, 117, 108, 101]⟩ 199 (.builtin q20), EN P ⟨#[95, 95, 115, 116, 97, 116, 105, 99, 95, 97, 116, 116, 114, 105, 98, 117, 116, 101, 115, 95, 95]⟩ 200 (.ref 15), EN P ⟨#[95, 95, 100, 105, 99, 116, 95, 95]⟩ 202 (.ref 16), EN P ⟨#[95, 95, 119, 101, 97, 107, 114, 101, 102, 95, 95]⟩ 204 (.ref 17)] 14), #[]⟩
noncomputable def o14 (P : Params) : Obj := ⟨(.type q21), none, (.cls ⟨⟨#[66, 117, 105, 108, 116, 105, 110, 73, 109, 112, 111, 114, 116, 101, 114]⟩, [(.type q22)], [(.ref 14), (.type q22)], 13, ⟨#[66, 117, 105, 108, 116, 105, 110, 73, 109, 112, 111, 114, 116, 101, 114]⟩, true, [], [], false, none, false⟩), #[]⟩
noncomputable def o15 (P : Params) : Obj := ⟨(.type q3), none, (.seq #[] 0), #[]⟩
noncomputable def o16 (P : Params) : Obj := ⟨(.type q23), none, (.fields #[(.str ⟨#[95, 95, 100, 105, 99, 116, 95, 95]⟩ 201), (.ref 14), (.builtin q24), (.builtin q25)]), #[]⟩
noncomputable def o17 (P : Params) : Obj := ⟨(.type q23), none, (.fields #[(.str ⟨#[95, 95, 119, 101, 97, 107, 114, 101, 102, 95, 95]⟩ 203), (.ref 14), (.builtin q26), .none]), #[]⟩
noncomputable def o18 (P : Params) : Obj := ⟨.none, none, (.seq #[(.int 13 0), (.str ⟨#[6, 189, 10, 95, 95, 109, 111, 100, 117, 108, 101, 95, 95, 6, 186, 17, 95, 102, 114, 111, 122, 101, 110, 95, 105, 109, 112, 111, 114, 116, 108, 105, 98, 6, 190, 15, 95, 95, 102, 105, 114, 115, 116, 108, 105, 110, 101, 110, 111, 95, 95, 4, 187, 0, 971, 6, 191, 7, 95, 95, 100, 111, 99, 95, 95, 9, 52, 95, 102, 114, 111, 122, 101, 110, 95, 105, 109, 112, 111, 114, 116, 108, 105, 98, 46, 66, 117, 105, 108, 116, 105, 110, 73, 109, 112, 111, 114, 116, 101, 114, 46, 95, 95, 100, 111, 99, 95, 95, 58, 115, 116, 114, 35, 111, 112, 97, 113, 117, 101, 6, 192, 7, 95, 79, 82, 73, 71, 73, 78, 6, 188, 8, 98, 117, 105, 108, 116, 45, 105, 110, 6, 193, 9, 102, 105, 110, 100, 95, 115, 112, 101, 99, 9, 50, 95, 102, 114, 111, 122, 101, 110, 95, 105, 109, 112, 111, 114, 116, 108, 105, 98, 46, 66, 117, 105, 108, 116, 105, 110, 73, 109, 112, 111, 114, 116, 101, 114, 46, 102, 105, 110, 100, 95, 115, 112, 101, 99, 35, 111, 112, 97, 113, 117, 101, 6, 194, 13, 99, 114, 101, 97, 116, 101, 95, 109, 111, 100, 117, 108, 101, 9, 54, 95, 102, 114, 111, 122, 101, 110, 95, 105, 109, 112, 111, 114, 116, 108, 105, 98, 46, 66, 117, 105, 108, 116, 105, 110, 73, 109, 112, 111, 114, 116, 101, 114, 46, 99, 114, 101, 97, 116, 101, 95, 109, 111, 100, 117, 108, 101, 35, 111, 112, 97, 113, 117, 101, 6, 195, 11, 101, 120, 101, 99, 95, 109, 111, 100, 117, 108, 101, 9, 52, 95, 102, 114, 111, 122, 101, 110, 95, 105, 109, 112, 111, 114, 116, 108, 105, 98, 46, 66, 117, 105, 108, 116, 105, 110, 73, 109, 112, 111, 114, 116, 101, 114, 46, 101, 120, 101, 99, 95, 109, 111, 100, 117, 108, 101, 35, 111, 112, 97, 113, 117, 101, 6, 196, 8, 103, 101, 116, 95, 99, 111, 100, 101, 9, 49, 95, 102, 114, 111, 122, 101, 110, 95, 105, 109, 112, 111, 114, 116, 108, 105, 98, 46, 66, 117, 105, 108, 116, 105, 110, 73, 109, 112, 111, 114, 116, 101, 114, 46, 103, 101, 116, 95, 99, 111, 100, 101, 35, 111, 112, 97, 113, 117, 101, 6, 197, 10, 103, 101, 116, 95, 115, 111, 117, 114, 99, 101, 9, 51, 95, 102, 114, 111, 122, 101, 110, 95, 105, 109, 112, 111, 114, 116, 108, 105, 98, 46, 66, 117, 105, 108, 116, 105, 110, 73, 109, 112, 111, 114, 116, 101, 114, 46, 103, 101, 116, 95, 115, 111, 117, 114, 99, 101, 35, 111, 112, 97, 113, 117, 101, 6, 198, 10, 105, 115, 95, 112, 97, 99, 107, 97, 103, 101, 9, 51, 95, 102, 114, 111, 122, 101, 110, 95, 105, 109, 112, 111, 114, 116, 108, 105, 98, 46, 66, 117, 105, 108, 116, 105, 110, 73, 109, 112, 111, 114, 116, 101, 114, 46, 105, 115, 95, 112, 97, 99, 107, 97, 103, 101, 35, 111, 112, 97, 113, 117, 101, 6, 199, 11, 108, 111, 97, 100, 95, 109, 111, 100, 117, 108, 101, 9, 52, 95, 102, 114, 111, 122, 101, 110, 95, 105, 109, 112, 111, 114, 116, 108, 105, 98, 46, 66, 117, 105, 108, 116, 105, 110, 73, 109, 112, 111, 114, 116, 101, 114, 46, 108, 111, 97, 100, 95, 109, 111, 100, 117, 108, 101, 35, 111, 112, 97, 113, 117, 101, 6, 200, 21, 95, 95, 115, 116, 97, 116, 105, 99, 95, 97, 116, 116, 114, 105, 98, 117, 116, 101, 115, 95, 95, 4, 0, 0, 15, 6, 202, 8, 95, 95, 100, 105, 99, 116, 95, 95, 4, 0, 0, 16, 6, 204, 11, 95, 95, 119, 101, 97, 107, 114, 101, 102, 95, 95, 4, 0, 0, 17]⟩ 0), (.bool true), (.bool true), (.str ⟨#[]⟩ 205), (.int 21 0), (.str ⟨#[6, 227, 10, 95, 95, 109, 111, 100, 117, 108, 101, 95, 95, 6, 217, 17, 95, 102, 114, 111, 122, 101, 110, 95, 105, 109, 112, 111, 114, 116, 108, 105, 98, 6, 228, 15, 95, 95, 102, 105, 114, 115, 116, 108, 105, 110, 101, 110, 111, 95, 95, 4, 218, 0, 562, 6, 229, 7, 95, 95, 100, 111, 99, 95, 95, 9, 47, 95, 102, 114, 111, 122, 101, 110, 95, 105, 109, 112, 111, 114, 116, 108, 105, 98, 46, 77, 111, 100, 117, 108, 101, 83, 112, 101, 99, 46, 95, 95, 100, 111, 99, 95, 95, 58, 115, 116, 114, 35, 111, 112, 97, 113, 117, 101, 6, 230, 8, 95, 95, 105, 110, 105, 116, 95, 95, 9, 44, 95, 102, 114, 111, 122, 101, 110, 95, 105, 109, 112, 111, 114, 116, 108, 105, 98, 46, 77, 111, 100, 117, 108, 101, 83, 112, 101, 99, 46, 95, 95, 105, 110, 105, 116, 95, 95, 35, 111, 112, 97, 113, 117, 101, 6, 231, 8, 95, 95, 114, 101, 112, 114, 95, 95, 9, 44, 95, 102, 114, 111, 122, 101, 110, 95, 105, 109, 112, 111, 114, 116, 108, 105, 98, 46, 77, 111, 100, 117, 108, 101, 83, 112, 101, 99, 46, 95, 95, 114, 101, 112, 114, 95, 95, 35, 111, 112, 97, 113, 117, 101, 6, 232, 6, 95, 95, 101, 113, 95, 95, 9, 42, 95, 102, 114, 111, 122, 101, 110, 95, 105, 109, 112, 111, 114, 116, 108, 105, 98, 46, 77, 111, 100, 117, 108, 101, 83, 112, 101, 99, 46, 95, 95, 101, 113, 95, 95, 35, 111, 112, 97, 113, 117, 101, 6, 233, 6, 99, 97, 99, 104, 101, 100, 9, 42, 95, 102, 114, 111, 122, 101, 110, 95, 105, 109, 112, 111, 114, 116, 108, 105, 98, 46, 77, 111, 100, 117, 108, 101, 83, 112, 101, 99, 46, 99, 97, 99, 104, 101, 100, 35, 111, 112, 97, 113, 117, 101, 6, 234, 6, 112, 97, 114, 101, 110, 116, 9, 42, 95, 102, 114, 111, 122, 101, 110, 95, 105, 109, 112, 111, 114, 116, 108, 105, 98, 46, 77, 111, 100, 117, 108, 101, 83, 112, 101, 99, 46, 112, 97, 114, 101, 110, 116, 35, 111, 112, 97, 113, 117, 101, 6, 235, 12, 104, 97, 115, 95, 108, 111, 99, 97, 116, 105, 111, 110, 9, 48, 95, 102, 114, 111, 122, 101, 110, 95, 105, 109, 112, 111, 114, 116, 108, 105, 98, 46, 77, 111, 100, 117, 108, 101, 83, 112, 101, 99, 46, 104, 97, 115, 95, 108, 111, 99, 97, 116, 105, 111, 110, 35, 111, 112, 97, 113, 117, 101, 6, 236, 21, 95, 95, 115, 116, 97, 116, 105, 99, 95, 97, 116, 116, 114, 105, 98, 117, 116, 101, 115, 95, 95, 4, 0, 0, 23, 6, 238, 8, 95, 95, 100, 105, 99, 116, 95, 95, 4, 0, 0, 24, 6, 240, 11, 95, 95, 119, 101, 97, 107, 114, 101, 102, 95, 95, 4, 0, 0, 25, 6, 241, 8, 95, 95, 104, 97, 115, 104, 95, 95, 0]⟩ 0), (.bool true), (.bool true), (.str ⟨#[]⟩ 242)] 1), #[]⟩
noncomputable def o19 (P : Params) : Obj := ⟨(.type q27), none, (.seq #[] 0), #[]⟩
noncomputable def o20 (P : Params) : Obj := ⟨(.type q0), none, (.dict #[EN P ⟨#[110, 97, 109, 101]⟩ 208 (.str ⟨#[95, 115, 114, 101]⟩ 207), EN P ⟨#[108, 111, 97, 100, 101, 114]⟩ 209 (.ref 14), EN P ⟨#[111, 114, 105, 103, 105, 110]⟩ 210 (.str ⟨#[98, 117, 105, 108, 116, 45, 105, 110]⟩ 184), EN P ⟨#[108, 111, 97, 100, 101, 114, 95, 115, 116, 97, 116, 101]⟩ 211 .none, EN P ⟨#[115, 117, 98, 109, 111, 100, 117, 108, 101, 95, 115, 101, 97, 114, 99, 104, 95, 108, 111, 99, 97, 116, 105, 111, 110, 115]⟩ 212 .none, EN P ⟨#[95, 117, 110, 105, 110, 105, 116, 105, 97, 108, 105, 122, 101, 100, 95, 115, 117, 98, 109, 111, 100, 117, 108, 101, 115]⟩ 213 (.ref 19), EN P ⟨#[95, 115, 101, 116, 95, 102, 105, 108, 101, 97, 116, 116, 114]⟩ 214 (.bool false), EN P ⟨#[95, 99, 97, 99, 104, 101, 100]⟩ 215 .none, EN P ⟨#[95, 105, 110, 105, 116, 105, 97, 108, 105, 122, 105, 110, 103]⟩ 243 (.bool false)] 9), #[]⟩
noncomputable def o21 (P : Params) : Obj := ⟨(.type q0), none, (.dict #[EN P ⟨#[95, 95, 109, 111, 100, 117, 108, 101, 95, 95]⟩ 227 (.str ⟨#[95, 102, 114, 111, 122, 101, 110, 95, 105, 109, 112, 111, 114, 116, 108, 105, 98]⟩ 217), EN P ⟨#[95, 95, 102, 105, 114, 115, 116, 108, 105, 110, 101, 110, 111, 95, 95]⟩ 228 (.int 562 218), EN P ⟨#[95, 95, 100, 111, 99, 95, 95]⟩ 229 (.builtin q28), EN P ⟨#[95, 95, 105, 110, 105, 116, 95, 95]⟩ 230 (.builtin q29), EN P ⟨#[95, 95, 114, 101, 112, 114, 95, 95]⟩ 231 (.builtin q30), EN P ⟨#[95, 95, 101, 113, 95, 95]⟩ 232 (.builtin q31), EN P ⟨#[99, 97, 99, 104, 101, 100]⟩ 233 (.builtin q32), EN P ⟨#[112, 97, 114, 101, 110, 116]⟩ 234 (.builtin q33), EN P ⟨#[104, 97, 115, 95, 108, 111, 99, 97, 116, 105, 111, 110]⟩ 235 (.builtin q34), EN P ⟨#[95, 95, 115, 116, 97, 116, 105, 99, 95, 97, 116, 116, 114, 105, 98, 117, 116, 101, 115, 95, 95]⟩ 236 (.ref 23), EN P ⟨#[95, 95, 100, 105, 99, 116, 95, 95]⟩ 238 (.ref 24), EN P ⟨#[95, 95, 119, 101, 97, 107, 114, 101, 102, 95, 95]⟩ 240 (.ref 25), EN P ⟨#[95, 95, 104, 97, 115, 104, 95, 95]⟩ 241 .none] 13), #[]⟩
noncomputable def o22 (P : Params) : Obj := ⟨(.type q21), none, (.cls ⟨⟨#[77, 111, 100, 117, 108, 101, 83, 112, 101, 99]⟩, [(.type q22)], [(.ref 22), (.type q22)], 21, ⟨#[77, 111, 100, 117, 108, 101, 83, 112, 101, 99]⟩, true, [], [], false, none, false⟩), #[]⟩
noncomputable def o23 (P : Params) : Obj := ⟨(.type q3), none, (.seq #[(.str ⟨#[95, 99, 97, 99, 104, 101, 100]⟩ 219), (.str ⟨#[95, 115, 101, 116, 95, 102, 105, 108, 101, 97, 116, 116, 114]⟩ 220), (.str ⟨#[95, 117, 110, 105, 110, 105, 116, 105, 97, 108, 105, 122, 101, 100, 95, 115, 117, 98, 109, 111, 100, 117, 108, 101, 115]⟩ 221), (.str ⟨#[108, 111, 97, 100, 101, 114]⟩ 222), (.str ⟨#[108, 111, 97, 100, 101, 114, 95, 115, 116, 97, 116, 101]⟩ 223), (.str ⟨#[110, 97, 109, 101]⟩ 224), (.str ⟨#[111, 114, 105, 103, 105, 110]⟩ 225), (.str ⟨#[115, 117, 98, 109, 111, 100, 117, 108, 101, 95, 115, 101, 97, 114, 99, 104, 95, 108, 111, 99, 97, 116, 105, 111, 110, 115]⟩ 226)] 0), #[]⟩
noncomputable def o24 (P : Params) : Obj := ⟨(.type q23), none, (.fields #[(.str ⟨#[95, 95, 100, 105, 99, 116, 95, 95]⟩ 237), (.ref 22), (.builtin q24), (.builtin q25)]), #[]⟩
noncomputable def o25 (P : Params) : Obj := ⟨(.type q23), none, (.fields #[(.str ⟨#[95, 95, 119, 101, 97, 107, 114, 101, 102, 95, 95]⟩ 239), (.ref 22), (.builtin q26), .none]), #[]⟩
noncomputable def o26 (P : Params) : Obj := ⟨(.ref 22), (some 20), .plain, #[]⟩
noncomputable def o27 (P : Params) : Obj := ⟨.none, none, (.seq #[(.int 11 0), (.str ⟨#[6, 247, 8, 95, 95, 110, 97, 109, 101, 95, 95, 6, 246, 4, 95, 115, 114, 101, 6, 248, 7, 95, 95, 100, 111, 99, 95, 95, 0, 6, 250, 11, 95, 95, 112, 97, 99, 107, 97, 103, 101, 95, 95, 6, 249, 0, 6, 251, 10, 95, 95, 108, 111, 97, 100, 101, 114, 95, 95, 4, 0, 0, 14, 6, 252, 8, 95, 95, 115, 112, 101, 99, 95, 95, 4, 0, 0, 26, 6, 253, 7, 99, 111, 109, 112, 105, 108, 101, 9, 12, 95, 115, 114, 101, 46, 99, 111, 109, 112, 105, 108, 101, 6, 254, 8, 116, 101, 109, 112, 108, 97, 116, 101, 9, 13, 95, 115, 114, 101, 46, 116, 101, 109, 112, 108, 97, 116, 101, 6, 255, 11, 103, 101, 116, 99, 111, 100, 101, 115, 105, 122, 101, 9, 16, 95, 115, 114, 101, 46, 103, 101, 116, 99, 111, 100, 101, 115, 105, 122, 101, 6, 256, 13, 97, 115, 99, 105, 105, 95, 105, 115, 99, 97, 115, 101, 100, 9, 18, 95, 115, 114, 101, 46, 97, 115, 99, 105, 105, 95, 105, 115, 99, 97, 115, 101, 100, 6, 257, 15, 117, 110, 105, 99, 111, 100, 101, 95, 105, 115, 99, 97, 115, 101, 100, 9, 20, 95, 115, 114, 101, 46, 117, 110, 105, 99, 111, 100, 101, 95, 105, 115, 99, 97, 115, 101, 100, 6, 258, 13, 97, 115, 99, 105, 105, 95, 116, 111, 108, 111, 119, 101, 114, 9, 18, 95, 115, 114, 101, 46, 97, 115, 99, 105, 105, 95, 116, 111, 108, 111, 119, 101, 114, 6, 259, 15, 117, 110, 105, 99, 111, 100, 101, 95, 116, 111, 108, 111, 119, 101, 114, 9, 20, 95, 115, 114, 101, 46, 117, 110, 105, 99, 111, 100, 101, 95, 116, 111, 108, 111, 119, 101, 114, 6, 261, 5, 77, 65, 71, 73, 67, 4, 260, 0, 20230612, 6, 263, 8, 67, 79, 68, 69, 83, 73, 90, 69, 4, 262, 0, 4, 6, 265, 9, 77, 65, 88, 82, 69, 80, 69, 65, 84, 4, 264, 0, 4294967295, 6, 267, 9, 77, 65, 88, 71, 82, 79, 85, 80, 83, 4, 266, 0, 1073741823, 6, 269, 9, 99, 111, 112, 121, 114, 105, 103, 104, 116, 6, 268, 53, 32, 83, 82, 69, 32, 50, 46, 50, 46, 50, 32, 67, 111, 112, 121, 114, 105, 103, 104, 116, 32, 40, 99, 41, 32, 49, 57, 57, 55, 45, 50, 48, 48, 50, 32, 98, 121, 32, 83, 101, 99, 114, 101, 116, 32, 76, 97, 98, 115, 32, 65, 66, 32]⟩ 0), (.bool true), (.bool false), (.str ⟨#[95, 115, 114, 101]⟩ 271)] 0), #[]⟩
noncomputable def o11v1 (P : Params) : Obj := ⟨(.type q0), none, (.dict #[EN P ⟨#[95, 95, 110, 97, 109, 101, 95, 95]⟩ 247 (.str ⟨#[95, 115, 114, 101]⟩ 246), EN P ⟨#[95, 95, 100, 111, 99, 95, 95]⟩ 248 .none, EN P ⟨#[95, 95, 112, 97, 99, 107, 97, 103, 101, 95, 95]⟩ 250 (.str ⟨#[]⟩ 249), EN P ⟨#[95, 95, 108, 111, 97, 100, 101, 114, 95, 95]⟩ 251 (.builtin q35), EN P ⟨#[95, 95, 115, 112, 101, 99, 95, 95]⟩ 252 (.builtin q36), EN P ⟨#[99, 111, 109, 112, 105, 108, 101]⟩ 253 (.builtin q6), EN P ⟨#[116, 101, 109, 112, 108, 97, 116, 101]⟩ 254 (.builtin q37), EN P ⟨#[103, 101, 116, 99, 111, 100, 101, 115, 105, 122, 101]⟩ 255 (.builtin q38), EN P ⟨#[97, 115, 99, 105, 105, 95, 105, 115, 99, 97, 115, 101, 100]⟩ 256 (.builtin q39), EN P ⟨#[117, 110, 105, 99, 111, 100, 101, 95, 105, 115, 99, 97, 115, 101, 100]⟩ 257 (.builtin q40), EN P ⟨#[97, 115, 99, 105, 105, 95, 116, 111, 108, 111, 119, 101, 114]⟩ 258 (.builtin q41), EN P ⟨#[117, 110, 105, 99, 111, 100, 101, 95, 116, 111, 108, 111, 119, 101, 114]⟩ 259 (.builtin q42), EN P ⟨#[77, 65, 71, 73, 67]⟩ 261 (.int 20230612 260), EN P ⟨#[67, 79, 68, 69, 83, 73, 90, 69]⟩ 263 (.int 4 262), EN P ⟨#[77, 65, 88, 82, 69, 80, 69, 65, 84]⟩ 265 (.int 4294967295 264), EN P ⟨#[77, 65, 88, 71, 82, 79, 85, 80, 83]⟩ 267 (.int 1073741823 266), EN P ⟨#[99, 111, 112, 121, 114, 105, 103, 104, 116]⟩ 269 (.str ⟨#[32, 83, 82, 69, 32, 50, 46, 50, 46, 50, 32, 67, 111, 112, 121, 114, 105, 103, 104, 116, 32, 40, 99, 41, 32, 49, 57, 57, 55, 45, 50, 48, 48, 50, 32, 98, 121, 32, 83, 101, 99, 114, 101, 116, 32, 76, 97, 98, 115, 32, 65, 66, 32]⟩ 268)] 17), #[]⟩
noncomputable def o28 (P : Params) : Obj := ⟨(.type q3), none, (.seq #[] 0), #[]⟩
noncomputable def o29 (P : Params) : Obj := ⟨.none, none, (.fields #[]), #[]⟩
noncomputable def o30 (P : Params) : Obj := ⟨(.type q4), none, (.fields #[(.str ⟨#[60, 109, 111, 100, 117, 108, 101, 62]⟩ 277), (.str ⟨#[60, 109, 111, 100, 117, 108, 101, 62]⟩ 278), (.str ⟨#[47, 99, 108, 97, 105, 109, 47, 99, 117, 116, 46, 112, 121]⟩ 279), (.int 1 0), (.int 0 0), (.int 0 0), (.int 0 0), (.int 0 0), (.ref 28), (.bool false), (.int 276 0), (.ref 29), .none, .none, .none, .none, (.int 280 0), (.int 1 0), (.str ⟨#[47, 99, 108, 97, 105, 109, 47, 99, 117, 116, 46, 112, 121]⟩ 281)]), #[]⟩
noncomputable def o31 (P : Params) : Obj := ⟨(.type q5), none, .plain, #[some (.ref 30), some (.ref 3), some (.ref 3), none, some (.str ⟨#[95, 95, 109, 97, 105, 110, 95, 95]⟩ 164), none, some (.ref 0)]⟩
noncomputable def o3v1 (P : Params) : Obj := ⟨(.type q0), none, (.dict #[EN P ⟨#[95, 95, 110, 97, 109, 101, 95, 95]⟩ 165 (.str ⟨#[114, 101]⟩ 679), EN P ⟨#[95, 95, 100, 111, 99, 95, 95]⟩ 166 .none, EN P ⟨#[95, 95, 112, 97, 99, 107, 97, 103, 101, 95, 95]⟩ 167 .none, EN P ⟨#[95, 95, 108, 111, 97, 100, 101, 114, 95, 95]⟩ 168 (.builtin q1), EN P ⟨#[95, 95, 115, 112, 101, 99, 95, 95]⟩ 169 .none, EN P ⟨#[95, 95, 97, 110, 110, 111, 116, 97, 116, 105, 111, 110, 115, 95, 95]⟩ 170 (.ref 6), EN P ⟨#[95, 95, 98, 117, 105, 108, 116, 105, 110, 115, 95, 95]⟩ 171 (.ref 4), EN P ⟨#[95, 95, 102, 105, 108, 101, 95, 95]⟩ 173 (.str ⟨#[47, 99, 108, 97, 105, 109, 47, 99, 117, 116, 46, 112, 121]⟩ 172), EN P ⟨#[95, 95, 99, 97, 99, 104, 101, 100, 95, 95]⟩ 174 .none, EN P ⟨#[95, 115, 114, 101]⟩ 275 (.ref 12), EN P ⟨#[95, 119, 97, 108, 108]⟩ 288 (.ref 38), EN P ⟨#[95, 112, 101, 95, 100, 111, 99]⟩ 297 (.ref 45), EN P ⟨#[95, 116, 119, 105, 110, 95, 114, 101, 95, 55]⟩ 327 (.ref 50), EN P ⟨#[117, 110, 109, 97, 116, 99, 104, 101, 100]⟩ 337 (.ref 57), EN P ⟨#[72, 69, 65, 68, 69, 82, 95, 84, 79, 75, 69, 78, 95, 82, 69]⟩ 385 (.ref 62), EN P ⟨#[72, 69, 65, 68, 69, 82, 95, 81, 85, 79, 84, 69, 68, 95, 86, 65, 76, 85, 69, 95, 82, 69]⟩ 463 (.ref 67), EN P ⟨#[72, 69, 65, 68, 69, 82, 95, 86, 65, 76, 85, 69, 95, 82, 69]⟩ 518 (.ref 72), EN P ⟨#[72, 69, 65, 68, 69, 82, 95, 69, 83, 67, 65, 80, 69, 95, 82, 69]⟩ 541 (.ref 77), EN P ⟨#[115, 112, 108, 105, 116, 95, 104, 101, 97, 100, 101, 114, 95, 119, 111, 114, 100, 115]⟩ 558 (.ref 84), EN P ⟨#[72, 69, 65, 68, 69, 82, 95, 74, 79, 73, 78, 95, 84, 79, 75, 69, 78, 95, 82, 69]⟩ 587 (.ref 89), EN P ⟨#[72, 69, 65, 68, 69, 82, 95, 74, 79, 73, 78, 95, 69, 83, 67, 65, 80, 69, 95, 82, 69]⟩ 615 (.ref 94), EN P ⟨#[106, 111, 105, 110, 95, 104, 101, 97, 100, 101, 114, 95, 119, 111, 114, 100, 115]⟩ 628 (.ref 101), EN P ⟨#[95, 116, 119, 105, 110, 95, 114, 101, 95, 49]⟩ 668 (.ref 106), EN P ⟨#[116, 114, 97, 110, 115, 108, 97, 116, 101]⟩ 678 (.ref 113)] 24), #[]⟩
noncomputable def o29v1 (P : Params) : Obj := ⟨.none, none, (.fields #[(.int 2 0), (.int 0 0), (.ref 37), (.int 5 0), (.int 0 0), (.ref 44), (.int 15 0), (.int 0 0), (.ref 56), (.int 23 0), (.int 0 0), (.ref 83), (.int 106 0), (.int 0 0), (.ref 100), (.int 133 0), (.int 0 0), (.ref 112)]), #[]⟩
noncomputable def o32 (P : Params) : Obj := ⟨(.type q3), none, (.seq #[] 0), #[]⟩
noncomputable def o33 (P : Params) : Obj := ⟨.none, none, (.fields #[]), #[]⟩
noncomputable def o34 (P : Params) : Obj := ⟨(.type q3), none, (.seq #[(.str ⟨#[107]⟩ 285)] 0), #[]⟩
noncomputable def o35 (P : Params) : Obj := ⟨(.type q3), none, (.seq #[] 0), #[]⟩
noncomputable def o36 (P : Params) : Obj := ⟨.none, none, (FN (ts 1) ⟨#[95, 119, 97, 108, 108]⟩ 0 0 .none .none .none .none none .none .none 0), #[]⟩
noncomputable def o37 (P : Params) : Obj := ⟨(.type q4), none, (.fields #[(.str ⟨#[95, 119, 97, 108, 108]⟩ 282), (.str ⟨#[95, 119, 97, 108, 108]⟩ 283), (.str ⟨#[47, 99, 108, 97, 105, 109, 47, 99, 117, 116, 46, 112, 121]⟩ 284), (.int 2 0), (.int 1 0), (.int 0 0), (.int 0 0), (.int 3 0), (.ref 32), (.bool true), (.int 276 0), (.ref 33), .none, (.ref 34), (.ref 35), (.ref 36), (.int 286 0), (.int 2 0), (.str ⟨#[47, 99, 108, 97, 105, 109, 47, 99, 117, 116, 46, 112, 121]⟩ 287)]), #[]⟩
noncomputable def o38 (P : Params) : Obj := ⟨(.type q43), none, (FN (ts 1) ⟨#[95, 119, 97, 108, 108]⟩ 3 0 .none .none .none (.str ⟨#[95, 95, 109, 97, 105, 110, 95, 95]⟩ 164) none (.ref 37) .none 0), #[]⟩
noncomputable def o39 (P : Params) : Obj := ⟨(.type q3), none, (.seq #[] 0), #[]⟩
noncomputable def o40 (P : Params) : Obj := ⟨.none, none, (.fields #[]), #[]⟩
noncomputable def o41 (P : Params) : Obj := ⟨(.type q3), none, (.seq #[(.str ⟨#[120]⟩ 292), (.str ⟨#[116]⟩ 293), (.str ⟨#[102]⟩ 294)] 0), #[]⟩
noncomputable def o42 (P : Params) : Obj := ⟨(.type q3), none, (.seq #[] 0), #[]⟩
noncomputable def o43 (P : Params) : Obj := ⟨.none, none, (FN (ts 2) ⟨#[95, 112, 101, 95, 100, 111, 99]⟩ 0 0 .none .none .none .none none .none .none 0), #[]⟩
noncomputable def o44 (P : Params) : Obj := ⟨(.type q4), none, (.fields #[(.str ⟨#[95, 112, 101, 95, 100, 111, 99]⟩ 289), (.str ⟨#[95, 112, 101, 95, 100, 111, 99]⟩ 290), (.str ⟨#[47, 99, 108, 97, 105, 109, 47, 99, 117, 116, 46, 112, 121]⟩ 291), (.int 5 0), (.int 1 0), (.int 0 0), (.int 0 0), (.int 3 0), (.ref 39), (.bool true), (.int 276 0), (.ref 40), .none, (.ref 41), (.ref 42), (.ref 43), (.int 295 0), (.int 5 0), (.str ⟨#[47, 99, 108, 97, 105, 109, 47, 99, 117, 116, 46, 112, 121]⟩ 296)]), #[]⟩
noncomputable def o45 (P : Params) : Obj := ⟨(.type q43), none, (FN (ts 2) ⟨#[95, 112, 101, 95, 100, 111, 99]⟩ 3 0 .none .none .none (.str ⟨#[95, 95, 109, 97, 105, 110, 95, 95]⟩ 164) none (.ref 44) .none 0), #[]⟩
noncomputable def o46 (P : Params) : Obj := ⟨(.type q27), none, (.seq #[(.int 14 303), (.int 4 304), (.int 0 305), (.int 0 306), (.int 4294967295 307), (.int 6 308), (.int 0 309), (.int 24 310), (.int 13 311), (.int 0 312), (.int 4294967295 313), (.int 13 314), (.int 8 315), (.int 16 316), (.int 61 317), (.int 8 318), (.int 12 319), (.int 16 320), (.int 59 321), (.int 0 322), (.int 1 323), (.int 1 324)] 0), #[]⟩
noncomputable def o47 (P : Params) : Obj := ⟨(.type q0), none, (.dict #[] 0), #[]⟩
noncomputable def o48 (P : Params) : Obj := ⟨(.type q3), none, (.seq #[.none] 0), #[]⟩
noncomputable def o49 (P : Params) : Obj := ⟨(.type q3), none, (.seq #[(.int 14 0), (.int 4 0), (.int 0 0), (.int 0 0), (.int 4294967295 0), (.int 6 0), (.int 0 0), (.int 24 0), (.int 13 0), (.int 0 0), (.int 4294967295 0), (.int 13 0), (.int 8 0), (.int 16 0), (.int 61 0), (.int 8 0), (.int 12 0), (.int 16 0), (.int 59 0), (.int 0 0), (.int 1 0), (.int 1 0)] 0), #[]⟩
noncomputable def o50 (P : Params) : Obj := ⟨(.type q44), none, (.fields #[(.str ⟨#[94, 91, 61, 92, 115, 59, 93, 42]⟩ 301), (.int 32 326), (.int 0 0), .none, .none, (.ref 49), (.int 0 0)]), #[]⟩
noncomputable def o51 (P : Params) : Obj := ⟨(.type q3), none, (.seq #[] 0), #[]⟩
noncomputable def o52 (P : Params) : Obj := ⟨.none, none, (.fields #[]), #[]⟩
noncomputable def o53 (P : Params) : Obj := ⟨(.type q3), none, (.seq #[(.str ⟨#[109, 97, 116, 99, 104]⟩ 331), (.str ⟨#[115, 116, 97, 114, 116]⟩ 332), (.str ⟨#[101, 110, 100]⟩ 333)] 0), #[]⟩
noncomputable def o54 (P : Params) : Obj := ⟨(.type q3), none, (.seq #[] 0), #[]⟩
noncomputable def o55 (P : Params) : Obj := ⟨.none, none, (FN (ts 5) ⟨#[117, 110, 109, 97, 116, 99, 104, 101, 100]⟩ 0 0 .none .none .none .none none .none .none 0), #[]⟩
noncomputable def o56 (P : Params) : Obj := ⟨(.type q4), none, (.fields #[(.str ⟨#[117, 110, 109, 97, 116, 99, 104, 101, 100]⟩ 328), (.str ⟨#[117, 110, 109, 97, 116, 99, 104, 101, 100]⟩ 329), (.str ⟨#[47, 99, 108, 97, 105, 109, 47, 99, 117, 116, 46, 112, 121]⟩ 330), (.int 15 0), (.int 1 0), (.int 0 0), (.int 0 0), (.int 3 0), (.ref 51), (.bool true), (.int 276 0), (.ref 52), .none, (.ref 53), (.ref 54), (.ref 55), (.int 334 0), (.int 15 0), (.str ⟨#[47, 99, 108, 97, 105, 109, 47, 99, 117, 116, 46, 112, 121]⟩ 335)]), #[]⟩
noncomputable def o57 (P : Params) : Obj := ⟨(.type q43), none, (FN (ts 5) ⟨#[117, 110, 109, 97, 116, 99, 104, 101, 100]⟩ 3 0 .none .none (.str ⟨#[82, 101, 116, 117, 114, 110, 32, 117, 110, 109, 97, 116, 99, 104, 101, 100, 32, 112, 97, 114, 116, 32, 111, 102, 32, 114, 101, 46, 77, 97, 116, 99, 104, 32, 111, 98, 106, 101, 99, 116, 46]⟩ 336) (.str ⟨#[99, 112, 121, 51, 49, 51, 46, 104, 116, 116, 112, 46, 99, 111, 111, 107, 105, 101, 106, 97, 114]⟩ 298) none (.ref 56) .none 0), #[]⟩
noncomputable def o58 (P : Params) : Obj := ⟨(.type q27), none, (.seq #[(.int 14 341), (.int 4 342), (.int 0 343), (.int 1 344), (.int 4294967295 345), (.int 6 346), (.int 0 347), (.int 24 348), (.int 9 349), (.int 0 350), (.int 4294967295 351), (.int 13 352), (.int 4 353), (.int 8 354), (.int 12 355), (.int 0 356), (.int 1 357), (.int 17 358), (.int 0 359), (.int 24 360), (.int 19 361), (.int 1 362), (.int 4294967295 363), (.int 13 364), (.int 14 365), (.int 21 366), (.int 9 367), (.int 0 368), (.int 671092736 369), (.int 0 370), (.int 0 371), (.int 0 372), (.int 0 373), (.int 0 374), (.int 0 375), (.int 8 376), (.int 12 377), (.int 0 378), (.int 1 379), (.int 17 380), (.int 1 381), (.int 1 382)] 0), #[]⟩
noncomputable def o59 (P : Params) : Obj := ⟨(.type q0), none, (.dict #[] 0), #[]⟩
noncomputable def o60 (P : Params) : Obj := ⟨(.type q3), none, (.seq #[.none, .none] 0), #[]⟩
noncomputable def o61 (P : Params) : Obj := ⟨(.type q3), none, (.seq #[(.int 14 0), (.int 4 0), (.int 0 0), (.int 1 0), (.int 4294967295 0), (.int 6 0), (.int 0 0), (.int 24 0), (.int 9 0), (.int 0 0), (.int 4294967295 0), (.int 13 0), (.int 4 0), (.int 8 0), (.int 12 0), (.int 0 0), (.int 1 0), (.int 17 0), (.int 0 0), (.int 24 0), (.int 19 0), (.int 1 0), (.int 4294967295 0), (.int 13 0), (.int 14 0), (.int 21 0), (.int 9 0), (.int 0 0), (.int 671092736 0), (.int 0 0), (.int 0 0), (.int 0 0), (.int 0 0), (.int 0 0), (.int 0 0), (.int 8 0), (.int 12 0), (.int 0 0), (.int 1 0), (.int 17 0), (.int 1 0), (.int 1 0)] 0), #[]⟩
noncomputable def o62 (P : Params) : Obj := ⟨(.type q44), none, (.fields #[(.str ⟨#[94, 92, 115, 42, 40, 91, 94, 61, 92, 115, 59, 44, 93, 43, 41]⟩ 339), (.int 32 384), (.int 1 0), .none, .none, (.ref 61), (.int 0 0)]), #[]⟩
noncomputable def o63 (P : Params) : Obj := ⟨(.type q27), none, (.seq #[(.int 14 389), (.int 4 390), (.int 0 391), (.int 3 392), (.int 4294967295 393), (.int 6 394), (.int 0 395), (.int 24 396), (.int 9 397), (.int 0 398), (.int 4294967295 399), (.int 13 400), (.int 4 401), (.int 8 402), (.int 12 403), (.int 0 404), (.int 1 405), (.int 16 406), (.int 61 407), (.int 24 408), (.int 9 409), (.int 0 410), (.int 4294967295 411), (.int 13 412), (.int 4 413), (.int 8 414), (.int 12 415), (.int 0 416), (.int 1 417), (.int 16 418), (.int 34 419), (.int 17 420), (.int 0 421), (.int 24 422), (.int 12 423), (.int 0 424), (.int 4294967295 425), (.int 13 426), (.int 7 427), (.int 21 428), (.int 16 429), (.int 34 430), (.int 16 431), (.int 92 432), (.int 0 433), (.int 1 434), (.int 23 435), (.int 19 436), (.int 0 437), (.int 4294967295 438), (.int 16 439), (.int 92 440), (.int 2 441), (.int 24 442), (.int 12 443), (.int 0 444), (.int 4294967295 445), (.int 13 446), (.int 7 447), (.int 21 448), (.int 16 449), (.int 34 450), (.int 16 451), (.int 92 452), (.int 0 453), (.int 1 454), (.int 18 455), (.int 17 456), (.int 1 457), (.int 16 458), (.int 34 459), (.int 1 460)] 0), #[]⟩
noncomputable def o64 (P : Params) : Obj := ⟨(.type q0), none, (.dict #[] 0), #[]⟩
noncomputable def o65 (P : Params) : Obj := ⟨(.type q3), none, (.seq #[.none, .none] 0), #[]⟩
noncomputable def o66 (P : Params) : Obj := ⟨(.type q3), none, (.seq #[(.int 14 0), (.int 4 0), (.int 0 0), (.int 3 0), (.int 4294967295 0), (.int 6 0), (.int 0 0), (.int 24 0), (.int 9 0), (.int 0 0), (.int 4294967295 0), (.int 13 0), (.int 4 0), (.int 8 0), (.int 12 0), (.int 0 0), (.int 1 0), (.int 16 0), (.int 61 0), (.int 24 0), (.int 9 0), (.int 0 0), (.int 4294967295 0), (.int 13 0), (.int 4 0), (.int 8 0), (.int 12 0), (.int 0 0), (.int 1 0), (.int 16 0), (.int 34 0), (.int 17 0), (.int 0 0), (.int 24 0), (.int 12 0), (.int 0 0), (.int 4294967295 0), (.int 13 0), (.int 7 0), (.int 21 0), (.int 16 0), (.int 34 0), (.int 16 0), (.int 92 0), (.int 0 0), (.int 1 0), (.int 23 0), (.int 19 0), (.int 0 0), (.int 4294967295 0), (.int 16 0), (.int 92 0), (.int 2 0), (.int 24 0), (.int 12 0), (.int 0 0), (.int 4294967295 0), (.int 13 0), (.int 7 0), (.int 21 0), (.int 16 0), (.int 34 0), (.int 16 0), (.int 92 0), (.int 0 0), (.int 1 0), (.int 18 0), (.int 17 0), (.int 1 0), (.int 16 0), (.int 34 0), (.int 1 0)] 0), #[]⟩
noncomputable def o67 (P : Params) : Obj := ⟨(.type q44), none, (.fields #[(.str ⟨#[94, 92, 115, 42, 61, 92, 115, 42, 92, 34, 40, 91, 94, 92, 34, 92, 92, 93, 42, 40, 63, 58, 92, 92, 46, 91, 94, 92, 34, 92, 92, 93, 42, 41, 42, 41, 92, 34]⟩ 387), (.int 32 462), (.int 1 0), .none, .none, (.ref 66), (.int 0 0)]), #[]⟩
noncomputable def o68 (P : Params) : Obj := ⟨(.type q27), none, (.seq #[(.int 14 467), (.int 4 468), (.int 0 469), (.int 1 470), (.int 4294967295 471), (.int 6 472), (.int 0 473), (.int 24 474), (.int 9 475), (.int 0 476), (.int 4294967295 477), (.int 13 478), (.int 4 479), (.int 8 480), (.int 12 481), (.int 0 482), (.int 1 483), (.int 16 484), (.int 61 485), (.int 24 486), (.int 9 487), (.int 0 488), (.int 4294967295 489), (.int 13 490), (.int 4 491), (.int 8 492), (.int 12 493), (.int 0 494), (.int 1 495), (.int 17 496), (.int 0 497), (.int 24 498), (.int 14 499), (.int 0 500), (.int 4294967295 501), (.int 13 502), (.int 9 503), (.int 21 504), (.int 8 505), (.int 12 506), (.int 16 507), (.int 59 508), (.int 16 509), (.int 44 510), (.int 0 511), (.int 1 512), (.int 17 513), (.int 1 514), (.int 1 515)] 0), #[]⟩
noncomputable def o69 (P : Params) : Obj := ⟨(.type q0), none, (.dict #[] 0), #[]⟩
noncomputable def o70 (P : Params) : Obj := ⟨(.type q3), none, (.seq #[.none, .none] 0), #[]⟩
noncomputable def o71 (P : Params) : Obj := ⟨(.type q3), none, (.seq #[(.int 14 0), (.int 4 0), (.int 0 0), (.int 1 0), (.int 4294967295 0), (.int 6 0), (.int 0 0), (.int 24 0), (.int 9 0), (.int 0 0), (.int 4294967295 0), (.int 13 0), (.int 4 0), (.int 8 0), (.int 12 0), (.int 0 0), (.int 1 0), (.int 16 0), (.int 61 0), (.int 24 0), (.int 9 0), (.int 0 0), (.int 4294967295 0), (.int 13 0), (.int 4 0), (.int 8 0), (.int 12 0), (.int 0 0), (.int 1 0), (.int 17 0), (.int 0 0), (.int 24 0), (.int 14 0), (.int 0 0), (.int 4294967295 0), (.int 13 0), (.int 9 0), (.int 21 0), (.int 8 0), (.int 12 0), (.int 16 0), (.int 59 0), (.int 16 0), (.int 44 0), (.int 0 0), (.int 1 0), (.int 17 0), (.int 1 0), (.int 1 0)] 0), #[]⟩
noncomputable def o72 (P : Params) : Obj := ⟨(.type q44), none, (.fields #[(.str ⟨#[94, 92, 115, 42, 61, 92, 115, 42, 40, 91, 94, 92, 115, 59, 44, 93, 42, 41]⟩ 465), (.int 32 517), (.int 1 0), .none, .none, (.ref 71), (.int 0 0)]), #[]⟩
noncomputable def o73 (P : Params) : Obj := ⟨(.type q27), none, (.seq #[(.int 14 522), (.int 8 523), (.int 1 524), (.int 2 525), (.int 2 526), (.int 1 527), (.int 1 528), (.int 92 529), (.int 0 530), (.int 16 531), (.int 92 532), (.int 17 533), (.int 0 534), (.int 2 535), (.int 17 536), (.int 1 537), (.int 1 538)] 0), #[]⟩
noncomputable def o74 (P : Params) : Obj := ⟨(.type q0), none, (.dict #[] 0), #[]⟩
noncomputable def o75 (P : Params) : Obj := ⟨(.type q3), none, (.seq #[.none, .none] 0), #[]⟩
noncomputable def o76 (P : Params) : Obj := ⟨(.type q3), none, (.seq #[(.int 14 0), (.int 8 0), (.int 1 0), (.int 2 0), (.int 2 0), (.int 1 0), (.int 1 0), (.int 92 0), (.int 0 0), (.int 16 0), (.int 92 0), (.int 17 0), (.int 0 0), (.int 2 0), (.int 17 0), (.int 1 0), (.int 1 0)] 0), #[]⟩
noncomputable def o77 (P : Params) : Obj := ⟨(.type q44), none, (.fields #[(.str ⟨#[92, 92, 40, 46, 41]⟩ 520), (.int 32 540), (.int 1 0), .none, .none, (.ref 76), (.int 0 0)]), #[]⟩
noncomputable def o78 (P : Params) : Obj := ⟨(.type q3), none, (.seq #[] 0), #[]⟩
noncomputable def o79 (P : Params) : Obj := ⟨.none, none, (.fields #[]), #[]⟩
noncomputable def o80 (P : Params) : Obj := ⟨(.type q3), none, (.seq #[(.str ⟨#[104, 101, 97, 100, 101, 114, 95, 118, 97, 108, 117, 101, 115]⟩ 545), (.str ⟨#[114, 101, 115, 117, 108, 116]⟩ 546), (.str ⟨#[116, 101, 120, 116]⟩ 547), (.str ⟨#[111, 114, 105, 103, 95, 116, 101, 120, 116]⟩ 548), (.str ⟨#[112, 97, 105, 114, 115]⟩ 549), (.str ⟨#[109]⟩ 550), (.str ⟨#[110, 97, 109, 101]⟩ 551), (.str ⟨#[118, 97, 108, 117, 101]⟩ 552), (.str ⟨#[110, 111, 110, 95, 106, 117, 110, 107]⟩ 553), (.str ⟨#[110, 114, 95, 106, 117, 110, 107, 95, 99, 104, 97, 114, 115]⟩ 554)] 0), #[]⟩
noncomputable def o81 (P : Params) : Obj := ⟨(.type q3), none, (.seq #[] 0), #[]⟩
noncomputable def o82 (P : Params) : Obj := ⟨.none, none, (FN (ts 10) ⟨#[115, 112, 108, 105, 116, 95, 104, 101, 97, 100, 101, 114, 95, 119, 111, 114, 100, 115]⟩ 0 0 .none .none .none .none none .none .none 0), #[]⟩
noncomputable def o83 (P : Params) : Obj := ⟨(.type q4), none, (.fields #[(.str ⟨#[115, 112, 108, 105, 116, 95, 104, 101, 97, 100, 101, 114, 95, 119, 111, 114, 100, 115]⟩ 542), (.str ⟨#[115, 112, 108, 105, 116, 95, 104, 101, 97, 100, 101, 114, 95, 119, 111, 114, 100, 115]⟩ 543), (.str ⟨#[47, 99, 108, 97, 105, 109, 47, 99, 117, 116, 46, 112, 121]⟩ 544), (.int 23 0), (.int 1 0), (.int 0 0), (.int 0 0), (.int 3 0), (.ref 78), (.bool true), (.int 276 0), (.ref 79), .none, (.ref 80), (.ref 81), (.ref 82), (.int 555 0), (.int 23 0), (.str ⟨#[47, 99, 108, 97, 105, 109, 47, 99, 117, 116, 46, 112, 121]⟩ 556)]), #[]⟩
noncomputable def o84 (P : Params) : Obj := ⟨(.type q43), none, (FN (ts 10) ⟨#[115, 112, 108, 105, 116, 95, 104, 101, 97, 100, 101, 114, 95, 119, 111, 114, 100, 115]⟩ 3 0 .none .none (.str d10 557) (.str ⟨#[99, 112, 121, 51, 49, 51, 46, 104, 116, 116, 112, 46, 99, 111, 111, 107, 105, 101, 106, 97, 114]⟩ 298) none (.ref 83) .none 0), #[]⟩
noncomputable def o85 (P : Params) : Obj := ⟨(.type q27), none, (.seq #[(.int 14 562), (.int 4 563), (.int 0 564), (.int 1 565), (.int 4294967295 566), (.int 24 567), (.int 16 568), (.int 1 569), (.int 4294967295 570), (.int 13 571), (.int 11 572), (.int 9 573), (.int 0 574), (.int 67071226 575), (.int 3355443198 576), (.int 1476395007 577), (.int 0 578), (.int 0 579), (.int 0 580), (.int 0 581), (.int 0 582), (.int 1 583), (.int 1 584)] 0), #[]⟩
noncomputable def o86 (P : Params) : Obj := ⟨(.type q0), none, (.dict #[] 0), #[]⟩
noncomputable def o87 (P : Params) : Obj := ⟨(.type q3), none, (.seq #[.none] 0), #[]⟩
noncomputable def o88 (P : Params) : Obj := ⟨(.type q3), none, (.seq #[(.int 14 0), (.int 4 0), (.int 0 0), (.int 1 0), (.int 4294967295 0), (.int 24 0), (.int 16 0), (.int 1 0), (.int 4294967295 0), (.int 13 0), (.int 11 0), (.int 9 0), (.int 0 0), (.int 67071226 0), (.int 3355443198 0), (.int 1476395007 0), (.int 0 0), (.int 0 0), (.int 0 0), (.int 0 0), (.int 0 0), (.int 1 0), (.int 1 0)] 0), #[]⟩
noncomputable def o89 (P : Params) : Obj := ⟨(.type q44), none, (.fields #[(.str ⟨#[91, 33, 35, 36, 37, 38, 39, 42, 43, 92, 45, 46, 94, 95, 96, 124, 126, 48, 45, 57, 65, 45, 90, 97, 45, 122, 93, 43]⟩ 560), (.int 32 586), (.int 0 0), .none, .none, (.ref 88), (.int 0 0)]), #[]⟩
noncomputable def o90 (P : Params) : Obj := ⟨(.type q27), none, (.seq #[(.int 14 591), (.int 9 592), (.int 4 593), (.int 1 594), (.int 1 595), (.int 16 596), (.int 34 597), (.int 16 598), (.int 92 599), (.int 0 600), (.int 17 601), (.int 0 602), (.int 13 603), (.int 6 604), (.int 16 605), (.int 34 606), (.int 16 607), (.int 92 608), (.int 0 609), (.int 17 610), (.int 1 611), (.int 1 612)] 0), #[]⟩
noncomputable def o91 (P : Params) : Obj := ⟨(.type q0), none, (.dict #[] 0), #[]⟩
noncomputable def o92 (P : Params) : Obj := ⟨(.type q3), none, (.seq #[.none, .none] 0), #[]⟩
noncomputable def o93 (P : Params) : Obj := ⟨(.type q3), none, (.seq #[(.int 14 0), (.int 9 0), (.int 4 0), (.int 1 0), (.int 1 0), (.int 16 0), (.int 34 0), (.int 16 0), (.int 92 0), (.int 0 0), (.int 17 0), (.int 0 0), (.int 13 0), (.int 6 0), (.int 16 0), (.int 34 0), (.int 16 0), (.int 92 0), (.int 0 0), (.int 17 0), (.int 1 0), (.int 1 0)] 0), #[]⟩
noncomputable def o94 (P : Params) : Obj := ⟨(.type q44), none, (.fields #[(.str ⟨#[40, 91, 92, 34, 92, 92, 93, 41]⟩ 589), (.int 32 614), (.int 1 0), .none, .none, (.ref 93), (.int 0 0)]), #[]⟩
noncomputable def o95 (P : Params) : Obj := ⟨(.type q3), none, (.seq #[] 0), #[]⟩
noncomputable def o96 (P : Params) : Obj := ⟨.none, none, (.fields #[]), #[]⟩
noncomputable def o97 (P : Params) : Obj := ⟨(.type q3), none, (.seq #[(.str ⟨#[108, 105, 115, 116, 115]⟩ 619), (.str ⟨#[104, 101, 97, 100, 101, 114, 115]⟩ 620), (.str ⟨#[112, 97, 105, 114, 115]⟩ 621), (.str ⟨#[97, 116, 116, 114]⟩ 622), (.str ⟨#[107]⟩ 623), (.str ⟨#[118]⟩ 624)] 0), #[]⟩
noncomputable def o98 (P : Params) : Obj := ⟨(.type q3), none, (.seq #[] 0), #[]⟩
noncomputable def o99 (P : Params) : Obj := ⟨.none, none, (FN (ts 13) ⟨#[106, 111, 105, 110, 95, 104, 101, 97, 100, 101, 114, 95, 119, 111, 114, 100, 115]⟩ 0 0 .none .none .none .none none .none .none 0), #[]⟩
noncomputable def o100 (P : Params) : Obj := ⟨(.type q4), none, (.fields #[(.str ⟨#[106, 111, 105, 110, 95, 104, 101, 97, 100, 101, 114, 95, 119, 111, 114, 100, 115]⟩ 616), (.str ⟨#[106, 111, 105, 110, 95, 104, 101, 97, 100, 101, 114, 95, 119, 111, 114, 100, 115]⟩ 617), (.str ⟨#[47, 99, 108, 97, 105, 109, 47, 99, 117, 116, 46, 112, 121]⟩ 618), (.int 106 0), (.int 1 0), (.int 0 0), (.int 0 0), (.int 3 0), (.ref 95), (.bool true), (.int 276 0), (.ref 96), .none, (.ref 97), (.ref 98), (.ref 99), (.int 625 0), (.int 106 0), (.str ⟨#[47, 99, 108, 97, 105, 109, 47, 99, 117, 116, 46, 112, 121]⟩ 626)]), #[]⟩
noncomputable def o101 (P : Params) : Obj := ⟨(.type q43), none, (FN (ts 13) ⟨#[106, 111, 105, 110, 95, 104, 101, 97, 100, 101, 114, 95, 119, 111, 114, 100, 115]⟩ 3 0 .none .none (.str d13 627) (.str ⟨#[99, 112, 121, 51, 49, 51, 46, 104, 116, 116, 112, 46, 99, 111, 111, 107, 105, 101, 106, 97, 114]⟩ 298) none (.ref 100) .none 0), #[]⟩
noncomputable def o102 (P : Params) : Obj := ⟨(.type q27), none, (.seq #[(.int 14 634), (.int 14 635), (.int 4 636), (.int 1 637), (.int 1 638), (.int 9 639), (.int 0 640), (.int 64 641), (.int 0 642), (.int 1342177280 643), (.int 0 644), (.int 0 645), (.int 0 646), (.int 0 647), (.int 0 648), (.int 17 649), (.int 0 650), (.int 13 651), (.int 11 652), (.int 9 653), (.int 0 654), (.int 64 655), (.int 0 656), (.int 1342177280 657), (.int 0 658), (.int 0 659), (.int 0 660), (.int 0 661), (.int 0 662), (.int 17 663), (.int 1 664), (.int 1 665)] 0), #[]⟩
noncomputable def o103 (P : Params) : Obj := ⟨(.type q0), none, (.dict #[] 0), #[]⟩
noncomputable def o104 (P : Params) : Obj := ⟨(.type q3), none, (.seq #[.none, .none] 0), #[]⟩
noncomputable def o105 (P : Params) : Obj := ⟨(.type q3), none, (.seq #[(.int 14 0), (.int 14 0), (.int 4 0), (.int 1 0), (.int 1 0), (.int 9 0), (.int 0 0), (.int 64 0), (.int 0 0), (.int 1342177280 0), (.int 0 0), (.int 0 0), (.int 0 0), (.int 0 0), (.int 0 0), (.int 17 0), (.int 0 0), (.int 13 0), (.int 11 0), (.int 9 0), (.int 0 0), (.int 64 0), (.int 0 0), (.int 1342177280 0), (.int 0 0), (.int 0 0), (.int 0 0), (.int 0 0), (.int 0 0), (.int 17 0), (.int 1 0), (.int 1 0)] 0), #[]⟩
noncomputable def o106 (P : Params) : Obj := ⟨(.type q44), none, (.fields #[(.str ⟨#[40, 91, 38, 126, 124, 93, 41]⟩ 632), (.int 32 667), (.int 1 0), .none, .none, (.ref 105), (.int 0 0)]), #[]⟩
noncomputable def o107 (P : Params) : Obj := ⟨(.type q3), none, (.seq #[] 0), #[]⟩
noncomputable def o108 (P : Params) : Obj := ⟨.none, none, (.fields #[]), #[]⟩
noncomputable def o109 (P : Params) : Obj := ⟨(.type q3), none, (.seq #[(.str ⟨#[112, 97, 116]⟩ 672), (.str ⟨#[83, 84, 65, 82]⟩ 673), (.str ⟨#[112, 97, 114, 116, 115]⟩ 674)] 0), #[]⟩
noncomputable def o110 (P : Params) : Obj := ⟨(.type q3), none, (.seq #[] 0), #[]⟩
noncomputable def o111 (P : Params) : Obj := ⟨.none, none, (FN (ts 16) ⟨#[116, 114, 97, 110, 115, 108, 97, 116, 101]⟩ 0 0 .none .none .none .none none .none .none 0), #[]⟩
noncomputable def o112 (P : Params) : Obj := ⟨(.type q4), none, (.fields #[(.str ⟨#[116, 114, 97, 110, 115, 108, 97, 116, 101]⟩ 669), (.str ⟨#[116, 114, 97, 110, 115, 108, 97, 116, 101]⟩ 670), (.str ⟨#[47, 99, 108, 97, 105, 109, 47, 99, 117, 116, 46, 112, 121]⟩ 671), (.int 133 0), (.int 1 0), (.int 0 0), (.int 0 0), (.int 3 0), (.ref 107), (.bool true), (.int 276 0), (.ref 108), .none, (.ref 109), (.ref 110), (.ref 111), (.int 675 0), (.int 133 0), (.str ⟨#[47, 99, 108, 97, 105, 109, 47, 99, 117, 116, 46, 112, 121]⟩ 676)]), #[]⟩
noncomputable def o113 (P : Params) : Obj := ⟨(.type q43), none, (FN (ts 16) ⟨#[116, 114, 97, 110, 115, 108, 97, 116, 101]⟩ 3 0 .none .none (.str ⟨#[84, 114, 97, 110, 115, 108, 97, 116, 101, 32, 97, 32, 115, 104, 101, 108, 108, 32, 80, 65, 84, 84, 69, 82, 78, 32, 116, 111, 32, 97, 32, 114, 101, 103, 117, 108, 97, 114, 32, 101, 120, 112, 114, 101, 115, 115, 105, 111, 110, 46, 10, 10, 84, 104, 101, 114, 101, 32, 105, 115, 32, 110, 111, 32, 119, 97, 121, 32, 116, 111, 32, 113, 117, 111, 116, 101, 32, 109, 101, 116, 97, 45, 99, 104, 97, 114, 97, 99, 116, 101, 114, 115, 46, 10]⟩ 677) (.str ⟨#[99, 112, 121, 51, 49, 51, 46, 102, 110, 109, 97, 116, 99, 104]⟩ 629) none (.ref 112) .none 0), #[]⟩
noncomputable def o3v2 (P : Params) : Obj := ⟨(.type q0), none, (.dict #[EN P ⟨#[95, 95, 110, 97, 109, 101, 95, 95]⟩ 165 (.str ⟨#[114, 101]⟩ 679), EN P ⟨#[95, 95, 100, 111, 99, 95, 95]⟩ 166 .none, EN P ⟨#[95, 95, 112, 97, 99, 107, 97, 103, 101, 95, 95]⟩ 167 .none, EN P ⟨#[95, 95, 108, 111, 97, 100, 101, 114, 95, 95]⟩ 168 (.builtin q1), EN P ⟨#[95, 95, 115, 112, 101, 99, 95, 95]⟩ 169 .none, EN P ⟨#[95, 95, 97, 110, 110, 111, 116, 97, 116, 105, 111, 110, 115, 95, 95]⟩ 170 (.ref 6), EN P ⟨#[95, 95, 98, 117, 105, 108, 116, 105, 110, 115, 95, 95]⟩ 171 (.ref 4), EN P ⟨#[95, 95, 102, 105, 108, 101, 95, 95]⟩ 173 (.str ⟨#[47, 99, 108, 97, 105, 109, 47, 99, 117, 116, 46, 112, 121]⟩ 172), EN P ⟨#[95, 95, 99, 97, 99, 104, 101, 100, 95, 95]⟩ 174 .none, EN P ⟨#[95, 115, 114, 101]⟩ 275 (.ref 12), EN P ⟨#[95, 119, 97, 108, 108]⟩ 288 (.ref 38), EN P ⟨#[95, 112, 101, 95, 100, 111, 99]⟩ 297 (.ref 45), EN P ⟨#[95, 116, 119, 105, 110, 95, 114, 101, 95, 55]⟩ 327 (.ref 50), EN P ⟨#[117, 110, 109, 97, 116, 99, 104, 101, 100]⟩ 337 (.ref 57), EN P ⟨#[72, 69, 65, 68, 69, 82, 95, 84, 79, 75, 69, 78, 95, 82, 69]⟩ 385 (.ref 62), EN P ⟨#[72, 69, 65, 68, 69, 82, 95, 81, 85, 79, 84, 69, 68, 95, 86, 65, 76, 85, 69, 95, 82, 69]⟩ 463 (.ref 67), EN P ⟨#[72, 69, 65, 68, 69, 82, 95, 86, 65, 76, 85, 69, 95, 82, 69]⟩ 518 (.ref 72), EN P ⟨#[72, 69, 65, 68, 69, 82, 95, 69, 83, 67, 65, 80, 69, 95, 82, 69]⟩ 541 (.ref 77), EN P ⟨#[115, 112, 108, 105, 116, 95, 104, 101, 97, 100, 101, 114, 95, 119, 111, 114, 100, 115]⟩ 558 (.ref 84), EN P ⟨#[72, 69, 65, 68, 69, 82, 95, 74, 79, 73, 78, 95, 84, 79, 75, 69, 78, 95, 82, 69]⟩ 587 (.ref 89), EN P ⟨#[72, 69, 65, 68, 69, 82, 95, 74, 79, 73, 78, 95, 69, 83, 67, 65, 80, 69, 95, 82, 69]⟩ 615 (.ref 94), EN P ⟨#[106, 111, 105, 110, 95, 104, 101, 97, 100, 101, 114, 95, 119, 111, 114, 100, 115]⟩ 628 (.ref 101), EN P ⟨#[95, 116, 119, 105, 110, 95, 114, 101, 95, 49]⟩ 668 (.ref 106), EN P ⟨#[116, 114, 97, 110, 115, 108, 97, 116, 101]⟩ 678 (.ref 113), EN P ⟨#[95, 115, 112, 101, 99, 105, 97, 108, 95, 99, 104, 97, 114, 115, 95, 109, 97, 112]⟩ 826 (.ref 115)] 25), #[]⟩
noncomputable def o114 (P : Params) : Obj := ⟨(.type q45), none, (.fields #[.none, (.int 24 0)]), #[]⟩
noncomputable def o115 (P : Params) : Obj := ⟨(.type q0), none, (.dict #[⟨40, (.int 40 682), (.str ⟨#[92, 40]⟩ 686)⟩, ⟨41, (.int 41 688), (.str ⟨#[92, 41]⟩ 692)⟩, ⟨91, (.int 91 694), (.str ⟨#[92, 91]⟩ 698)⟩, ⟨93, (.int 93 700), (.str ⟨#[92, 93]⟩ 704)⟩, ⟨123, (.int 123 706), (.str ⟨#[92, 123]⟩ 710)⟩, ⟨125, (.int 125 712), (.str ⟨#[92, 125]⟩ 716)⟩, ⟨63, (.int 63 718), (.str ⟨#[92, 63]⟩ 722)⟩, ⟨42, (.int 42 724), (.str ⟨#[92, 42]⟩ 728)⟩, ⟨43, (.int 43 730), (.str ⟨#[92, 43]⟩ 734)⟩, ⟨45, (.int 45 736), (.str ⟨#[92, 45]⟩ 740)⟩, ⟨124, (.int 124 742), (.str ⟨#[92, 124]⟩ 746)⟩, ⟨94, (.int 94 748), (.str ⟨#[92, 94]⟩ 752)⟩, ⟨36, (.int 36 754), (.str ⟨#[92, 36]⟩ 758)⟩, ⟨92, (.int 92 760), (.str ⟨#[92, 92]⟩ 764)⟩, ⟨46, (.int 46 766), (.str ⟨#[92, 46]⟩ 770)⟩, ⟨38, (.int 38 772), (.str ⟨#[92, 38]⟩ 776)⟩, ⟨126, (.int 126 778), (.str ⟨#[92, 126]⟩ 782)⟩, ⟨35, (.int 35 784), (.str ⟨#[92, 35]⟩ 788)⟩, ⟨32, (.int 32 790), (.str ⟨#[92, 32]⟩ 794)⟩, ⟨9, (.int 9 796), (.str ⟨#[92, 9]⟩ 800)⟩, ⟨10, (.int 10 802), (.str ⟨#[92, 10]⟩ 806)⟩, ⟨13, (.int 13 808), (.str ⟨#[92, 13]⟩ 812)⟩, ⟨11, (.int 11 814), (.str ⟨#[92, 11]⟩ 818)⟩, ⟨12, (.int 12 820), (.str ⟨#[92, 12]⟩ 824)⟩] 24), #[]⟩
noncomputable def o116 (P : Params) : Obj := ⟨(.type q0), none, (.dict #[] 2), #[]⟩
noncomputable def o117 (P : Params) : Obj := ⟨(.type q3), none, (.seq #[] 0), #[]⟩
noncomputable def o118 (P : Params) : Obj := ⟨(.type q46), none, (.fields #[(.ref 117), .none, .none, .none, (.bool false), .none]), #[]⟩
noncomputable def o3v3 (P : Params) : Obj := ⟨(.type q0), none, (.dict #[EN P ⟨#[95, 95, 110, 97, 109, 101, 95, 95]⟩ 165 (.str ⟨#[99, 112, 121, 51, 49, 51, 46, 112, 111, 115, 105, 120, 112, 97, 116, 104]⟩ 995), EN P ⟨#[95, 95, 100, 111, 99, 95, 95]⟩ 166 .none, EN P ⟨#[95, 95, 112, 97, 99, 107, 97, 103, 101, 95, 95]⟩ 167 .none, EN P ⟨#[95, 95, 108, 111, 97, 100, 101, 114, 95, 95]⟩ 168 (.builtin q1), EN P ⟨#[95, 95, 115, 112, 101, 99, 95, 95]⟩ 169 .none, EN P ⟨#[95, 95, 97, 110, 110, 111, 116, 97, 116, 105, 111, 110, 115, 95, 95]⟩ 170 (.ref 6), EN P ⟨#[95, 95, 98, 117, 105, 108, 116, 105, 110, 115, 95, 95]⟩ 171 (.ref 4), EN P ⟨#[95, 95, 102, 105, 108, 101, 95, 95]⟩ 173 (.str ⟨#[47, 99, 108, 97, 105, 109, 47, 99, 117, 116, 46, 112, 121]⟩ 172), EN P ⟨#[95, 95, 99, 97, 99, 104, 101, 100, 95, 95]⟩ 174 .none, EN P ⟨#[95, 115, 114, 101]⟩ 275 (.ref 12), EN P ⟨#[95, 119, 97, 108, 108]⟩ 288 (.ref 38), EN P ⟨#[95, 112, 101, 95, 100, 111, 99]⟩ 297 (.ref 45), EN P ⟨#[95, 116, 119, 105, 110, 95, 114, 101, 95, 55]⟩ 327 (.ref 50), EN P ⟨#[117, 110, 109, 97, 116, 99, 104, 101, 100]⟩ 337 (.ref 57), EN P ⟨#[72, 69, 65, 68, 69, 82, 95, 84, 79, 75, 69, 78, 95, 82, 69]⟩ 385 (.ref 62), EN P ⟨#[72, 69, 65, 68, 69, 82, 95, 81, 85, 79, 84, 69, 68, 95, 86, 65, 76, 85, 69, 95, 82, 69]⟩ 463 (.ref 67), EN P ⟨#[72, 69, 65, 68, 69, 82, 95, 86, 65, 76, 85, 69, 95, 82, 69]⟩ 518 (.ref 72), EN P ⟨#[72, 69, 65, 68, 69, 82, 95, 69, 83, 67, 65, 80, 69, 95, 82, 69]⟩ 541 (.ref 77), EN P ⟨#[115, 112, 108, 105, 116, 95, 104, 101, 97, 100, 101, 114, 95, 119, 111, 114, 100, 115]⟩ 558 (.ref 84), EN P ⟨#[72, 69, 65, 68, 69, 82, 95, 74, 79, 73, 78, 95, 84, 79, 75, 69, 78, 95, 82, 69]⟩ 587 (.ref 89), EN P ⟨#[72, 69, 65, 68, 69, 82, 95, 74, 79, 73, 78, 95, 69, 83, 67, 65, 80, 69, 95, 82, 69]⟩ 615 (.ref 94), EN P ⟨#[106, 111, 105, 110, 95, 104, 101, 97, 100, 101, 114, 95, 119, 111, 114, 100, 115]⟩ 628 (.ref 101), EN P ⟨#[95, 116, 119, 105, 110, 95, 114, 101, 95, 49]⟩ 668 (.ref 106), EN P ⟨#[116, 114, 97, 110, 115, 108, 97, 116, 101]⟩ 678 (.ref 113), EN P ⟨#[95, 115, 112, 101, 99, 105, 97, 108, 95, 99, 104, 97, 114, 115, 95, 109, 97, 112]⟩ 826 (.ref 115), EN P ⟨#[101, 115, 99, 97, 112, 101]⟩ 833 (.ref 125), EN P ⟨#[95, 116, 114, 97, 110, 115, 108, 97, 116, 101]⟩ 854 (.ref 132), EN P ⟨#[95, 106, 111, 105, 110, 95, 116, 114, 97, 110, 115, 108, 97, 116, 101, 100, 95, 112, 97, 114, 116, 115]⟩ 867 (.ref 139), EN P ⟨#[95, 112, 108, 97, 105, 110, 95, 110, 97, 109, 101]⟩ 878 (.ref 146), EN P ⟨#[65, 66, 67, 77, 101, 116, 97]⟩ 904 (.ref 163), EN P ⟨#[95, 65, 66, 67, 76, 105, 107, 101]⟩ 947 (.ref 196), EN P ⟨#[95, 97, 98, 99, 95, 112, 108, 97, 105, 110, 95, 109, 101, 116, 97]⟩ 954 (.ref 205), EN P ⟨#[102, 115, 112, 97, 116, 104]⟩ 966 (.ref 212), EN P ⟨#[95, 115, 112, 108, 105, 116, 101, 120, 116]⟩ 983 (.ref 219), EN P ⟨#[95, 99, 104, 101, 99, 107, 95, 97, 114, 103, 95, 116, 121, 112, 101, 115]⟩ 994 (.ref 226), EN P ⟨#[95, 103, 101, 116, 95, 115, 101, 112]⟩ 1003 (.ref 233), EN P ⟨#[106, 111, 105, 110]⟩ 1015 (.ref 240), EN P ⟨#[115, 112, 108, 105, 116]⟩ 1027 (.ref 247), EN P ⟨#[115, 112, 108, 105, 116, 101, 120, 116]⟩ 1036 (.ref 254)] 39), #[]⟩
noncomputable def o29v2 (P : Params) : Obj := ⟨.none, none, (.fields #[(.int 2 0), (.int 0 0), (.ref 37), (.int 5 0), (.int 0 0), (.ref 44), (.int 15 0), (.int 0 0), (.ref 56), (.int 23 0), (.int 0 0), (.ref 83), (.int 106 0), (.int 0 0), (.ref 100), (.int 133 0), (.int 0 0), (.ref 112), (.int 143 0), (.int 0 0), (.ref 124), (.int 150 0), (.int 0 0), (.ref 131), (.int 212 0), (.int 0 0), (.ref 138), (.int 240 0), (.int 0 0), (.ref 145), (.int 246 0), (.int 0 0), (.ref 152), (.int 251 0), (.int 0 0), (.ref 171), (.int 266 0), (.int 0 0), (.ref 204), (.int 270 0), (.int 0 0), (.ref 211), (.int 287 0), (.int 0 0), (.ref 218), (.int 304 0), (.int 0 0), (.ref 225), (.int 316 0), (.int 0 0), (.ref 232), (.int 321 0), (.int 0 0), (.ref 239), (.int 342 0), (.int 0 0), (.ref 246), (.int 352 0), (.int 0 0), (.ref 253)]), #[]⟩
noncomputable def o119 (P : Params) : Obj := ⟨(.type q3), none, (.seq #[] 0), #[]⟩
noncomputable def o120 (P : Params) : Obj := ⟨.none, none, (.fields #[]), #[]⟩
noncomputable def o121 (P : Params) : Obj := ⟨(.type q3), none, (.seq #[(.str ⟨#[112, 97, 116, 116, 101, 114, 110]⟩ 830)] 0), #[]⟩
noncomputable def o122 (P : Params) : Obj := ⟨(.type q3), none, (.seq #[] 0), #[]⟩
noncomputable def o123 (P : Params) : Obj := ⟨.none, none, (FN (ts 19) ⟨#[101, 115, 99, 97, 112, 101]⟩ 0 0 .none .none .none .none none .none .none 0), #[]⟩
noncomputable def o124 (P : Params) : Obj := ⟨(.type q4), none, (.fields #[(.str ⟨#[101, 115, 99, 97, 112, 101]⟩ 827), (.str ⟨#[101, 115, 99, 97, 112, 101]⟩ 828), (.str ⟨#[47, 99, 108, 97, 105, 109, 47, 99, 117, 116, 46, 112, 121]⟩ 829), (.int 143 0), (.int 1 0), (.int 0 0), (.int 0 0), (.int 3 0), (.ref 119), (.bool true), (.int 276 0), (.ref 120), .none, (.ref 121), (.ref 122), (.ref 123), (.int 831 0), (.int 143 0), (.str ⟨#[47, 99, 108, 97, 105, 109, 47, 99, 117, 116, 46, 112, 121]⟩ 832)]), #[]⟩
noncomputable def o125 (P : Params) : Obj := ⟨(.type q43), none, (FN (ts 19) ⟨#[101, 115, 99, 97, 112, 101]⟩ 3 0 .none .none .none (.str ⟨#[114, 101]⟩ 679) none (.ref 124) .none 0), #[]⟩
noncomputable def o126 (P : Params) : Obj := ⟨(.type q3), none, (.seq #[] 0), #[]⟩
noncomputable def o127 (P : Params) : Obj := ⟨.none, none, (.fields #[]), #[]⟩
noncomputable def o128 (P : Params) : Obj := ⟨(.type q3), none, (.seq #[(.str ⟨#[112, 97, 116]⟩ 839), (.str ⟨#[83, 84, 65, 82]⟩ 840), (.str ⟨#[81, 85, 69, 83, 84, 73, 79, 78, 95, 77, 65, 82, 75]⟩ 841), (.str ⟨#[114, 101, 115]⟩ 842), (.str ⟨#[97, 100, 100]⟩ 843), (.str ⟨#[105]⟩ 844), (.str ⟨#[110]⟩ 845), (.str ⟨#[99]⟩ 846), (.str ⟨#[106]⟩ 847), (.str ⟨#[115, 116, 117, 102, 102]⟩ 848), (.str ⟨#[99, 104, 117, 110, 107, 115]⟩ 849), (.str ⟨#[107]⟩ 850), (.str ⟨#[99, 104, 117, 110, 107]⟩ 851)] 0), #[]⟩
noncomputable def o129 (P : Params) : Obj := ⟨(.type q3), none, (.seq #[] 0), #[]⟩
noncomputable def o130 (P : Params) : Obj := ⟨.none, none, (FN (ts 21) ⟨#[95, 116, 114, 97, 110, 115, 108, 97, 116, 101]⟩ 0 0 .none .none .none .none none .none .none 0), #[]⟩
noncomputable def o131 (P : Params) : Obj := ⟨(.type q4), none, (.fields #[(.str ⟨#[95, 116, 114, 97, 110, 115, 108, 97, 116, 101]⟩ 836), (.str ⟨#[95, 116, 114, 97, 110, 115, 108, 97, 116, 101]⟩ 837), (.str ⟨#[47, 99, 108, 97, 105, 109, 47, 99, 117, 116, 46, 112, 121]⟩ 838), (.int 150 0), (.int 3 0), (.int 0 0), (.int 0 0), (.int 3 0), (.ref 126), (.bool true), (.int 276 0), (.ref 127), .none, (.ref 128), (.ref 129), (.ref 130), (.int 852 0), (.int 150 0), (.str ⟨#[47, 99, 108, 97, 105, 109, 47, 99, 117, 116, 46, 112, 121]⟩ 853)]), #[]⟩
noncomputable def o132 (P : Params) : Obj := ⟨(.type q43), none, (FN (ts 21) ⟨#[95, 116, 114, 97, 110, 115, 108, 97, 116, 101]⟩ 3 0 .none .none .none (.str ⟨#[99, 112, 121, 51, 49, 51, 46, 102, 110, 109, 97, 116, 99, 104]⟩ 834) none (.ref 131) .none 0), #[]⟩
noncomputable def o133 (P : Params) : Obj := ⟨(.type q3), none, (.seq #[] 0), #[]⟩
noncomputable def o134 (P : Params) : Obj := ⟨.none, none, (.fields #[]), #[]⟩
noncomputable def o135 (P : Params) : Obj := ⟨(.type q3), none, (.seq #[(.str ⟨#[105, 110, 112]⟩ 858), (.str ⟨#[83, 84, 65, 82]⟩ 859), (.str ⟨#[114, 101, 115]⟩ 860), (.str ⟨#[97, 100, 100]⟩ 861), (.str ⟨#[105]⟩ 862), (.str ⟨#[110]⟩ 863), (.str ⟨#[102, 105, 120, 101, 100]⟩ 864)] 0), #[]⟩
noncomputable def o136 (P : Params) : Obj := ⟨(.type q3), none, (.seq #[] 0), #[]⟩
noncomputable def o137 (P : Params) : Obj := ⟨.none, none, (FN (ts 22) ⟨#[95, 106, 111, 105, 110, 95, 116, 114, 97, 110, 115, 108, 97, 116, 101, 100, 95, 112, 97, 114, 116, 115]⟩ 0 0 .none .none .none .none none .none .none 0), #[]⟩
noncomputable def o138 (P : Params) : Obj := ⟨(.type q4), none, (.fields #[(.str ⟨#[95, 106, 111, 105, 110, 95, 116, 114, 97, 110, 115, 108, 97, 116, 101, 100, 95, 112, 97, 114, 116, 115]⟩ 855), (.str ⟨#[95, 106, 111, 105, 110, 95, 116, 114, 97, 110, 115, 108, 97, 116, 101, 100, 95, 112, 97, 114, 116, 115]⟩ 856), (.str ⟨#[47, 99, 108, 97, 105, 109, 47, 99, 117, 116, 46, 112, 121]⟩ 857), (.int 212 0), (.int 2 0), (.int 0 0), (.int 0 0), (.int 3 0), (.ref 133), (.bool true), (.int 276 0), (.ref 134), .none, (.ref 135), (.ref 136), (.ref 137), (.int 865 0), (.int 212 0), (.str ⟨#[47, 99, 108, 97, 105, 109, 47, 99, 117, 116, 46, 112, 121]⟩ 866)]), #[]⟩
noncomputable def o139 (P : Params) : Obj := ⟨(.type q43), none, (FN (ts 22) ⟨#[95, 106, 111, 105, 110, 95, 116, 114, 97, 110, 115, 108, 97, 116, 101, 100, 95, 112, 97, 114, 116, 115]⟩ 3 0 .none .none .none (.str ⟨#[99, 112, 121, 51, 49, 51, 46, 102, 110, 109, 97, 116, 99, 104]⟩ 834) none (.ref 138) .none 0), #[]⟩
noncomputable def o140 (P : Params) : Obj := ⟨(.type q3), none, (.seq #[] 0), #[]⟩
noncomputable def o141 (P : Params) : Obj := ⟨.none, none, (.fields #[]), #[]⟩
noncomputable def o142 (P : Params) : Obj := ⟨(.type q3), none, (.seq #[(.str ⟨#[120]⟩ 873), (.str ⟨#[119, 104, 97, 116]⟩ 874), (.str ⟨#[107, 105, 110, 100]⟩ 875)] 0), #[]⟩
noncomputable def o143 (P : Params) : Obj := ⟨(.type q3), none, (.seq #[] 0), #[]⟩
noncomputable def o144 (P : Params) : Obj := ⟨.none, none, (FN (ts 24) ⟨#[95, 112, 108, 97, 105, 110, 95, 110, 97, 109, 101]⟩ 0 0 .none .none .none .none none .none .none 0), #[]⟩
noncomputable def o145 (P : Params) : Obj := ⟨(.type q4), none, (.fields #[(.str ⟨#[95, 112, 108, 97, 105, 110, 95, 110, 97, 109, 101]⟩ 870), (.str ⟨#[95, 112, 108, 97, 105, 110, 95, 110, 97, 109, 101]⟩ 871), (.str ⟨#[47, 99, 108, 97, 105, 109, 47, 99, 117, 116, 46, 112, 121]⟩ 872), (.int 240 0), (.int 2 0), (.int 0 0), (.int 0 0), (.int 3 0), (.ref 140), (.bool true), (.int 276 0), (.ref 141), .none, (.ref 142), (.ref 143), (.ref 144), (.int 876 0), (.int 240 0), (.str ⟨#[47, 99, 108, 97, 105, 109, 47, 99, 117, 116, 46, 112, 121]⟩ 877)]), #[]⟩
noncomputable def o146 (P : Params) : Obj := ⟨(.type q43), none, (FN (ts 24) ⟨#[95, 112, 108, 97, 105, 110, 95, 110, 97, 109, 101]⟩ 3 0 .none .none .none (.str ⟨#[111, 115]⟩ 868) none (.ref 145) .none 0), #[]⟩
noncomputable def o147 (P : Params) : Obj := ⟨(.type q3), none, (.seq #[(.type q21)] 0), #[]⟩
noncomputable def o148 (P : Params) : Obj := ⟨(.type q47), none, (.fields #[(.builtin q48), (.type q21)]), #[]⟩
noncomputable def o149 (P : Params) : Obj := ⟨(.type q0), none, (.dict #[EN P ⟨#[95, 95, 109, 111, 100, 117, 108, 101, 95, 95]⟩ 888 (.str ⟨#[97, 98, 99]⟩ 879), EN P ⟨#[95, 95, 113, 117, 97, 108, 110, 97, 109, 101, 95, 95]⟩ 890 (.str ⟨#[65, 66, 67, 77, 101, 116, 97]⟩ 889), EN P ⟨#[95, 95, 102, 105, 114, 115, 116, 108, 105, 110, 101, 110, 111, 95, 95]⟩ 892 (.int 246 891), EN P ⟨#[114, 101, 103, 105, 115, 116, 101, 114]⟩ 900 (.ref 160), EN P ⟨#[95, 95, 115, 116, 97, 116, 105, 99, 95, 97, 116, 116, 114, 105, 98, 117, 116, 101, 115, 95, 95]⟩ 901 (.ref 161)] 5), #[]⟩
noncomputable def o150 (P : Params) : Obj := ⟨(.type q3), none, (.seq #[] 0), #[]⟩
noncomputable def o151 (P : Params) : Obj := ⟨.none, none, (.fields #[(.int 248 0), (.int 4 0), (.ref 159)]), #[]⟩
noncomputable def o152 (P : Params) : Obj := ⟨(.type q4), none, (.fields #[(.str ⟨#[65, 66, 67, 77, 101, 116, 97]⟩ 883), (.str ⟨#[65, 66, 67, 77, 101, 116, 97]⟩ 884), (.str ⟨#[47, 99, 108, 97, 105, 109, 47, 99, 117, 116, 46, 112, 121]⟩ 885), (.int 246 0), (.int 0 0), (.int 0 0), (.int 0 0), (.int 0 0), (.ref 150), (.bool false), (.int 276 0), (.ref 151), .none, .none, .none, .none, (.int 886 0), (.int 246 0), (.str ⟨#[47, 99, 108, 97, 105, 109, 47, 99, 117, 116, 46, 112, 121]⟩ 887)]), #[]⟩
noncomputable def o153 (P : Params) : Obj := ⟨(.type q5), none, .plain, #[some (.ref 152), some (.ref 3), some (.ref 149), none, some (.str ⟨#[97, 98, 99]⟩ 879), none, some (.ref 0)]⟩
noncomputable def o154 (P : Params) : Obj := ⟨(.type q3), none, (.seq #[] 0), #[]⟩
noncomputable def o155 (P : Params) : Obj := ⟨.none, none, (.fields #[]), #[]⟩
noncomputable def o156 (P : Params) : Obj := ⟨(.type q3), none, (.seq #[(.str ⟨#[99, 108, 115]⟩ 896), (.str ⟨#[115, 117, 98, 99, 108, 97, 115, 115]⟩ 897)] 0), #[]⟩
noncomputable def o157 (P : Params) : Obj := ⟨(.type q3), none, (.seq #[] 0), #[]⟩
noncomputable def o158 (P : Params) : Obj := ⟨.none, none, (FN (tc 26 0) ⟨#[65, 66, 67, 77, 101, 116, 97, 46, 114, 101, 103, 105, 115, 116, 101, 114]⟩ 0 0 .none .none .none .none none .none .none 0), #[]⟩
noncomputable def o159 (P : Params) : Obj := ⟨(.type q4), none, (.fields #[(.str ⟨#[114, 101, 103, 105, 115, 116, 101, 114]⟩ 893), (.str ⟨#[65, 66, 67, 77, 101, 116, 97, 46, 114, 101, 103, 105, 115, 116, 101, 114]⟩ 894), (.str ⟨#[47, 99, 108, 97, 105, 109, 47, 99, 117, 116, 46, 112, 121]⟩ 895), (.int 248 0), (.int 2 0), (.int 0 0), (.int 0 0), (.int 3 0), (.ref 154), (.bool true), (.int 276 0), (.ref 155), .none, (.ref 156), (.ref 157), (.ref 158), (.int 898 0), (.int 248 0), (.str ⟨#[47, 99, 108, 97, 105, 109, 47, 99, 117, 116, 46, 112, 121]⟩ 899)]), #[]⟩
noncomputable def o160 (P : Params) : Obj := ⟨(.type q43), none, (FN (tc 26 0) ⟨#[65, 66, 67, 77, 101, 116, 97, 46, 114, 101, 103, 105, 115, 116, 101, 114]⟩ 3 0 .none .none .none (.str ⟨#[97, 98, 99]⟩ 879) none (.ref 159) .none 0), #[]⟩
noncomputable def o161 (P : Params) : Obj := ⟨(.type q3), none, (.seq #[] 0), #[]⟩
noncomputable def o162 (P : Params) : Obj := ⟨(.type q0), none, (.dict #[EN P ⟨#[95, 95, 109, 111, 100, 117, 108, 101, 95, 95]⟩ 888 (.str ⟨#[97, 98, 99]⟩ 879), EN P ⟨#[95, 95, 102, 105, 114, 115, 116, 108, 105, 110, 101, 110, 111, 95, 95]⟩ 892 (.int 246 891), EN P ⟨#[114, 101, 103, 105, 115, 116, 101, 114]⟩ 900 (.ref 160), EN P ⟨#[95, 95, 115, 116, 97, 116, 105, 99, 95, 97, 116, 116, 114, 105, 98, 117, 116, 101, 115, 95, 95]⟩ 901 (.ref 161), EN P ⟨#[95, 95, 100, 111, 99, 95, 95]⟩ 902 .none] 2), #[]⟩
noncomputable def o163 (P : Params) : Obj := ⟨(.type q21), none, (.cls ⟨⟨#[65, 66, 67, 77, 101, 116, 97]⟩, [(.type q21)], [(.ref 163), (.type q21), (.type q22)], 162, ⟨#[65, 66, 67, 77, 101, 116, 97]⟩, true, [], [(.ref 196)], false, none, false⟩), #[some (.ref 147), none, some (.str ⟨#[65, 66, 67, 77, 101, 116, 97]⟩ 881), some (.str ⟨#[65, 66, 67, 77, 101, 116, 97]⟩ 889), some (.builtin q49), some (.bool true)]⟩
noncomputable def o164 (P : Params) : Obj := ⟨(.type q50), none, (.fields #[(.ref 163), (.ref 163), (.ref 163)]), #[]⟩
noncomputable def o165 (P : Params) : Obj := ⟨(.type q47), none, (.fields #[(.builtin q51), (.ref 163)]), #[]⟩
noncomputable def o166 (P : Params) : Obj := ⟨(.type q3), none, (.seq #[(.ref 163)] 0), #[]⟩
noncomputable def o167 (P : Params) : Obj := ⟨(.type q47), none, (.fields #[(.builtin q48), (.type q21)]), #[]⟩
noncomputable def o168 (P : Params) : Obj := ⟨(.type q0), none, (.dict #[EN P ⟨#[95, 95, 109, 111, 100, 117, 108, 101, 95, 95]⟩ 914 (.str ⟨#[99, 111, 108, 108, 101, 99, 116, 105, 111, 110, 115, 46, 97, 98, 99]⟩ 905), EN P ⟨#[95, 95, 113, 117, 97, 108, 110, 97, 109, 101, 95, 95]⟩ 916 (.str ⟨#[95, 65, 66, 67, 76, 105, 107, 101]⟩ 915), EN P ⟨#[95, 95, 102, 105, 114, 115, 116, 108, 105, 110, 101, 110, 111, 95, 95]⟩ 918 (.int 251 917), EN P ⟨#[95, 95, 105, 110, 115, 116, 97, 110, 99, 101, 99, 104, 101, 99, 107, 95, 95]⟩ 927 (.ref 179), EN P ⟨#[95, 95, 115, 117, 98, 99, 108, 97, 115, 115, 99, 104, 101, 99, 107, 95, 95]⟩ 935 (.ref 186), EN P ⟨#[114, 101, 103, 105, 115, 116, 101, 114]⟩ 943 (.ref 193), EN P ⟨#[95, 95, 115, 116, 97, 116, 105, 99, 95, 97, 116, 116, 114, 105, 98, 117, 116, 101, 115, 95, 95]⟩ 944 (.ref 194)] 7), #[]⟩
noncomputable def o169 (P : Params) : Obj := ⟨(.type q3), none, (.seq #[] 0), #[]⟩
noncomputable def o170 (P : Params) : Obj := ⟨.none, none, (.fields #[(.int 253 0), (.int 4 0), (.ref 178), (.int 259 0), (.int 4 0), (.ref 185), (.int 264 0), (.int 4 0), (.ref 192)]), #[]⟩
noncomputable def o171 (P : Params) : Obj := ⟨(.type q4), none, (.fields #[(.str ⟨#[95, 65, 66, 67, 76, 105, 107, 101]⟩ 909), (.str ⟨#[95, 65, 66, 67, 76, 105, 107, 101]⟩ 910), (.str ⟨#[47, 99, 108, 97, 105, 109, 47, 99, 117, 116, 46, 112, 121]⟩ 911), (.int 251 0), (.int 0 0), (.int 0 0), (.int 0 0), (.int 0 0), (.ref 169), (.bool false), (.int 276 0), (.ref 170), .none, .none, .none, .none, (.int 912 0), (.int 251 0), (.str ⟨#[47, 99, 108, 97, 105, 109, 47, 99, 117, 116, 46, 112, 121]⟩ 913)]), #[]⟩
noncomputable def o172 (P : Params) : Obj := ⟨(.type q5), none, .plain, #[some (.ref 171), some (.ref 3), some (.ref 168), none, some (.str ⟨#[99, 111, 108, 108, 101, 99, 116, 105, 111, 110, 115, 46, 97, 98, 99]⟩ 905), none, some (.ref 0)]⟩
noncomputable def o173 (P : Params) : Obj := ⟨(.type q3), none, (.seq #[] 0), #[]⟩
noncomputable def o174 (P : Params) : Obj := ⟨.none, none, (.fields #[]), #[]⟩
noncomputable def o175 (P : Params) : Obj := ⟨(.type q3), none, (.seq #[(.str ⟨#[99, 108, 115]⟩ 922), (.str ⟨#[105, 110, 115, 116, 97, 110, 99, 101]⟩ 923), (.str ⟨#[67]⟩ 924)] 0), #[]⟩
noncomputable def o176 (P : Params) : Obj := ⟨(.type q3), none, (.seq #[] 0), #[]⟩
noncomputable def o177 (P : Params) : Obj := ⟨.none, none, (FN (tc 28 0) ⟨#[95, 65, 66, 67, 76, 105, 107, 101, 46, 95, 95, 105, 110, 115, 116, 97, 110, 99, 101, 99, 104, 101, 99, 107, 95, 95]⟩ 0 0 .none .none .none .none none .none .none 0), #[]⟩
noncomputable def o178 (P : Params) : Obj := ⟨(.type q4), none, (.fields #[(.str ⟨#[95, 95, 105, 110, 115, 116, 97, 110, 99, 101, 99, 104, 101, 99, 107, 95, 95]⟩ 919), (.str ⟨#[95, 65, 66, 67, 76, 105, 107, 101, 46, 95, 95, 105, 110, 115, 116, 97, 110, 99, 101, 99, 104, 101, 99, 107, 95, 95]⟩ 920), (.str ⟨#[47, 99, 108, 97, 105, 109, 47, 99, 117, 116, 46, 112, 121]⟩ 921), (.int 253 0), (.int 2 0), (.int 0 0), (.int 0 0), (.int 3 0), (.ref 173), (.bool true), (.int 276 0), (.ref 174), .none, (.ref 175), (.ref 176), (.ref 177), (.int 925 0), (.int 253 0), (.str ⟨#[47, 99, 108, 97, 105, 109, 47, 99, 117, 116, 46, 112, 121]⟩ 926)]), #[]⟩
noncomputable def o179 (P : Params) : Obj := ⟨(.type q43), none, (FN (tc 28 0) ⟨#[95, 65, 66, 67, 76, 105, 107, 101, 46, 95, 95, 105, 110, 115, 116, 97, 110, 99, 101, 99, 104, 101, 99, 107, 95, 95]⟩ 3 0 .none .none .none (.str ⟨#[99, 111, 108, 108, 101, 99, 116, 105, 111, 110, 115, 46, 97, 98, 99]⟩ 905) none (.ref 178) .none 0), #[]⟩
noncomputable def o180 (P : Params) : Obj := ⟨(.type q3), none, (.seq #[] 0), #[]⟩
noncomputable def o181 (P : Params) : Obj := ⟨.none, none, (.fields #[]), #[]⟩
noncomputable def o182 (P : Params) : Obj := ⟨(.type q3), none, (.seq #[(.str ⟨#[99, 108, 115]⟩ 931), (.str ⟨#[67]⟩ 932)] 0), #[]⟩
noncomputable def o183 (P : Params) : Obj := ⟨(.type q3), none, (.seq #[] 0), #[]⟩
noncomputable def o184 (P : Params) : Obj := ⟨.none, none, (FN (tc 28 1) ⟨#[95, 65, 66, 67, 76, 105, 107, 101, 46, 95, 95, 115, 117, 98, 99, 108, 97, 115, 115, 99, 104, 101, 99, 107, 95, 95]⟩ 0 0 .none .none .none .none none .none .none 0), #[]⟩
noncomputable def o185 (P : Params) : Obj := ⟨(.type q4), none, (.fields #[(.str ⟨#[95, 95, 115, 117, 98, 99, 108, 97, 115, 115, 99, 104, 101, 99, 107, 95, 95]⟩ 928), (.str ⟨#[95, 65, 66, 67, 76, 105, 107, 101, 46, 95, 95, 115, 117, 98, 99, 108, 97, 115, 115, 99, 104, 101, 99, 107, 95, 95]⟩ 929), (.str ⟨#[47, 99, 108, 97, 105, 109, 47, 99, 117, 116, 46, 112, 121]⟩ 930), (.int 259 0), (.int 2 0), (.int 0 0), (.int 0 0), (.int 3 0), (.ref 180), (.bool true), (.int 276 0), (.ref 181), .none, (.ref 182), (.ref 183), (.ref 184), (.int 933 0), (.int 259 0), (.str ⟨#[47, 99, 108, 97, 105, 109, 47, 99, 117, 116, 46, 112, 121]⟩ 934)]), #[]⟩
noncomputable def o186 (P : Params) : Obj := ⟨(.type q43), none, (FN (tc 28 1) ⟨#[95, 65, 66, 67, 76, 105, 107, 101, 46, 95, 95, 115, 117, 98, 99, 108, 97, 115, 115, 99, 104, 101, 99, 107, 95, 95]⟩ 3 0 .none .none .none (.str ⟨#[99, 111, 108, 108, 101, 99, 116, 105, 111, 110, 115, 46, 97, 98, 99]⟩ 905) none (.ref 185) .none 0), #[]⟩
noncomputable def o187 (P : Params) : Obj := ⟨(.type q3), none, (.seq #[] 0), #[]⟩
noncomputable def o188 (P : Params) : Obj := ⟨.none, none, (.fields #[]), #[]⟩
noncomputable def o189 (P : Params) : Obj := ⟨(.type q3), none, (.seq #[(.str ⟨#[99, 108, 115]⟩ 939), (.str ⟨#[115, 117, 98, 99, 108, 97, 115, 115]⟩ 940)] 0), #[]⟩
noncomputable def o190 (P : Params) : Obj := ⟨(.type q3), none, (.seq #[] 0), #[]⟩
noncomputable def o191 (P : Params) : Obj := ⟨.none, none, (FN (tc 28 2) ⟨#[95, 65, 66, 67, 76, 105, 107, 101, 46, 114, 101, 103, 105, 115, 116, 101, 114]⟩ 0 0 .none .none .none .none none .none .none 0), #[]⟩
noncomputable def o192 (P : Params) : Obj := ⟨(.type q4), none, (.fields #[(.str ⟨#[114, 101, 103, 105, 115, 116, 101, 114]⟩ 936), (.str ⟨#[95, 65, 66, 67, 76, 105, 107, 101, 46, 114, 101, 103, 105, 115, 116, 101, 114]⟩ 937), (.str ⟨#[47, 99, 108, 97, 105, 109, 47, 99, 117, 116, 46, 112, 121]⟩ 938), (.int 264 0), (.int 2 0), (.int 0 0), (.int 0 0), (.int 3 0), (.ref 187), (.bool true), (.int 276 0), (.ref 188), .none, (.ref 189), (.ref 190), (.ref 191), (.int 941 0), (.int 264 0), (.str ⟨#[47, 99, 108, 97, 105, 109, 47, 99, 117, 116, 46, 112, 121]⟩ 942)]), #[]⟩
noncomputable def o193 (P : Params) : Obj := ⟨(.type q43), none, (FN (tc 28 2) ⟨#[95, 65, 66, 67, 76, 105, 107, 101, 46, 114, 101, 103, 105, 115, 116, 101, 114]⟩ 3 0 .none .none .none (.str ⟨#[99, 111, 108, 108, 101, 99, 116, 105, 111, 110, 115, 46, 97, 98, 99]⟩ 905) none (.ref 192) .none 0), #[]⟩
noncomputable def o194 (P : Params) : Obj := ⟨(.type q3), none, (.seq #[] 0), #[]⟩
noncomputable def o195 (P : Params) : Obj := ⟨(.type q0), none, (.dict #[EN P ⟨#[95, 95, 109, 111, 100, 117, 108, 101, 95, 95]⟩ 914 (.str ⟨#[99, 111, 108, 108, 101, 99, 116, 105, 111, 110, 115, 46, 97, 98, 99]⟩ 905), EN P ⟨#[95, 95, 102, 105, 114, 115, 116, 108, 105, 110, 101, 110, 111, 95, 95]⟩ 918 (.int 251 917), EN P ⟨#[95, 95, 105, 110, 115, 116, 97, 110, 99, 101, 99, 104, 101, 99, 107, 95, 95]⟩ 927 (.ref 179), EN P ⟨#[95, 95, 115, 117, 98, 99, 108, 97, 115, 115, 99, 104, 101, 99, 107, 95, 95]⟩ 935 (.ref 186), EN P ⟨#[114, 101, 103, 105, 115, 116, 101, 114]⟩ 943 (.ref 193), EN P ⟨#[95, 95, 115, 116, 97, 116, 105, 99, 95, 97, 116, 116, 114, 105, 98, 117, 116, 101, 115, 95, 95]⟩ 944 (.ref 194), EN P ⟨#[95, 95, 100, 111, 99, 95, 95]⟩ 945 .none] 2), #[]⟩
noncomputable def o196 (P : Params) : Obj := ⟨(.type q21), none, (.cls ⟨⟨#[95, 65, 66, 67, 76, 105, 107, 101]⟩, [(.ref 163)], [(.ref 196), (.ref 163), (.type q21), (.type q22)], 195, ⟨#[95, 65, 66, 67, 76, 105, 107, 101]⟩, true, [], [], false, none, false⟩), #[some (.ref 166), none, some (.str ⟨#[95, 65, 66, 67, 76, 105, 107, 101]⟩ 907), some (.str ⟨#[95, 65, 66, 67, 76, 105, 107, 101]⟩ 915), some (.builtin q49), some (.bool true)]⟩
noncomputable def o197 (P : Params) : Obj := ⟨(.type q50), none, (.fields #[(.ref 196), (.ref 196), (.ref 196)]), #[]⟩
noncomputable def o198 (P : Params) : Obj := ⟨(.type q47), none, (.fields #[(.builtin q51), (.ref 196)]), #[]⟩
noncomputable def o199 (P : Params) : Obj := ⟨(.type q3), none, (.seq #[] 0), #[]⟩
noncomputable def o200 (P : Params) : Obj := ⟨.none, none, (.fields #[]), #[]⟩
noncomputable def o201 (P : Params) : Obj := ⟨(.type q3), none, (.seq #[(.str ⟨#[67]⟩ 951)] 0), #[]⟩
noncomputable def o202 (P : Params) : Obj := ⟨(.type q3), none, (.seq #[] 0), #[]⟩
noncomputable def o203 (P : Params) : Obj := ⟨.none, none, (FN (ts 29) ⟨#[95, 97, 98, 99, 95, 112, 108, 97, 105, 110, 95, 109, 101, 116, 97]⟩ 0 0 .none .none .none .none none .none .none 0), #[]⟩
noncomputable def o204 (P : Params) : Obj := ⟨(.type q4), none, (.fields #[(.str ⟨#[95, 97, 98, 99, 95, 112, 108, 97, 105, 110, 95, 109, 101, 116, 97]⟩ 948), (.str ⟨#[95, 97, 98, 99, 95, 112, 108, 97, 105, 110, 95, 109, 101, 116, 97]⟩ 949), (.str ⟨#[47, 99, 108, 97, 105, 109, 47, 99, 117, 116, 46, 112, 121]⟩ 950), (.int 266 0), (.int 1 0), (.int 0 0), (.int 0 0), (.int 3 0), (.ref 199), (.bool true), (.int 276 0), (.ref 200), .none, (.ref 201), (.ref 202), (.ref 203), (.int 952 0), (.int 266 0), (.str ⟨#[47, 99, 108, 97, 105, 109, 47, 99, 117, 116, 46, 112, 121]⟩ 953)]), #[]⟩
noncomputable def o205 (P : Params) : Obj := ⟨(.type q43), none, (FN (ts 29) ⟨#[95, 97, 98, 99, 95, 112, 108, 97, 105, 110, 95, 109, 101, 116, 97]⟩ 3 0 .none .none .none (.str ⟨#[99, 111, 108, 108, 101, 99, 116, 105, 111, 110, 115, 46, 97, 98, 99]⟩ 905) none (.ref 204) .none 0), #[]⟩
noncomputable def o206 (P : Params) : Obj := ⟨(.type q3), none, (.seq #[] 0), #[]⟩
noncomputable def o207 (P : Params) : Obj := ⟨.none, none, (.fields #[]), #[]⟩
noncomputable def o208 (P : Params) : Obj := ⟨(.type q3), none, (.seq #[(.str ⟨#[112, 97, 116, 104]⟩ 960), (.str ⟨#[107, 105, 110, 100]⟩ 961), (.str ⟨#[104, 111, 111, 107]⟩ 962), (.str ⟨#[103, 105, 118, 101, 110]⟩ 963)] 0), #[]⟩
noncomputable def o209 (P : Params) : Obj := ⟨(.type q3), none, (.seq #[] 0), #[]⟩
noncomputable def o210 (P : Params) : Obj := ⟨.none, none, (FN (ts 31) ⟨#[102, 115, 112, 97, 116, 104]⟩ 0 0 .none .none .none .none none .none .none 0), #[]⟩
noncomputable def o211 (P : Params) : Obj := ⟨(.type q4), none, (.fields #[(.str ⟨#[102, 115, 112, 97, 116, 104]⟩ 957), (.str ⟨#[102, 115, 112, 97, 116, 104]⟩ 958), (.str ⟨#[47, 99, 108, 97, 105, 109, 47, 99, 117, 116, 46, 112, 121]⟩ 959), (.int 270 0), (.int 1 0), (.int 0 0), (.int 0 0), (.int 3 0), (.ref 206), (.bool true), (.int 276 0), (.ref 207), .none, (.ref 208), (.ref 209), (.ref 210), (.int 964 0), (.int 270 0), (.str ⟨#[47, 99, 108, 97, 105, 109, 47, 99, 117, 116, 46, 112, 121]⟩ 965)]), #[]⟩
noncomputable def o212 (P : Params) : Obj := ⟨(.type q43), none, (FN (ts 31) ⟨#[102, 115, 112, 97, 116, 104]⟩ 3 0 .none .none .none (.str ⟨#[111, 115]⟩ 955) none (.ref 211) .none 0), #[]⟩
noncomputable def o213 (P : Params) : Obj := ⟨(.type q3), none, (.seq #[] 0), #[]⟩
noncomputable def o214 (P : Params) : Obj := ⟨.none, none, (.fields #[]), #[]⟩
noncomputable def o215 (P : Params) : Obj := ⟨(.type q3), none, (.seq #[(.str ⟨#[112]⟩ 972), (.str ⟨#[115, 101, 112]⟩ 973), (.str ⟨#[97, 108, 116, 115, 101, 112]⟩ 974), (.str ⟨#[101, 120, 116, 115, 101, 112]⟩ 975), (.str ⟨#[115, 101, 112, 73, 110, 100, 101, 120]⟩ 976), (.str ⟨#[97, 108, 116, 115, 101, 112, 73, 110, 100, 101, 120]⟩ 977), (.str ⟨#[100, 111, 116, 73, 110, 100, 101, 120]⟩ 978), (.str ⟨#[102, 105, 108, 101, 110, 97, 109, 101, 73, 110, 100, 101, 120]⟩ 979)] 0), #[]⟩
noncomputable def o216 (P : Params) : Obj := ⟨(.type q3), none, (.seq #[] 0), #[]⟩
noncomputable def o217 (P : Params) : Obj := ⟨.none, none, (FN (ts 33) ⟨#[95, 115, 112, 108, 105, 116, 101, 120, 116]⟩ 0 0 .none .none .none .none none .none .none 0), #[]⟩
noncomputable def o218 (P : Params) : Obj := ⟨(.type q4), none, (.fields #[(.str ⟨#[95, 115, 112, 108, 105, 116, 101, 120, 116]⟩ 969), (.str ⟨#[95, 115, 112, 108, 105, 116, 101, 120, 116]⟩ 970), (.str ⟨#[47, 99, 108, 97, 105, 109, 47, 99, 117, 116, 46, 112, 121]⟩ 971), (.int 287 0), (.int 4 0), (.int 0 0), (.int 0 0), (.int 3 0), (.ref 213), (.bool true), (.int 276 0), (.ref 214), .none, (.ref 215), (.ref 216), (.ref 217), (.int 980 0), (.int 287 0), (.str ⟨#[47, 99, 108, 97, 105, 109, 47, 99, 117, 116, 46, 112, 121]⟩ 981)]), #[]⟩
noncomputable def o219 (P : Params) : Obj := ⟨(.type q43), none, (FN (ts 33) ⟨#[95, 115, 112, 108, 105, 116, 101, 120, 116]⟩ 3 0 .none .none (.str ⟨#[83, 112, 108, 105, 116, 32, 116, 104, 101, 32, 101, 120, 116, 101, 110, 115, 105, 111, 110, 32, 102, 114, 111, 109, 32, 97, 32, 112, 97, 116, 104, 110, 97, 109, 101, 46, 10, 10, 69, 120, 116, 101, 110, 115, 105, 111, 110, 32, 105, 115, 32, 101, 118, 101, 114, 121, 116, 104, 105, 110, 103, 32, 102, 114, 111, 109, 32, 116, 104, 101, 32, 108, 97, 115, 116, 32, 100, 111, 116, 32, 116, 111, 32, 116, 104, 101, 32, 101, 110, 100, 44, 32, 105, 103, 110, 111, 114, 105, 110, 103, 10, 108, 101, 97, 100, 105, 110, 103, 32, 100, 111, 116, 115, 46, 32, 32, 82, 101, 116, 117, 114, 110, 115, 32, 34, 40, 114, 111, 111, 116, 44, 32, 101, 120, 116, 41, 34, 59, 32, 101, 120, 116, 32, 109, 97, 121, 32, 98, 101, 32, 101, 109, 112, 116, 121, 46]⟩ 982) (.str ⟨#[99, 112, 121, 51, 49, 51, 46, 103, 101, 110, 101, 114, 105, 99, 112, 97, 116, 104]⟩ 967) none (.ref 218) .none 0), #[]⟩
noncomputable def o220 (P : Params) : Obj := ⟨(.type q3), none, (.seq #[] 0), #[]⟩
noncomputable def o221 (P : Params) : Obj := ⟨.none, none, (.fields #[]), #[]⟩
noncomputable def o222 (P : Params) : Obj := ⟨(.type q3), none, (.seq #[(.str ⟨#[102, 117, 110, 99, 110, 97, 109, 101]⟩ 987), (.str ⟨#[97, 114, 103, 115]⟩ 988), (.str ⟨#[104, 97, 115, 115, 116, 114]⟩ 989), (.str ⟨#[104, 97, 115, 98, 121, 116, 101, 115]⟩ 990), (.str ⟨#[115]⟩ 991)] 0), #[]⟩
noncomputable def o223 (P : Params) : Obj := ⟨(.type q3), none, (.seq #[] 0), #[]⟩
noncomputable def o224 (P : Params) : Obj := ⟨.none, none, (FN (ts 34) ⟨#[95, 99, 104, 101, 99, 107, 95, 97, 114, 103, 95, 116, 121, 112, 101, 115]⟩ 0 0 .none .none .none .none none .none .none 0), #[]⟩
noncomputable def o225 (P : Params) : Obj := ⟨(.type q4), none, (.fields #[(.str ⟨#[95, 99, 104, 101, 99, 107, 95, 97, 114, 103, 95, 116, 121, 112, 101, 115]⟩ 984), (.str ⟨#[95, 99, 104, 101, 99, 107, 95, 97, 114, 103, 95, 116, 121, 112, 101, 115]⟩ 985), (.str ⟨#[47, 99, 108, 97, 105, 109, 47, 99, 117, 116, 46, 112, 121]⟩ 986), (.int 304 0), (.int 1 0), (.int 0 0), (.int 0 0), (.int 7 0), (.ref 220), (.bool true), (.int 276 0), (.ref 221), .none, (.ref 222), (.ref 223), (.ref 224), (.int 992 0), (.int 304 0), (.str ⟨#[47, 99, 108, 97, 105, 109, 47, 99, 117, 116, 46, 112, 121]⟩ 993)]), #[]⟩
noncomputable def o226 (P : Params) : Obj := ⟨(.type q43), none, (FN (ts 34) ⟨#[95, 99, 104, 101, 99, 107, 95, 97, 114, 103, 95, 116, 121, 112, 101, 115]⟩ 3 0 .none .none .none (.str ⟨#[99, 112, 121, 51, 49, 51, 46, 103, 101, 110, 101, 114, 105, 99, 112, 97, 116, 104]⟩ 967) none (.ref 225) .none 0), #[]⟩
noncomputable def o227 (P : Params) : Obj := ⟨(.type q3), none, (.seq #[] 0), #[]⟩
noncomputable def o228 (P : Params) : Obj := ⟨.none, none, (.fields #[]), #[]⟩
noncomputable def o229 (P : Params) : Obj := ⟨(.type q3), none, (.seq #[(.str ⟨#[112, 97, 116, 104]⟩ 1000)] 0), #[]⟩
noncomputable def o230 (P : Params) : Obj := ⟨(.type q3), none, (.seq #[] 0), #[]⟩
noncomputable def o231 (P : Params) : Obj := ⟨.none, none, (FN (ts 36) ⟨#[95, 103, 101, 116, 95, 115, 101, 112]⟩ 0 0 .none .none .none .none none .none .none 0), #[]⟩
noncomputable def o232 (P : Params) : Obj := ⟨(.type q4), none, (.fields #[(.str ⟨#[95, 103, 101, 116, 95, 115, 101, 112]⟩ 997), (.str ⟨#[95, 103, 101, 116, 95, 115, 101, 112]⟩ 998), (.str ⟨#[47, 99, 108, 97, 105, 109, 47, 99, 117, 116, 46, 112, 121]⟩ 999), (.int 316 0), (.int 1 0), (.int 0 0), (.int 0 0), (.int 3 0), (.ref 227), (.bool true), (.int 276 0), (.ref 228), .none, (.ref 229), (.ref 230), (.ref 231), (.int 1001 0), (.int 316 0), (.str ⟨#[47, 99, 108, 97, 105, 109, 47, 99, 117, 116, 46, 112, 121]⟩ 1002)]), #[]⟩
noncomputable def o233 (P : Params) : Obj := ⟨(.type q43), none, (FN (ts 36) ⟨#[95, 103, 101, 116, 95, 115, 101, 112]⟩ 3 0 .none .none .none (.str ⟨#[99, 112, 121, 51, 49, 51, 46, 112, 111, 115, 105, 120, 112, 97, 116, 104]⟩ 995) none (.ref 232) .none 0), #[]⟩
noncomputable def o234 (P : Params) : Obj := ⟨(.type q3), none, (.seq #[] 0), #[]⟩
noncomputable def o235 (P : Params) : Obj := ⟨.none, none, (.fields #[]), #[]⟩
noncomputable def o236 (P : Params) : Obj := ⟨(.type q3), none, (.seq #[(.str ⟨#[97]⟩ 1007), (.str ⟨#[112]⟩ 1008), (.str ⟨#[115, 101, 112]⟩ 1009), (.str ⟨#[112, 97, 116, 104]⟩ 1010), (.str ⟨#[98]⟩ 1011)] 0), #[]⟩
noncomputable def o237 (P : Params) : Obj := ⟨(.type q3), none, (.seq #[] 0), #[]⟩
noncomputable def o238 (P : Params) : Obj := ⟨.none, none, (FN (ts 37) ⟨#[106, 111, 105, 110]⟩ 0 0 .none .none .none .none none .none .none 0), #[]⟩
noncomputable def o239 (P : Params) : Obj := ⟨(.type q4), none, (.fields #[(.str ⟨#[106, 111, 105, 110]⟩ 1004), (.str ⟨#[106, 111, 105, 110]⟩ 1005), (.str ⟨#[47, 99, 108, 97, 105, 109, 47, 99, 117, 116, 46, 112, 121]⟩ 1006), (.int 321 0), (.int 1 0), (.int 0 0), (.int 0 0), (.int 7 0), (.ref 234), (.bool true), (.int 276 0), (.ref 235), .none, (.ref 236), (.ref 237), (.ref 238), (.int 1012 0), (.int 321 0), (.str ⟨#[47, 99, 108, 97, 105, 109, 47, 99, 117, 116, 46, 112, 121]⟩ 1013)]), #[]⟩
noncomputable def o240 (P : Params) : Obj := ⟨(.type q43), none, (FN (ts 37) ⟨#[106, 111, 105, 110]⟩ 3 0 .none .none (.str ⟨#[74, 111, 105, 110, 32, 116, 119, 111, 32, 111, 114, 32, 109, 111, 114, 101, 32, 112, 97, 116, 104, 110, 97, 109, 101, 32, 99, 111, 109, 112, 111, 110, 101, 110, 116, 115, 44, 32, 105, 110, 115, 101, 114, 116, 105, 110, 103, 32, 39, 47, 39, 32, 97, 115, 32, 110, 101, 101, 100, 101, 100, 46, 10, 73, 102, 32, 97, 110, 121, 32, 99, 111, 109, 112, 111, 110, 101, 110, 116, 32, 105, 115, 32, 97, 110, 32, 97, 98, 115, 111, 108, 117, 116, 101, 32, 112, 97, 116, 104, 44, 32, 97, 108, 108, 32, 112, 114, 101, 118, 105, 111, 117, 115, 32, 112, 97, 116, 104, 32, 99, 111, 109, 112, 111, 110, 101, 110, 116, 115, 10, 119, 105, 108, 108, 32, 98, 101, 32, 100, 105, 115, 99, 97, 114, 100, 101, 100, 46, 32, 32, 65, 110, 32, 101, 109, 112, 116, 121, 32, 108, 97, 115, 116, 32, 112, 97, 114, 116, 32, 119, 105, 108, 108, 32, 114, 101, 115, 117, 108, 116, 32, 105, 110, 32, 97, 32, 112, 97, 116, 104, 32, 116, 104, 97, 116, 10, 101, 110, 100, 115, 32, 119, 105, 116, 104, 32, 97, 32, 115, 101, 112, 97, 114, 97, 116, 111, 114, 46]⟩ 1014) (.str ⟨#[99, 112, 121, 51, 49, 51, 46, 112, 111, 115, 105, 120, 112, 97, 116, 104]⟩ 995) none (.ref 239) .none 0), #[]⟩
noncomputable def o241 (P : Params) : Obj := ⟨(.type q3), none, (.seq #[] 0), #[]⟩
noncomputable def o242 (P : Params) : Obj := ⟨.none, none, (.fields #[]), #[]⟩
noncomputable def o243 (P : Params) : Obj := ⟨(.type q3), none, (.seq #[(.str ⟨#[112]⟩ 1019), (.str ⟨#[115, 101, 112]⟩ 1020), (.str ⟨#[105]⟩ 1021), (.str ⟨#[104, 101, 97, 100]⟩ 1022), (.str ⟨#[116, 97, 105, 108]⟩ 1023)] 0), #[]⟩
noncomputable def o244 (P : Params) : Obj := ⟨(.type q3), none, (.seq #[] 0), #[]⟩
noncomputable def o245 (P : Params) : Obj := ⟨.none, none, (FN (ts 38) ⟨#[115, 112, 108, 105, 116]⟩ 0 0 .none .none .none .none none .none .none 0), #[]⟩
noncomputable def o246 (P : Params) : Obj := ⟨(.type q4), none, (.fields #[(.str ⟨#[115, 112, 108, 105, 116]⟩ 1016), (.str ⟨#[115, 112, 108, 105, 116]⟩ 1017), (.str ⟨#[47, 99, 108, 97, 105, 109, 47, 99, 117, 116, 46, 112, 121]⟩ 1018), (.int 342 0), (.int 1 0), (.int 0 0), (.int 0 0), (.int 3 0), (.ref 241), (.bool true), (.int 276 0), (.ref 242), .none, (.ref 243), (.ref 244), (.ref 245), (.int 1024 0), (.int 342 0), (.str ⟨#[47, 99, 108, 97, 105, 109, 47, 99, 117, 116, 46, 112, 121]⟩ 1025)]), #[]⟩
noncomputable def o247 (P : Params) : Obj := ⟨(.type q43), none, (FN (ts 38) ⟨#[115, 112, 108, 105, 116]⟩ 3 0 .none .none (.str ⟨#[83, 112, 108, 105, 116, 32, 97, 32, 112, 97, 116, 104, 110, 97, 109, 101, 46, 32, 32, 82, 101, 116, 117, 114, 110, 115, 32, 116, 117, 112, 108, 101, 32, 34, 40, 104, 101, 97, 100, 44, 32, 116, 97, 105, 108, 41, 34, 32, 119, 104, 101, 114, 101, 32, 34, 116, 97, 105, 108, 34, 32, 105, 115, 10, 101, 118, 101, 114, 121, 116, 104, 105, 110, 103, 32, 97, 102, 116, 101, 114, 32, 116, 104, 101, 32, 102, 105, 110, 97, 108, 32, 115, 108, 97, 115, 104, 46, 32, 32, 69, 105, 116, 104, 101, 114, 32, 112, 97, 114, 116, 32, 109, 97, 121, 32, 98, 101, 32, 101, 109, 112, 116, 121, 46]⟩ 1026) (.str ⟨#[99, 112, 121, 51, 49, 51, 46, 112, 111, 115, 105, 120, 112, 97, 116, 104]⟩ 995) none (.ref 246) .none 0), #[]⟩
noncomputable def o248 (P : Params) : Obj := ⟨(.type q3), none, (.seq #[] 0), #[]⟩
noncomputable def o249 (P : Params) : Obj := ⟨.none, none, (.fields #[]), #[]⟩
noncomputable def o250 (P : Params) : Obj := ⟨(.type q3), none, (.seq #[(.str ⟨#[112]⟩ 1031), (.str ⟨#[115, 101, 112]⟩ 1032), (.str ⟨#[101, 120, 116, 115, 101, 112]⟩ 1033)] 0), #[]⟩
noncomputable def o251 (P : Params) : Obj := ⟨(.type q3), none, (.seq #[] 0), #[]⟩
noncomputable def o252 (P : Params) : Obj := ⟨.none, none, (FN (ts 39) ⟨#[115, 112, 108, 105, 116, 101, 120, 116]⟩ 0 0 .none .none .none .none none .none .none 0), #[]⟩
noncomputable def o253 (P : Params) : Obj := ⟨(.type q4), none, (.fields #[(.str ⟨#[115, 112, 108, 105, 116, 101, 120, 116]⟩ 1028), (.str ⟨#[115, 112, 108, 105, 116, 101, 120, 116]⟩ 1029), (.str ⟨#[47, 99, 108, 97, 105, 109, 47, 99, 117, 116, 46, 112, 121]⟩ 1030), (.int 352 0), (.int 1 0), (.int 0 0), (.int 0 0), (.int 3 0), (.ref 248), (.bool true), (.int 276 0), (.ref 249), .none, (.ref 250), (.ref 251), (.ref 252), (.int 1034 0), (.int 352 0), (.str ⟨#[47, 99, 108, 97, 105, 109, 47, 99, 117, 116, 46, 112, 121]⟩ 1035)]), #[]⟩
noncomputable def o254 (P : Params) : Obj := ⟨(.type q43), none, (FN (ts 39) ⟨#[115, 112, 108, 105, 116, 101, 120, 116]⟩ 3 0 .none .none .none (.str ⟨#[99, 112, 121, 51, 49, 51, 46, 112, 111, 115, 105, 120, 112, 97, 116, 104]⟩ 995) none (.ref 253) .none 0), #[]⟩
noncomputable def o254v1 (P : Params) : Obj := ⟨(.type q43), none, (FN (ts 39) ⟨#[115, 112, 108, 105, 116, 101, 120, 116]⟩ 3 0 .none .none (.str ⟨#[83, 112, 108, 105, 116, 32, 116, 104, 101, 32, 101, 120, 116, 101, 110, 115, 105, 111, 110, 32, 102, 114, 111, 109, 32, 97, 32, 112, 97, 116, 104, 110, 97, 109, 101, 46, 10, 10, 69, 120, 116, 101, 110, 115, 105, 111, 110, 32, 105, 115, 32, 101, 118, 101, 114, 121, 116, 104, 105, 110, 103, 32, 102, 114, 111, 109, 32, 116, 104, 101, 32, 108, 97, 115, 116, 32, 100, 111, 116, 32, 116, 111, 32, 116, 104, 101, 32, 101, 110, 100, 44, 32, 105, 103, 110, 111, 114, 105, 110, 103, 10, 108, 101, 97, 100, 105, 110, 103, 32, 100, 111, 116, 115, 46, 32, 32, 82, 101, 116, 117, 114, 110, 115, 32, 34, 40, 114, 111, 111, 116, 44, 32, 101, 120, 116, 41, 34, 59, 32, 101, 120, 116, 32, 109, 97, 121, 32, 98, 101, 32, 101, 109, 112, 116, 121, 46]⟩ 982) (.str ⟨#[99, 112, 121, 51, 49, 51, 46, 112, 111, 115, 105, 120, 112, 97, 116, 104]⟩ 995) none (.ref 253) .none 0), #[]⟩
noncomputable def o255 (P : Params) : Obj := ⟨(.type q5), none, (.dict #[EN P ⟨#[120]⟩ 1037 (.ref 219), EN P ⟨#[116]⟩ 1039 (.type q43), EN P ⟨#[102]⟩ 1052 (.ref 219)] 3), #[]⟩
noncomputable def o256 (P : Params) : Obj := ⟨(.type q3), none, (.seq #[(.str ⟨#[97, 98, 99]⟩ 1042), (.str ⟨#[99, 111, 108, 108, 101, 99, 116, 105, 111, 110, 115, 46, 97, 98, 99]⟩ 1043), (.str ⟨#[111, 115]⟩ 1044), (.str ⟨#[114, 101]⟩ 1045)] 0), #[]⟩
noncomputable def o257 (P : Params) : Obj := ⟨(.type q3), none, (.seq #[(.str ⟨#[97, 98, 99]⟩ 1060), (.str ⟨#[99, 111, 108, 108, 101, 99, 116, 105, 111, 110, 115, 46, 97, 98, 99]⟩ 1061), (.str ⟨#[111, 115]⟩ 1062), (.str ⟨#[114, 101]⟩ 1063)] 0), #[]⟩
noncomputable def o3v4 (P : Params) : Obj := ⟨(.type q0), none, (.dict #[EN P ⟨#[95, 95, 110, 97, 109, 101, 95, 95]⟩ 165 (.str ⟨#[108, 97, 119, 95, 105, 107, 48, 48, 55, 54, 95, 48, 49]⟩ 1072), EN P ⟨#[95, 95, 100, 111, 99, 95, 95]⟩ 166 .none, EN P ⟨#[95, 95, 112, 97, 99, 107, 97, 103, 101, 95, 95]⟩ 167 .none, EN P ⟨#[95, 95, 108, 111, 97, 100, 101, 114, 95, 95]⟩ 168 (.builtin q1), EN P ⟨#[95, 95, 115, 112, 101, 99, 95, 95]⟩ 169 .none, EN P ⟨#[95, 95, 97, 110, 110, 111, 116, 97, 116, 105, 111, 110, 115, 95, 95]⟩ 170 (.ref 6), EN P ⟨#[95, 95, 98, 117, 105, 108, 116, 105, 110, 115, 95, 95]⟩ 171 (.ref 4), EN P ⟨#[95, 95, 102, 105, 108, 101, 95, 95]⟩ 173 (.str ⟨#[47, 99, 108, 97, 105, 109, 47, 99, 117, 116, 46, 112, 121]⟩ 172), EN P ⟨#[95, 95, 99, 97, 99, 104, 101, 100, 95, 95]⟩ 174 .none, EN P ⟨#[95, 115, 114, 101]⟩ 275 (.ref 12), EN P ⟨#[95, 119, 97, 108, 108]⟩ 288 (.ref 38), EN P ⟨#[95, 112, 101, 95, 100, 111, 99]⟩ 297 (.ref 45), EN P ⟨#[95, 116, 119, 105, 110, 95, 114, 101, 95, 55]⟩ 327 (.ref 50), EN P ⟨#[117, 110, 109, 97, 116, 99, 104, 101, 100]⟩ 337 (.ref 57), EN P ⟨#[72, 69, 65, 68, 69, 82, 95, 84, 79, 75, 69, 78, 95, 82, 69]⟩ 385 (.ref 62), EN P ⟨#[72, 69, 65, 68, 69, 82, 95, 81, 85, 79, 84, 69, 68, 95, 86, 65, 76, 85, 69, 95, 82, 69]⟩ 463 (.ref 67), EN P ⟨#[72, 69, 65, 68, 69, 82, 95, 86, 65, 76, 85, 69, 95, 82, 69]⟩ 518 (.ref 72), EN P ⟨#[72, 69, 65, 68, 69, 82, 95, 69, 83, 67, 65, 80, 69, 95, 82, 69]⟩ 541 (.ref 77), EN P ⟨#[115, 112, 108, 105, 116, 95, 104, 101, 97, 100, 101, 114, 95, 119, 111, 114, 100, 115]⟩ 558 (.ref 84), EN P ⟨#[72, 69, 65, 68, 69, 82, 95, 74, 79, 73, 78, 95, 84, 79, 75, 69, 78, 95, 82, 69]⟩ 587 (.ref 89), EN P ⟨#[72, 69, 65, 68, 69, 82, 95, 74, 79, 73, 78, 95, 69, 83, 67, 65, 80, 69, 95, 82, 69]⟩ 615 (.ref 94), EN P ⟨#[106, 111, 105, 110, 95, 104, 101, 97, 100, 101, 114, 95, 119, 111, 114, 100, 115]⟩ 628 (.ref 101), EN P ⟨#[95, 116, 119, 105, 110, 95, 114, 101, 95, 49]⟩ 668 (.ref 106), EN P ⟨#[116, 114, 97, 110, 115, 108, 97, 116, 101]⟩ 678 (.ref 113), EN P ⟨#[95, 115, 112, 101, 99, 105, 97, 108, 95, 99, 104, 97, 114, 115, 95, 109, 97, 112]⟩ 826 (.ref 115), EN P ⟨#[101, 115, 99, 97, 112, 101]⟩ 833 (.ref 125), EN P ⟨#[95, 116, 114, 97, 110, 115, 108, 97, 116, 101]⟩ 854 (.ref 132), EN P ⟨#[95, 106, 111, 105, 110, 95, 116, 114, 97, 110, 115, 108, 97, 116, 101, 100, 95, 112, 97, 114, 116, 115]⟩ 867 (.ref 139), EN P ⟨#[95, 112, 108, 97, 105, 110, 95, 110, 97, 109, 101]⟩ 878 (.ref 146), EN P ⟨#[65, 66, 67, 77, 101, 116, 97]⟩ 904 (.ref 163), EN P ⟨#[95, 65, 66, 67, 76, 105, 107, 101]⟩ 947 (.ref 196), EN P ⟨#[95, 97, 98, 99, 95, 112, 108, 97, 105, 110, 95, 109, 101, 116, 97]⟩ 954 (.ref 205), EN P ⟨#[102, 115, 112, 97, 116, 104]⟩ 966 (.ref 212), EN P ⟨#[95, 115, 112, 108, 105, 116, 101, 120, 116]⟩ 983 (.ref 219), EN P ⟨#[95, 99, 104, 101, 99, 107, 95, 97, 114, 103, 95, 116, 121, 112, 101, 115]⟩ 994 (.ref 226), EN P ⟨#[95, 103, 101, 116, 95, 115, 101, 112]⟩ 1003 (.ref 233), EN P ⟨#[106, 111, 105, 110]⟩ 1015 (.ref 240), EN P ⟨#[115, 112, 108, 105, 116]⟩ 1027 (.ref 247), EN P ⟨#[115, 112, 108, 105, 116, 101, 120, 116]⟩ 1036 (.ref 254), EN P ⟨#[95, 108, 97, 119, 95, 112, 97, 116, 104, 115]⟩ 1079 (.ref 262), EN P ⟨#[95, 108, 97, 119, 95, 99, 117, 116]⟩ 1085 (.ref 267), EN P ⟨#[95, 108, 97, 119, 95, 101, 110, 100, 105, 110, 103]⟩ 1093 (.ref 274), EN P ⟨#[95, 108, 97, 119, 95, 103, 108, 117, 101, 100]⟩ 1101 (.ref 281), EN P ⟨#[95, 108, 97, 119, 95, 115, 112, 101, 108, 108, 101, 100]⟩ 1110 (.ref 288), EN P ⟨#[95, 108, 97, 119, 95, 108, 105, 115, 116, 115]⟩ 1116 (.ref 293), EN P ⟨#[95, 108, 97, 119, 95, 119, 114, 105, 116, 116, 101, 110]⟩ 1122 (.ref 298), EN P ⟨#[95, 108, 97, 119, 95, 115, 105, 103, 110]⟩ 1129 (.ref 305), EN P ⟨#[108, 97, 119]⟩ 1135 (.ref 310)] 48), #[]⟩
noncomputable def o29v3 (P : Params) : Obj := ⟨.none, none, (.fields #[(.int 2 0), (.int 0 0), (.ref 37), (.int 5 0), (.int 0 0), (.ref 44), (.int 15 0), (.int 0 0), (.ref 56), (.int 23 0), (.int 0 0), (.ref 83), (.int 106 0), (.int 0 0), (.ref 100), (.int 133 0), (.int 0 0), (.ref 112), (.int 143 0), (.int 0 0), (.ref 124), (.int 150 0), (.int 0 0), (.ref 131), (.int 212 0), (.int 0 0), (.ref 138), (.int 240 0), (.int 0 0), (.ref 145), (.int 246 0), (.int 0 0), (.ref 152), (.int 251 0), (.int 0 0), (.ref 171), (.int 266 0), (.int 0 0), (.ref 204), (.int 270 0), (.int 0 0), (.ref 211), (.int 287 0), (.int 0 0), (.ref 218), (.int 304 0), (.int 0 0), (.ref 225), (.int 316 0), (.int 0 0), (.ref 232), (.int 321 0), (.int 0 0), (.ref 239), (.int 342 0), (.int 0 0), (.ref 246), (.int 352 0), (.int 0 0), (.ref 253), (.int 363 0), (.int 0 0), (.ref 261), (.int 369 0), (.int 0 0), (.ref 266), (.int 377 0), (.int 0 0), (.ref 273), (.int 382 0), (.int 0 0), (.ref 280), (.int 386 0), (.int 0 0), (.ref 287), (.int 394 0), (.int 0 0), (.ref 292), (.int 404 0), (.int 0 0), (.ref 297), (.int 416 0), (.int 0 0), (.ref 304), (.int 426 0), (.int 0 0), (.ref 309)]), #[]⟩
noncomputable def o258 (P : Params) : Obj := ⟨(.type q3), none, (.seq #[] 0), #[]⟩
noncomputable def o259 (P : Params) : Obj := ⟨.none, none, (.fields #[]), #[]⟩
noncomputable def o260 (P : Params) : Obj := ⟨.none, none, (FN (ts 42) ⟨#[95, 108, 97, 119, 95, 112, 97, 116, 104, 115]⟩ 0 0 .none .none .none .none none .none .none 0), #[]⟩
noncomputable def o261 (P : Params) : Obj := ⟨(.type q4), none, (.fields #[(.str ⟨#[95, 108, 97, 119, 95, 112, 97, 116, 104, 115]⟩ 1074), (.str ⟨#[95, 108, 97, 119, 95, 112, 97, 116, 104, 115]⟩ 1075), (.str ⟨#[47, 99, 108, 97, 105, 109, 47, 99, 117, 116, 46, 112, 121]⟩ 1076), (.int 363 0), (.int 1 0), (.int 0 0), (.int 0 0), (.int 3 0), (.ref 258), (.bool true), (.int 276 0), (.ref 259), .none, .none, .none, (.ref 260), (.int 1077 0), (.int 363 0), (.str ⟨#[47, 99, 108, 97, 105, 109, 47, 99, 117, 116, 46, 112, 121]⟩ 1078)]), #[]⟩
noncomputable def o262 (P : Params) : Obj := ⟨(.type q43), none, (FN (ts 42) ⟨#[95, 108, 97, 119, 95, 112, 97, 116, 104, 115]⟩ 3 0 .none .none .none (.str ⟨#[108, 97, 119, 95, 105, 107, 48, 48, 55, 54, 95, 48, 49]⟩ 1072) none (.ref 261) .none 0), #[]⟩
noncomputable def o263 (P : Params) : Obj := ⟨(.type q3), none, (.seq #[] 0), #[]⟩
noncomputable def o264 (P : Params) : Obj := ⟨.none, none, (.fields #[]), #[]⟩
noncomputable def o265 (P : Params) : Obj := ⟨.none, none, (FN (ts 43) ⟨#[95, 108, 97, 119, 95, 99, 117, 116]⟩ 0 0 .none .none .none .none none .none .none 0), #[]⟩
noncomputable def o266 (P : Params) : Obj := ⟨(.type q4), none, (.fields #[(.str ⟨#[95, 108, 97, 119, 95, 99, 117, 116]⟩ 1080), (.str ⟨#[95, 108, 97, 119, 95, 99, 117, 116]⟩ 1081), (.str ⟨#[47, 99, 108, 97, 105, 109, 47, 99, 117, 116, 46, 112, 121]⟩ 1082), (.int 369 0), (.int 1 0), (.int 0 0), (.int 0 0), (.int 3 0), (.ref 263), (.bool true), (.int 276 0), (.ref 264), .none, .none, .none, (.ref 265), (.int 1083 0), (.int 369 0), (.str ⟨#[47, 99, 108, 97, 105, 109, 47, 99, 117, 116, 46, 112, 121]⟩ 1084)]), #[]⟩
noncomputable def o267 (P : Params) : Obj := ⟨(.type q43), none, (FN (ts 43) ⟨#[95, 108, 97, 119, 95, 99, 117, 116]⟩ 3 0 .none .none .none (.str ⟨#[108, 97, 119, 95, 105, 107, 48, 48, 55, 54, 95, 48, 49]⟩ 1072) none (.ref 266) .none 0), #[]⟩
noncomputable def o268 (P : Params) : Obj := ⟨(.type q3), none, (.seq #[] 0), #[]⟩
noncomputable def o269 (P : Params) : Obj := ⟨.none, none, (.fields #[]), #[]⟩
noncomputable def o270 (P : Params) : Obj := ⟨(.type q3), none, (.seq #[(.str ⟨#[110, 97, 109, 101]⟩ 1089), (.str ⟨#[98, 111, 100, 121]⟩ 1090)] 0), #[]⟩
noncomputable def o271 (P : Params) : Obj := ⟨(.type q3), none, (.seq #[] 0), #[]⟩
noncomputable def o272 (P : Params) : Obj := ⟨.none, none, (FN (ts 44) ⟨#[95, 108, 97, 119, 95, 101, 110, 100, 105, 110, 103]⟩ 0 0 .none .none .none .none none .none .none 0), #[]⟩
noncomputable def o273 (P : Params) : Obj := ⟨(.type q4), none, (.fields #[(.str ⟨#[95, 108, 97, 119, 95, 101, 110, 100, 105, 110, 103]⟩ 1086), (.str ⟨#[95, 108, 97, 119, 95, 101, 110, 100, 105, 110, 103]⟩ 1087), (.str ⟨#[47, 99, 108, 97, 105, 109, 47, 99, 117, 116, 46, 112, 121]⟩ 1088), (.int 377 0), (.int 1 0), (.int 0 0), (.int 0 0), (.int 3 0), (.ref 268), (.bool true), (.int 276 0), (.ref 269), .none, (.ref 270), (.ref 271), (.ref 272), (.int 1091 0), (.int 377 0), (.str ⟨#[47, 99, 108, 97, 105, 109, 47, 99, 117, 116, 46, 112, 121]⟩ 1092)]), #[]⟩
noncomputable def o274 (P : Params) : Obj := ⟨(.type q43), none, (FN (ts 44) ⟨#[95, 108, 97, 119, 95, 101, 110, 100, 105, 110, 103]⟩ 3 0 .none .none .none (.str ⟨#[108, 97, 119, 95, 105, 107, 48, 48, 55, 54, 95, 48, 49]⟩ 1072) none (.ref 273) .none 0), #[]⟩
noncomputable def o275 (P : Params) : Obj := ⟨(.type q3), none, (.seq #[] 0), #[]⟩
noncomputable def o276 (P : Params) : Obj := ⟨.none, none, (.fields #[]), #[]⟩
noncomputable def o277 (P : Params) : Obj := ⟨(.type q3), none, (.seq #[(.str ⟨#[102, 111, 108, 100, 101, 114]⟩ 1097), (.str ⟨#[110, 97, 109, 101]⟩ 1098)] 0), #[]⟩
noncomputable def o278 (P : Params) : Obj := ⟨(.type q3), none, (.seq #[] 0), #[]⟩
noncomputable def o279 (P : Params) : Obj := ⟨.none, none, (FN (ts 45) ⟨#[95, 108, 97, 119, 95, 103, 108, 117, 101, 100]⟩ 0 0 .none .none .none .none none .none .none 0), #[]⟩
noncomputable def o280 (P : Params) : Obj := ⟨(.type q4), none, (.fields #[(.str ⟨#[95, 108, 97, 119, 95, 103, 108, 117, 101, 100]⟩ 1094), (.str ⟨#[95, 108, 97, 119, 95, 103, 108, 117, 101, 100]⟩ 1095), (.str ⟨#[47, 99, 108, 97, 105, 109, 47, 99, 117, 116, 46, 112, 121]⟩ 1096), (.int 382 0), (.int 2 0), (.int 0 0), (.int 0 0), (.int 3 0), (.ref 275), (.bool true), (.int 276 0), (.ref 276), .none, (.ref 277), (.ref 278), (.ref 279), (.int 1099 0), (.int 382 0), (.str ⟨#[47, 99, 108, 97, 105, 109, 47, 99, 117, 116, 46, 112, 121]⟩ 1100)]), #[]⟩
noncomputable def o281 (P : Params) : Obj := ⟨(.type q43), none, (FN (ts 45) ⟨#[95, 108, 97, 119, 95, 103, 108, 117, 101, 100]⟩ 3 0 .none .none .none (.str ⟨#[108, 97, 119, 95, 105, 107, 48, 48, 55, 54, 95, 48, 49]⟩ 1072) none (.ref 280) .none 0), #[]⟩
noncomputable def o282 (P : Params) : Obj := ⟨(.type q3), none, (.seq #[] 0), #[]⟩
noncomputable def o283 (P : Params) : Obj := ⟨.none, none, (.fields #[]), #[]⟩
noncomputable def o284 (P : Params) : Obj := ⟨(.type q3), none, (.seq #[(.str ⟨#[116, 101, 120, 116]⟩ 1105), (.str ⟨#[115, 105, 103, 110, 115]⟩ 1106), (.str ⟨#[115, 105, 103, 110]⟩ 1107)] 0), #[]⟩
noncomputable def o285 (P : Params) : Obj := ⟨(.type q3), none, (.seq #[] 0), #[]⟩
noncomputable def o286 (P : Params) : Obj := ⟨.none, none, (FN (ts 46) ⟨#[95, 108, 97, 119, 95, 115, 112, 101, 108, 108, 101, 100]⟩ 0 0 .none .none .none .none none .none .none 0), #[]⟩
noncomputable def o287 (P : Params) : Obj := ⟨(.type q4), none, (.fields #[(.str ⟨#[95, 108, 97, 119, 95, 115, 112, 101, 108, 108, 101, 100]⟩ 1102), (.str ⟨#[95, 108, 97, 119, 95, 115, 112, 101, 108, 108, 101, 100]⟩ 1103), (.str ⟨#[47, 99, 108, 97, 105, 109, 47, 99, 117, 116, 46, 112, 121]⟩ 1104), (.int 386 0), (.int 1 0), (.int 0 0), (.int 0 0), (.int 3 0), (.ref 282), (.bool true), (.int 276 0), (.ref 283), .none, (.ref 284), (.ref 285), (.ref 286), (.int 1108 0), (.int 386 0), (.str ⟨#[47, 99, 108, 97, 105, 109, 47, 99, 117, 116, 46, 112, 121]⟩ 1109)]), #[]⟩
noncomputable def o288 (P : Params) : Obj := ⟨(.type q43), none, (FN (ts 46) ⟨#[95, 108, 97, 119, 95, 115, 112, 101, 108, 108, 101, 100]⟩ 3 0 .none .none .none (.str ⟨#[108, 97, 119, 95, 105, 107, 48, 48, 55, 54, 95, 48, 49]⟩ 1072) none (.ref 287) .none 0), #[]⟩
noncomputable def o289 (P : Params) : Obj := ⟨(.type q3), none, (.seq #[] 0), #[]⟩
noncomputable def o290 (P : Params) : Obj := ⟨.none, none, (.fields #[]), #[]⟩
noncomputable def o291 (P : Params) : Obj := ⟨.none, none, (FN (ts 47) ⟨#[95, 108, 97, 119, 95, 108, 105, 115, 116, 115]⟩ 0 0 .none .none .none .none none .none .none 0), #[]⟩
noncomputable def o292 (P : Params) : Obj := ⟨(.type q4), none, (.fields #[(.str ⟨#[95, 108, 97, 119, 95, 108, 105, 115, 116, 115]⟩ 1111), (.str ⟨#[95, 108, 97, 119, 95, 108, 105, 115, 116, 115]⟩ 1112), (.str ⟨#[47, 99, 108, 97, 105, 109, 47, 99, 117, 116, 46, 112, 121]⟩ 1113), (.int 394 0), (.int 1 0), (.int 0 0), (.int 0 0), (.int 3 0), (.ref 289), (.bool true), (.int 276 0), (.ref 290), .none, .none, .none, (.ref 291), (.int 1114 0), (.int 394 0), (.str ⟨#[47, 99, 108, 97, 105, 109, 47, 99, 117, 116, 46, 112, 121]⟩ 1115)]), #[]⟩
noncomputable def o293 (P : Params) : Obj := ⟨(.type q43), none, (FN (ts 47) ⟨#[95, 108, 97, 119, 95, 108, 105, 115, 116, 115]⟩ 3 0 .none .none .none (.str ⟨#[108, 97, 119, 95, 105, 107, 48, 48, 55, 54, 95, 48, 49]⟩ 1072) none (.ref 292) .none 0), #[]⟩
noncomputable def o294 (P : Params) : Obj := ⟨(.type q3), none, (.seq #[] 0), #[]⟩
noncomputable def o295 (P : Params) : Obj := ⟨.none, none, (.fields #[]), #[]⟩
noncomputable def o296 (P : Params) : Obj := ⟨.none, none, (FN (ts 48) ⟨#[95, 108, 97, 119, 95, 119, 114, 105, 116, 116, 101, 110]⟩ 0 0 .none .none .none .none none .none .none 0), #[]⟩
noncomputable def o297 (P : Params) : Obj := ⟨(.type q4), none, (.fields #[(.str ⟨#[95, 108, 97, 119, 95, 119, 114, 105, 116, 116, 101, 110]⟩ 1117), (.str ⟨#[95, 108, 97, 119, 95, 119, 114, 105, 116, 116, 101, 110]⟩ 1118), (.str ⟨#[47, 99, 108, 97, 105, 109, 47, 99, 117, 116, 46, 112, 121]⟩ 1119), (.int 404 0), (.int 1 0), (.int 0 0), (.int 0 0), (.int 3 0), (.ref 294), (.bool true), (.int 276 0), (.ref 295), .none, .none, .none, (.ref 296), (.int 1120 0), (.int 404 0), (.str ⟨#[47, 99, 108, 97, 105, 109, 47, 99, 117, 116, 46, 112, 121]⟩ 1121)]), #[]⟩
noncomputable def o298 (P : Params) : Obj := ⟨(.type q43), none, (FN (ts 48) ⟨#[95, 108, 97, 119, 95, 119, 114, 105, 116, 116, 101, 110]⟩ 3 0 .none .none .none (.str ⟨#[108, 97, 119, 95, 105, 107, 48, 48, 55, 54, 95, 48, 49]⟩ 1072) none (.ref 297) .none 0), #[]⟩
noncomputable def o299 (P : Params) : Obj := ⟨(.type q3), none, (.seq #[] 0), #[]⟩
noncomputable def o300 (P : Params) : Obj := ⟨.none, none, (.fields #[]), #[]⟩
noncomputable def o301 (P : Params) : Obj := ⟨(.type q3), none, (.seq #[(.str ⟨#[112, 97, 114, 116]⟩ 1126)] 0), #[]⟩
noncomputable def o302 (P : Params) : Obj := ⟨(.type q3), none, (.seq #[] 0), #[]⟩
noncomputable def o303 (P : Params) : Obj := ⟨.none, none, (FN (ts 49) ⟨#[95, 108, 97, 119, 95, 115, 105, 103, 110]⟩ 0 0 .none .none .none .none none .none .none 0), #[]⟩
noncomputable def o304 (P : Params) : Obj := ⟨(.type q4), none, (.fields #[(.str ⟨#[95, 108, 97, 119, 95, 115, 105, 103, 110]⟩ 1123), (.str ⟨#[95, 108, 97, 119, 95, 115, 105, 103, 110]⟩ 1124), (.str ⟨#[47, 99, 108, 97, 105, 109, 47, 99, 117, 116, 46, 112, 121]⟩ 1125), (.int 416 0), (.int 1 0), (.int 0 0), (.int 0 0), (.int 3 0), (.ref 299), (.bool true), (.int 276 0), (.ref 300), .none, (.ref 301), (.ref 302), (.ref 303), (.int 1127 0), (.int 416 0), (.str ⟨#[47, 99, 108, 97, 105, 109, 47, 99, 117, 116, 46, 112, 121]⟩ 1128)]), #[]⟩
noncomputable def o305 (P : Params) : Obj := ⟨(.type q43), none, (FN (ts 49) ⟨#[95, 108, 97, 119, 95, 115, 105, 103, 110]⟩ 3 0 .none .none .none (.str ⟨#[108, 97, 119, 95, 105, 107, 48, 48, 55, 54, 95, 48, 49]⟩ 1072) none (.ref 304) .none 0), #[]⟩
noncomputable def o306 (P : Params) : Obj := ⟨(.type q3), none, (.seq #[] 0), #[]⟩
noncomputable def o307 (P : Params) : Obj := ⟨.none, none, (.fields #[]), #[]⟩
noncomputable def o308 (P : Params) : Obj := ⟨.none, none, (FN (ts 50) ⟨#[108, 97, 119]⟩ 0 0 .none .none .none .none none .none .none 0), #[]⟩
noncomputable def o309 (P : Params) : Obj := ⟨(.type q4), none, (.fields #[(.str ⟨#[108, 97, 119]⟩ 1130), (.str ⟨#[108, 97, 119]⟩ 1131), (.str ⟨#[47, 99, 108, 97, 105, 109, 47, 99, 117, 116, 46, 112, 121]⟩ 1132), (.int 426 0), (.int 1 0), (.int 0 0), (.int 0 0), (.int 3 0), (.ref 306), (.bool true), (.int 276 0), (.ref 307), .none, .none, .none, (.ref 308), (.int 1133 0), (.int 426 0), (.str ⟨#[47, 99, 108, 97, 105, 109, 47, 99, 117, 116, 46, 112, 121]⟩ 1134)]), #[]⟩
noncomputable def o310 (P : Params) : Obj := ⟨(.type q43), none, (FN (ts 50) ⟨#[108, 97, 119]⟩ 3 0 .none .none .none (.str ⟨#[108, 97, 119, 95, 105, 107, 48, 48, 55, 54, 95, 48, 49]⟩ 1072) none (.ref 309) .none 0), #[]⟩
noncomputable def tr_imp (P : Params) : BT := (.node (o0 P) (.node (o1 P) (.node (o3 P) (.node (o7 P) (.node (o15 P) .nil .nil) (.node (o23 P) .nil .nil)) (.node (o11 P) (.node (o19 P) .nil .nil) (.node (o27 P) .nil .nil))) (.node (o5 P) (.node (o9 P) (.node (o17 P) .nil .nil) (.node (o25 P) .nil .nil)) (.node (o13 P) (.node (o21 P) .nil .nil) .nil))) (.node (o2 P) (.node (o4 P) (.node (o8 P) (.node (o16 P) .nil .nil) (.node (o24 P) .nil .nil)) (.node (o12 P) (.node (o20 P) .nil .nil) .nil)) (.node (o6 P) (.node (o10 P) (.node (o18 P) .nil .nil) (.node (o26 P) .nil .nil)) (.node (o14 P) (.node (o22 P) .nil .nil) .nil))))
noncomputable def tr_s0 (P : Params) : BT := (.node (o0 P) (.node (o1 P) (.node (o3 P) (.node (o7 P) (.node (o15 P) .nil .nil) (.node (o23 P) .nil .nil)) (.node (o11v1 P) (.node (o19 P) .nil .nil) (.node (o27 P) .nil .nil))) (.node (o5 P) (.node (o9 P) (.node (o17 P) .nil .nil) (.node (o25 P) .nil .nil)) (.node (o13 P) (.node (o21 P) .nil .nil) .nil))) (.node (o2 P) (.node (o4 P) (.node (o8 P) (.node (o16 P) .nil .nil) (.node (o24 P) .nil .nil)) (.node (o12 P) (.node (o20 P) .nil .nil) .nil)) (.node (o6 P) (.node (o10 P) (.node (o18 P) .nil .nil) (.node (o26 P) .nil .nil)) (.node (o14 P) (.node (o22 P) .nil .nil) .nil))))
noncomputable def tr_pre (P : Params) : BT := (.node (o0 P) (.node (o1 P) (.node (o3 P) (.node (o7 P) (.node (o15 P) (.node (o31 P) .nil .nil) .nil) (.node (o23 P) .nil .nil)) (.node (o11v1 P) (.node (o19 P) .nil .nil) (.node (o27 P) .nil .nil))) (.node (o5 P) (.node (o9 P) (.node (o17 P) .nil .nil) (.node (o25 P) .nil .nil)) (.node (o13 P) (.node (o21 P) .nil .nil) (.node (o29 P) .nil .nil)))) (.node (o2 P) (.node (o4 P) (.node (o8 P) (.node (o16 P) .nil .nil) (.node (o24 P) .nil .nil)) (.node (o12 P) (.node (o20 P) .nil .nil) (.node (o28 P) .nil .nil))) (.node (o6 P) (.node (o10 P) (.node (o18 P) .nil .nil) (.node (o26 P) .nil .nil)) (.node (o14 P) (.node (o22 P) .nil .nil) (.node (o30 P) .nil .nil)))))
noncomputable def tr_p16 (P : Params) : BT := (.node (o0 P) (.node (o1 P) (.node (o3v1 P) (.node (o7 P) (.node (o15 P) (.node (o31 P) (.node (o63 P) .nil .nil) (.node (o95 P) .nil .nil)) (.node (o47 P) (.node (o79 P) .nil .nil) (.node (o111 P) .nil .nil))) (.node (o23 P) (.node (o39 P) (.node (o71 P) .nil .nil) (.node (o103 P) .nil .nil)) (.node (o55 P) (.node (o87 P) .nil .nil) .nil))) (.node (o11v1 P) (.node (o19 P) (.node (o35 P) (.node (o67 P) .nil .nil) (.node (o99 P) .nil .nil)) (.node (o51 P) (.node (o83 P) .nil .nil) .nil)) (.node (o27 P) (.node (o43 P) (.node (o75 P) .nil .nil) (.node (o107 P) .nil .nil)) (.node (o59 P) (.node (o91 P) .nil .nil) .nil)))) (.node (o5 P) (.node (o9 P) (.node (o17 P) (.node (o33 P) (.node (o65 P) .nil .nil) (.node (o97 P) .nil .nil)) (.node (o49 P) (.node (o81 P) .nil .nil) (.node (o113 P) .nil .nil))) (.node (o25 P) (.node (o41 P) (.node (o73 P) .nil .nil) (.node (o105 P) .nil .nil)) (.node (o57 P) (.node (o89 P) .nil .nil) .nil))) (.node (o13 P) (.node (o21 P) (.node (o37 P) (.node (o69 P) .nil .nil) (.node (o101 P) .nil .nil)) (.node (o53 P) (.node (o85 P) .nil .nil) .nil)) (.node (o29v1 P) (.node (o45 P) (.node (o77 P) .nil .nil) (.node (o109 P) .nil .nil)) (.node (o61 P) (.node (o93 P) .nil .nil) .nil))))) (.node (o2 P) (.node (o4 P) (.node (o8 P) (.node (o16 P) (.node (o32 P) (.node (o64 P) .nil .nil) (.node (o96 P) .nil .nil)) (.node (o48 P) (.node (o80 P) .nil .nil) (.node (o112 P) .nil .nil))) (.node (o24 P) (.node (o40 P) (.node (o72 P) .nil .nil) (.node (o104 P) .nil .nil)) (.node (o56 P) (.node (o88 P) .nil .nil) .nil))) (.node (o12 P) (.node (o20 P) (.node (o36 P) (.node (o68 P) .nil .nil) (.node (o100 P) .nil .nil)) (.node (o52 P) (.node (o84 P) .nil .nil) .nil)) (.node (o28 P) (.node (o44 P) (.node (o76 P) .nil .nil) (.node (o108 P) .nil .nil)) (.node (o60 P) (.node (o92 P) .nil .nil) .nil)))) (.node (o6 P) (.node (o10 P) (.node (o18 P) (.node (o34 P) (.node (o66 P) .nil .nil) (.node (o98 P) .nil .nil)) (.node (o50 P) (.node (o82 P) .nil .nil) .nil)) (.node (o26 P) (.node (o42 P) (.node (o74 P) .nil .nil) (.node (o106 P) .nil .nil)) (.node (o58 P) (.node (o90 P) .nil .nil) .nil))) (.node (o14 P) (.node (o22 P) (.node (o38 P) (.node (o70 P) .nil .nil) (.node (o102 P) .nil .nil)) (.node (o54 P) (.node (o86 P) .nil .nil) .nil)) (.node (o30 P) (.node (o46 P) (.node (o78 P) .nil .nil) (.node (o110 P) .nil .nil)) (.node (o62 P) (.node (o94 P) .nil .nil) .nil))))))
noncomputable def tr_p17 (P : Params) : BT := (.node (o0 P) (.node (o1 P) (.node (o3v2 P) (.node (o7 P) (.node (o15 P) (.node (o31 P) (.node (o63 P) .nil .nil) (.node (o95 P) .nil .nil)) (.node (o47 P) (.node (o79 P) .nil .nil) (.node (o111 P) .nil .nil))) (.node (o23 P) (.node (o39 P) (.node (o71 P) .nil .nil) (.node (o103 P) .nil .nil)) (.node (o55 P) (.node (o87 P) .nil .nil) .nil))) (.node (o11v1 P) (.node (o19 P) (.node (o35 P) (.node (o67 P) .nil .nil) (.node (o99 P) .nil .nil)) (.node (o51 P) (.node (o83 P) .nil .nil) (.node (o115 P) .nil .nil))) (.node (o27 P) (.node (o43 P) (.node (o75 P) .nil .nil) (.node (o107 P) .nil .nil)) (.node (o59 P) (.node (o91 P) .nil .nil) .nil)))) (.node (o5 P) (.node (o9 P) (.node (o17 P) (.node (o33 P) (.node (o65 P) .nil .nil) (.node (o97 P) .nil .nil)) (.node (o49 P) (.node (o81 P) .nil .nil) (.node (o113 P) .nil .nil))) (.node (o25 P) (.node (o41 P) (.node (o73 P) .nil .nil) (.node (o105 P) .nil .nil)) (.node (o57 P) (.node (o89 P) .nil .nil) .nil))) (.node (o13 P) (.node (o21 P) (.node (o37 P) (.node (o69 P) .nil .nil) (.node (o101 P) .nil .nil)) (.node (o53 P) (.node (o85 P) .nil .nil) (.node (o117 P) .nil .nil))) (.node (o29v1 P) (.node (o45 P) (.node (o77 P) .nil .nil) (.node (o109 P) .nil .nil)) (.node (o61 P) (.node (o93 P) .nil .nil) .nil))))) (.node (o2 P) (.node (o4 P) (.node (o8 P) (.node (o16 P) (.node (o32 P) (.node (o64 P) .nil .nil) (.node (o96 P) .nil .nil)) (.node (o48 P) (.node (o80 P) .nil .nil) (.node (o112 P) .nil .nil))) (.node (o24 P) (.node (o40 P) (.node (o72 P) .nil .nil) (.node (o104 P) .nil .nil)) (.node (o56 P) (.node (o88 P) .nil .nil) .nil))) (.node (o12 P) (.node (o20 P) (.node (o36 P) (.node (o68 P) .nil .nil) (.node (o100 P) .nil .nil)) (.node (o52 P) (.node (o84 P) .nil .nil) (.node (o116 P) .nil .nil))) (.node (o28 P) (.node (o44 P) (.node (o76 P) .nil .nil) (.node (o108 P) .nil .nil)) (.node (o60 P) (.node (o92 P) .nil .nil) .nil)))) (.node (o6 P) (.node (o10 P) (.node (o18 P) (.node (o34 P) (.node (o66 P) .nil .nil) (.node (o98 P) .nil .nil)) (.node (o50 P) (.node (o82 P) .nil .nil) (.node (o114 P) .nil .nil))) (.node (o26 P) (.node (o42 P) (.node (o74 P) .nil .nil) (.node (o106 P) .nil .nil)) (.node (o58 P) (.node (o90 P) .nil .nil) .nil))) (.node (o14 P) (.node (o22 P) (.node (o38 P) (.node (o70 P) .nil .nil) (.node (o102 P) .nil .nil)) (.node (o54 P) (.node (o86 P) .nil .nil) (.node (o118 P) .nil .nil))) (.node (o30 P) (.node (o46 P) (.node (o78 P) .nil .nil) (.node (o110 P) .nil .nil)) (.node (o62 P) (.node (o94 P) .nil .nil) .nil))))))
noncomputable def tr_p38 (P : Params) : BT := (.node (o0 P) (.node (o1 P) (.node (o3v3 P) (.node (o7 P) (.node (o15 P) (.node (o31 P) (.node (o63 P) (.node (o127 P) .nil .nil) (.node (o191 P) .nil .nil)) (.node (o95 P) (.node (o159 P) .nil .nil) (.node (o223 P) .nil .nil))) (.node (o47 P) (.node (o79 P) (.node (o143 P) .nil .nil) (.node (o207 P) .nil .nil)) (.node (o111 P) (.node (o175 P) .nil .nil) (.node (o239 P) .nil .nil)))) (.node (o23 P) (.node (o39 P) (.node (o71 P) (.node (o135 P) .nil .nil) (.node (o199 P) .nil .nil)) (.node (o103 P) (.node (o167 P) .nil .nil) (.node (o231 P) .nil .nil))) (.node (o55 P) (.node (o87 P) (.node (o151 P) .nil .nil) (.node (o215 P) .nil .nil)) (.node (o119 P) (.node (o183 P) .nil .nil) (.node (o247 P) .nil .nil))))) (.node (o11v1 P) (.node (o19 P) (.node (o35 P) (.node (o67 P) (.node (o131 P) .nil .nil) (.node (o195 P) .nil .nil)) (.node (o99 P) (.node (o163 P) .nil .nil) (.node (o227 P) .nil .nil))) (.node (o51 P) (.node (o83 P) (.node (o147 P) .nil .nil) (.node (o211 P) .nil .nil)) (.node (o115 P) (.node (o179 P) .nil .nil) (.node (o243 P) .nil .nil)))) (.node (o27 P) (.node (o43 P) (.node (o75 P) (.node (o139 P) .nil .nil) (.node (o203 P) .nil .nil)) (.node (o107 P) (.node (o171 P) .nil .nil) (.node (o235 P) .nil .nil))) (.node (o59 P) (.node (o91 P) (.node (o155 P) .nil .nil) (.node (o219 P) .nil .nil)) (.node (o123 P) (.node (o187 P) .nil .nil) (.node (o251 P) .nil .nil)))))) (.node (o5 P) (.node (o9 P) (.node (o17 P) (.node (o33 P) (.node (o65 P) (.node (o129 P) .nil .nil) (.node (o193 P) .nil .nil)) (.node (o97 P) (.node (o161 P) .nil .nil) (.node (o225 P) .nil .nil))) (.node (o49 P) (.node (o81 P) (.node (o145 P) .nil .nil) (.node (o209 P) .nil .nil)) (.node (o113 P) (.node (o177 P) .nil .nil) (.node (o241 P) .nil .nil)))) (.node (o25 P) (.node (o41 P) (.node (o73 P) (.node (o137 P) .nil .nil) (.node (o201 P) .nil .nil)) (.node (o105 P) (.node (o169 P) .nil .nil) (.node (o233 P) .nil .nil))) (.node (o57 P) (.node (o89 P) (.node (o153 P) .nil .nil) (.node (o217 P) .nil .nil)) (.node (o121 P) (.node (o185 P) .nil .nil) (.node (o249 P) .nil .nil))))) (.node (o13 P) (.node (o21 P) (.node (o37 P) (.node (o69 P) (.node (o133 P) .nil .nil) (.node (o197 P) .nil .nil)) (.node (o101 P) (.node (o165 P) .nil .nil) (.node (o229 P) .nil .nil))) (.node (o53 P) (.node (o85 P) (.node (o149 P) .nil .nil) (.node (o213 P) .nil .nil)) (.node (o117 P) (.node (o181 P) .nil .nil) (.node (o245 P) .nil .nil)))) (.node (o29v2 P) (.node (o45 P) (.node (o77 P) (.node (o141 P) .nil .nil) (.node (o205 P) .nil .nil)) (.node (o109 P) (.node (o173 P) .nil .nil) (.node (o237 P) .nil .nil))) (.node (o61 P) (.node (o93 P) (.node (o157 P) .nil .nil) (.node (o221 P) .nil .nil)) (.node (o125 P) (.node (o189 P) .nil .nil) (.node (o253 P) .nil .nil))))))) (.node (o2 P) (.node (o4 P) (.node (o8 P) (.node (o16 P) (.node (o32 P) (.node (o64 P) (.node (o128 P) .nil .nil) (.node (o192 P) .nil .nil)) (.node (o96 P) (.node (o160 P) .nil .nil) (.node (o224 P) .nil .nil))) (.node (o48 P) (.node (o80 P) (.node (o144 P) .nil .nil) (.node (o208 P) .nil .nil)) (.node (o112 P) (.node (o176 P) .nil .nil) (.node (o240 P) .nil .nil)))) (.node (o24 P) (.node (o40 P) (.node (o72 P) (.node (o136 P) .nil .nil) (.node (o200 P) .nil .nil)) (.node (o104 P) (.node (o168 P) .nil .nil) (.node (o232 P) .nil .nil))) (.node (o56 P) (.node (o88 P) (.node (o152 P) .nil .nil) (.node (o216 P) .nil .nil)) (.node (o120 P) (.node (o184 P) .nil .nil) (.node (o248 P) .nil .nil))))) (.node (o12 P) (.node (o20 P) (.node (o36 P) (.node (o68 P) (.node (o132 P) .nil .nil) (.node (o196 P) .nil .nil)) (.node (o100 P) (.node (o164 P) .nil .nil) (.node (o228 P) .nil .nil))) (.node (o52 P) (.node (o84 P) (.node (o148 P) .nil .nil) (.node (o212 P) .nil .nil)) (.node (o116 P) (.node (o180 P) .nil .nil) (.node (o244 P) .nil .nil)))) (.node (o28 P) (.node (o44 P) (.node (o76 P) (.node (o140 P) .nil .nil) (.node (o204 P) .nil .nil)) (.node (o108 P) (.node (o172 P) .nil .nil) (.node (o236 P) .nil .nil))) (.node (o60 P) (.node (o92 P) (.node (o156 P) .nil .nil) (.node (o220 P) .nil .nil)) (.node (o124 P) (.node (o188 P) .nil .nil) (.node (o252 P) .nil .nil)))))) (.node (o6 P) (.node (o10 P) (.node (o18 P) (.node (o34 P) (.node (o66 P) (.node (o130 P) .nil .nil) (.node (o194 P) .nil .nil)) (.node (o98 P) (.node (o162 P) .nil .nil) (.node (o226 P) .nil .nil))) (.node (o50 P) (.node (o82 P) (.node (o146 P) .nil .nil) (.node (o210 P) .nil .nil)) (.node (o114 P) (.node (o178 P) .nil .nil) (.node (o242 P) .nil .nil)))) (.node (o26 P) (.node (o42 P) (.node (o74 P) (.node (o138 P) .nil .nil) (.node (o202 P) .nil .nil)) (.node (o106 P) (.node (o170 P) .nil .nil) (.node (o234 P) .nil .nil))) (.node (o58 P) (.node (o90 P) (.node (o154 P) .nil .nil) (.node (o218 P) .nil .nil)) (.node (o122 P) (.node (o186 P) .nil .nil) (.node (o250 P) .nil .nil))))) (.node (o14 P) (.node (o22 P) (.node (o38 P) (.node (o70 P) (.node (o134 P) .nil .nil) (.node (o198 P) .nil .nil)) (.node (o102 P) (.node (o166 P) .nil .nil) (.node (o230 P) .nil .nil))) (.node (o54 P) (.node (o86 P) (.node (o150 P) .nil .nil) (.node (o214 P) .nil .nil)) (.node (o118 P) (.node (o182 P) .nil .nil) (.node (o246 P) .nil .nil)))) (.node (o30 P) (.node (o46 P) (.node (o78 P) (.node (o142 P) .nil .nil) (.node (o206 P) .nil .nil)) (.node (o110 P) (.node (o174 P) .nil .nil) (.node (o238 P) .nil .nil))) (.node (o62 P) (.node (o94 P) (.node (o158 P) .nil .nil) (.node (o222 P) .nil .nil)) (.node (o126 P) (.node (o190 P) .nil .nil) (.node (o254 P) .nil .nil))))))))
noncomputable def tr_p39 (P : Params) : BT := (.node (o0 P) (.node (o1 P) (.node (o3v3 P) (.node (o7 P) (.node (o15 P) (.node (o31 P) (.node (o63 P) (.node (o127 P) (.node (o255 P) .nil .nil) .nil) (.node (o191 P) .nil .nil)) (.node (o95 P) (.node (o159 P) .nil .nil) (.node (o223 P) .nil .nil))) (.node (o47 P) (.node (o79 P) (.node (o143 P) .nil .nil) (.node (o207 P) .nil .nil)) (.node (o111 P) (.node (o175 P) .nil .nil) (.node (o239 P) .nil .nil)))) (.node (o23 P) (.node (o39 P) (.node (o71 P) (.node (o135 P) .nil .nil) (.node (o199 P) .nil .nil)) (.node (o103 P) (.node (o167 P) .nil .nil) (.node (o231 P) .nil .nil))) (.node (o55 P) (.node (o87 P) (.node (o151 P) .nil .nil) (.node (o215 P) .nil .nil)) (.node (o119 P) (.node (o183 P) .nil .nil) (.node (o247 P) .nil .nil))))) (.node (o11v1 P) (.node (o19 P) (.node (o35 P) (.node (o67 P) (.node (o131 P) .nil .nil) (.node (o195 P) .nil .nil)) (.node (o99 P) (.node (o163 P) .nil .nil) (.node (o227 P) .nil .nil))) (.node (o51 P) (.node (o83 P) (.node (o147 P) .nil .nil) (.node (o211 P) .nil .nil)) (.node (o115 P) (.node (o179 P) .nil .nil) (.node (o243 P) .nil .nil)))) (.node (o27 P) (.node (o43 P) (.node (o75 P) (.node (o139 P) .nil .nil) (.node (o203 P) .nil .nil)) (.node (o107 P) (.node (o171 P) .nil .nil) (.node (o235 P) .nil .nil))) (.node (o59 P) (.node (o91 P) (.node (o155 P) .nil .nil) (.node (o219 P) .nil .nil)) (.node (o123 P) (.node (o187 P) .nil .nil) (.node (o251 P) .nil .nil)))))) (.node (o5 P) (.node (o9 P) (.node (o17 P) (.node (o33 P) (.node (o65 P) (.node (o129 P) (.node (o257 P) .nil .nil) .nil) (.node (o193 P) .nil .nil)) (.node (o97 P) (.node (o161 P) .nil .nil) (.node (o225 P) .nil .nil))) (.node (o49 P) (.node (o81 P) (.node (o145 P) .nil .nil) (.node (o209 P) .nil .nil)) (.node (o113 P) (.node (o177 P) .nil .nil) (.node (o241 P) .nil .nil)))) (.node (o25 P) (.node (o41 P) (.node (o73 P) (.node (o137 P) .nil .nil) (.node (o201 P) .nil .nil)) (.node (o105 P) (.node (o169 P) .nil .nil) (.node (o233 P) .nil .nil))) (.node (o57 P) (.node (o89 P) (.node (o153 P) .nil .nil) (.node (o217 P) .nil .nil)) (.node (o121 P) (.node (o185 P) .nil .nil) (.node (o249 P) .nil .nil))))) (.node (o13 P) (.node (o21 P) (.node (o37 P) (.node (o69 P) (.node (o133 P) .nil .nil) (.node (o197 P) .nil .nil)) (.node (o101 P) (.node (o165 P) .nil .nil) (.node (o229 P) .nil .nil))) (.node (o53 P) (.node (o85 P) (.node (o149 P) .nil .nil) (.node (o213 P) .nil .nil)) (.node (o117 P) (.node (o181 P) .nil .nil) (.node (o245 P) .nil .nil)))) (.node (o29v2 P) (.node (o45 P) (.node (o77 P) (.node (o141 P) .nil .nil) (.node (o205 P) .nil .nil)) (.node (o109 P) (.node (o173 P) .nil .nil) (.node (o237 P) .nil .nil))) (.node (o61 P) (.node (o93 P) (.node (o157 P) .nil .nil) (.node (o221 P) .nil .nil)) (.node (o125 P) (.node (o189 P) .nil .nil) (.node (o253 P) .nil .nil))))))) (.node (o2 P) (.node (o4 P) (.node (o8 P) (.node (o16 P) (.node (o32 P) (.node (o64 P) (.node (o128 P) (.node (o256 P) .nil .nil) .nil) (.node (o192 P) .nil .nil)) (.node (o96 P) (.node (o160 P) .nil .nil) (.node (o224 P) .nil .nil))) (.node (o48 P) (.node (o80 P) (.node (o144 P) .nil .nil) (.node (o208 P) .nil .nil)) (.node (o112 P) (.node (o176 P) .nil .nil) (.node (o240 P) .nil .nil)))) (.node (o24 P) (.node (o40 P) (.node (o72 P) (.node (o136 P) .nil .nil) (.node (o200 P) .nil .nil)) (.node (o104 P) (.node (o168 P) .nil .nil) (.node (o232 P) .nil .nil))) (.node (o56 P) (.node (o88 P) (.node (o152 P) .nil .nil) (.node (o216 P) .nil .nil)) (.node (o120 P) (.node (o184 P) .nil .nil) (.node (o248 P) .nil .nil))))) (.node (o12 P) (.node (o20 P) (.node (o36 P) (.node (o68 P) (.node (o132 P) .nil .nil) (.node (o196 P) .nil .nil)) (.node (o100 P) (.node (o164 P) .nil .nil) (.node (o228 P) .nil .nil))) (.node (o52 P) (.node (o84 P) (.node (o148 P) .nil .nil) (.node (o212 P) .nil .nil)) (.node (o116 P) (.node (o180 P) .nil .nil) (.node (o244 P) .nil .nil)))) (.node (o28 P) (.node (o44 P) (.node (o76 P) (.node (o140 P) .nil .nil) (.node (o204 P) .nil .nil)) (.node (o108 P) (.node (o172 P) .nil .nil) (.node (o236 P) .nil .nil))) (.node (o60 P) (.node (o92 P) (.node (o156 P) .nil .nil) (.node (o220 P) .nil .nil)) (.node (o124 P) (.node (o188 P) .nil .nil) (.node (o252 P) .nil .nil)))))) (.node (o6 P) (.node (o10 P) (.node (o18 P) (.node (o34 P) (.node (o66 P) (.node (o130 P) .nil .nil) (.node (o194 P) .nil .nil)) (.node (o98 P) (.node (o162 P) .nil .nil) (.node (o226 P) .nil .nil))) (.node (o50 P) (.node (o82 P) (.node (o146 P) .nil .nil) (.node (o210 P) .nil .nil)) (.node (o114 P) (.node (o178 P) .nil .nil) (.node (o242 P) .nil .nil)))) (.node (o26 P) (.node (o42 P) (.node (o74 P) (.node (o138 P) .nil .nil) (.node (o202 P) .nil .nil)) (.node (o106 P) (.node (o170 P) .nil .nil) (.node (o234 P) .nil .nil))) (.node (o58 P) (.node (o90 P) (.node (o154 P) .nil .nil) (.node (o218 P) .nil .nil)) (.node (o122 P) (.node (o186 P) .nil .nil) (.node (o250 P) .nil .nil))))) (.node (o14 P) (.node (o22 P) (.node (o38 P) (.node (o70 P) (.node (o134 P) .nil .nil) (.node (o198 P) .nil .nil)) (.node (o102 P) (.node (o166 P) .nil .nil) (.node (o230 P) .nil .nil))) (.node (o54 P) (.node (o86 P) (.node (o150 P) .nil .nil) (.node (o214 P) .nil .nil)) (.node (o118 P) (.node (o182 P) .nil .nil) (.node (o246 P) .nil .nil)))) (.node (o30 P) (.node (o46 P) (.node (o78 P) (.node (o142 P) .nil .nil) (.node (o206 P) .nil .nil)) (.node (o110 P) (.node (o174 P) .nil .nil) (.node (o238 P) .nil .nil))) (.node (o62 P) (.node (o94 P) (.node (o158 P) .nil .nil) (.node (o222 P) .nil .nil)) (.node (o126 P) (.node (o190 P) .nil .nil) (.node (o254v1 P) .nil .nil))))))))
noncomputable def tr_fin (P : Params) : BT := (.node (o0 P) (.node (o1 P) (.node (o3v4 P) (.node (o7 P) (.node (o15 P) (.node (o31 P) (.node (o63 P) (.node (o127 P) (.node (o255 P) .nil .nil) .nil) (.node (o191 P) .nil .nil)) (.node (o95 P) (.node (o159 P) (.node (o287 P) .nil .nil) .nil) (.node (o223 P) .nil .nil))) (.node (o47 P) (.node (o79 P) (.node (o143 P) (.node (o271 P) .nil .nil) .nil) (.node (o207 P) .nil .nil)) (.node (o111 P) (.node (o175 P) (.node (o303 P) .nil .nil) .nil) (.node (o239 P) .nil .nil)))) (.node (o23 P) (.node (o39 P) (.node (o71 P) (.node (o135 P) (.node (o263 P) .nil .nil) .nil) (.node (o199 P) .nil .nil)) (.node (o103 P) (.node (o167 P) (.node (o295 P) .nil .nil) .nil) (.node (o231 P) .nil .nil))) (.node (o55 P) (.node (o87 P) (.node (o151 P) (.node (o279 P) .nil .nil) .nil) (.node (o215 P) .nil .nil)) (.node (o119 P) (.node (o183 P) .nil .nil) (.node (o247 P) .nil .nil))))) (.node (o11v1 P) (.node (o19 P) (.node (o35 P) (.node (o67 P) (.node (o131 P) (.node (o259 P) .nil .nil) .nil) (.node (o195 P) .nil .nil)) (.node (o99 P) (.node (o163 P) (.node (o291 P) .nil .nil) .nil) (.node (o227 P) .nil .nil))) (.node (o51 P) (.node (o83 P) (.node (o147 P) (.node (o275 P) .nil .nil) .nil) (.node (o211 P) .nil .nil)) (.node (o115 P) (.node (o179 P) (.node (o307 P) .nil .nil) .nil) (.node (o243 P) .nil .nil)))) (.node (o27 P) (.node (o43 P) (.node (o75 P) (.node (o139 P) (.node (o267 P) .nil .nil) .nil) (.node (o203 P) .nil .nil)) (.node (o107 P) (.node (o171 P) (.node (o299 P) .nil .nil) .nil) (.node (o235 P) .nil .nil))) (.node (o59 P) (.node (o91 P) (.node (o155 P) (.node (o283 P) .nil .nil) .nil) (.node (o219 P) .nil .nil)) (.node (o123 P) (.node (o187 P) .nil .nil) (.node (o251 P) .nil .nil)))))) (.node (o5 P) (.node (o9 P) (.node (o17 P) (.node (o33 P) (.node (o65 P) (.node (o129 P) (.node (o257 P) .nil .nil) .nil) (.node (o193 P) .nil .nil)) (.node (o97 P) (.node (o161 P) (.node (o289 P) .nil .nil) .nil) (.node (o225 P) .nil .nil))) (.node (o49 P) (.node (o81 P) (.node (o145 P) (.node (o273 P) .nil .nil) .nil) (.node (o209 P) .nil .nil)) (.node (o113 P) (.node (o177 P) (.node (o305 P) .nil .nil) .nil) (.node (o241 P) .nil .nil)))) (.node (o25 P) (.node (o41 P) (.node (o73 P) (.node (o137 P) (.node (o265 P) .nil .nil) .nil) (.node (o201 P) .nil .nil)) (.node (o105 P) (.node (o169 P) (.node (o297 P) .nil .nil) .nil) (.node (o233 P) .nil .nil))) (.node (o57 P) (.node (o89 P) (.node (o153 P) (.node (o281 P) .nil .nil) .nil) (.node (o217 P) .nil .nil)) (.node (o121 P) (.node (o185 P) .nil .nil) (.node (o249 P) .nil .nil))))) (.node (o13 P) (.node (o21 P) (.node (o37 P) (.node (o69 P) (.node (o133 P) (.node (o261 P) .nil .nil) .nil) (.node (o197 P) .nil .nil)) (.node (o101 P) (.node (o165 P) (.node (o293 P) .nil .nil) .nil) (.node (o229 P) .nil .nil))) (.node (o53 P) (.node (o85 P) (.node (o149 P) (.node (o277 P) .nil .nil) .nil) (.node (o213 P) .nil .nil)) (.node (o117 P) (.node (o181 P) (.node (o309 P) .nil .nil) .nil) (.node (o245 P) .nil .nil)))) (.node (o29v3 P) (.node (o45 P) (.node (o77 P) (.node (o141 P) (.node (o269 P) .nil .nil) .nil) (.node (o205 P) .nil .nil)) (.node (o109 P) (.node (o173 P) (.node (o301 P) .nil .nil) .nil) (.node (o237 P) .nil .nil))) (.node (o61 P) (.node (o93 P) (.node (o157 P) (.node (o285 P) .nil .nil) .nil) (.node (o221 P) .nil .nil)) (.node (o125 P) (.node (o189 P) .nil .nil) (.node (o253 P) .nil .nil))))))) (.node (o2 P) (.node (o4 P) (.node (o8 P) (.node (o16 P) (.node (o32 P) (.node (o64 P) (.node (o128 P) (.node (o256 P) .nil .nil) .nil) (.node (o192 P) .nil .nil)) (.node (o96 P) (.node (o160 P) (.node (o288 P) .nil .nil) .nil) (.node (o224 P) .nil .nil))) (.node (o48 P) (.node (o80 P) (.node (o144 P) (.node (o272 P) .nil .nil) .nil) (.node (o208 P) .nil .nil)) (.node (o112 P) (.node (o176 P) (.node (o304 P) .nil .nil) .nil) (.node (o240 P) .nil .nil)))) (.node (o24 P) (.node (o40 P) (.node (o72 P) (.node (o136 P) (.node (o264 P) .nil .nil) .nil) (.node (o200 P) .nil .nil)) (.node (o104 P) (.node (o168 P) (.node (o296 P) .nil .nil) .nil) (.node (o232 P) .nil .nil))) (.node (o56 P) (.node (o88 P) (.node (o152 P) (.node (o280 P) .nil .nil) .nil) (.node (o216 P) .nil .nil)) (.node (o120 P) (.node (o184 P) .nil .nil) (.node (o248 P) .nil .nil))))) (.node (o12 P) (.node (o20 P) (.node (o36 P) (.node (o68 P) (.node (o132 P) (.node (o260 P) .nil .nil) .nil) (.node (o196 P) .nil .nil)) (.node (o100 P) (.node (o164 P) (.node (o292 P) .nil .nil) .nil) (.node (o228 P) .nil .nil))) (.node (o52 P) (.node (o84 P) (.node (o148 P) (.node (o276 P) .nil .nil) .nil) (.node (o212 P) .nil .nil)) (.node (o116 P) (.node (o180 P) (.node (o308 P) .nil .nil) .nil) (.node (o244 P) .nil .nil)))) (.node (o28 P) (.node (o44 P) (.node (o76 P) (.node (o140 P) (.node (o268 P) .nil .nil) .nil) (.node (o204 P) .nil .nil)) (.node (o108 P) (.node (o172 P) (.node (o300 P) .nil .nil) .nil) (.node (o236 P) .nil .nil))) (.node (o60 P) (.node (o92 P) (.node (o156 P) (.node (o284 P) .nil .nil) .nil) (.node (o220 P) .nil .nil)) (.node (o124 P) (.node (o188 P) .nil .nil) (.node (o252 P) .nil .nil)))))) (.node (o6 P) (.node (o10 P) (.node (o18 P) (.node (o34 P) (.node (o66 P) (.node (o130 P) (.node (o258 P) .nil .nil) .nil) (.node (o194 P) .nil .nil)) (.node (o98 P) (.node (o162 P) (.node (o290 P) .nil .nil) .nil) (.node (o226 P) .nil .nil))) (.node (o50 P) (.node (o82 P) (.node (o146 P) (.node (o274 P) .nil .nil) .nil) (.node (o210 P) .nil .nil)) (.node (o114 P) (.node (o178 P) (.node (o306 P) .nil .nil) .nil) (.node (o242 P) .nil .nil)))) (.node (o26 P) (.node (o42 P) (.node (o74 P) (.node (o138 P) (.node (o266 P) .nil .nil) .nil) (.node (o202 P) .nil .nil)) (.node (o106 P) (.node (o170 P) (.node (o298 P) .nil .nil) .nil) (.node (o234 P) .nil .nil))) (.node (o58 P) (.node (o90 P) (.node (o154 P) (.node (o282 P) .nil .nil) .nil) (.node (o218 P) .nil .nil)) (.node (o122 P) (.node (o186 P) .nil .nil) (.node (o250 P) .nil .nil))))) (.node (o14 P) (.node (o22 P) (.node (o38 P) (.node (o70 P) (.node (o134 P) (.node (o262 P) .nil .nil) .nil) (.node (o198 P) .nil .nil)) (.node (o102 P) (.node (o166 P) (.node (o294 P) .nil .nil) .nil) (.node (o230 P) .nil .nil))) (.node (o54 P) (.node (o86 P) (.node (o150 P) (.node (o278 P) .nil .nil) .nil) (.node (o214 P) .nil .nil)) (.node (o118 P) (.node (o182 P) (.node (o310 P) .nil .nil) .nil) (.node (o246 P) .nil .nil)))) (.node (o30 P) (.node (o46 P) (.node (o78 P) (.node (o142 P) (.node (o270 P) .nil .nil) .nil) (.node (o206 P) .nil .nil)) (.node (o110 P) (.node (o174 P) (.node (o302 P) .nil .nil) .nil) (.node (o238 P) .nil .nil))) (.node (o62 P) (.node (o94 P) (.node (o158 P) (.node (o286 P) .nil .nil) .nil) (.node (o222 P) .nil .nil)) (.node (o126 P) (.node (o190 P) .nil .nil) (.node (o254v1 P) .nil .nil))))))))
end
end
section
set_option maxHeartbeats 8000000
open PySem PySem.W PyProof.Rows
noncomputable section
noncomputable abbrev tSeg := PySem.W.Fast.tw10110043849684766642
noncomputable abbrev tGo := PySem.W.Fast.tw15667345088766844465
noncomputable abbrev tDen := PySem.W.Fast.tw11892475500146522536
noncomputable abbrev tRun := PySem.W.Fast.tw14082659384304107361
noncomputable def tE : Env := { scope := tP.main.scope, locals := mainNs, globals := mainNs, cells := [], code := .ref 30, frame := some 31 }
noncomputable def tB : List Stmt := behindTheImports tP
noncomputable def tC : Code := .body tB tE
noncomputable def hp_s0 (P : Params) : Heap := ⟨#[o0 P, o1 P, o2 P, o3 P, o4 P, o5 P, o6 P, o7 P, o8 P, o9 P, o10 P, o11v1 P, o12 P, o13 P, o14 P, o15 P, o16 P, o17 P, o18 P, o19 P, o20 P, o21 P, o22 P, o23 P, o24 P, o25 P, o26 P, o27 P], {}⟩
noncomputable def hp_pre (P : Params) : Heap := ⟨#[o0 P, o1 P, o2 P, o3 P, o4 P, o5 P, o6 P, o7 P, o8 P, o9 P, o10 P, o11v1 P, o12 P, o13 P, o14 P, o15 P, o16 P, o17 P, o18 P, o19 P, o20 P, o21 P, o22 P, o23 P, o24 P, o25 P, o26 P, o27 P, o28 P, o29 P, o30 P, o31 P], {}⟩
noncomputable def hp_fin (P : Params) : Heap := ⟨#[o0 P, o1 P, o2 P, o3v4 P, o4 P, o5 P, o6 P, o7 P, o8 P, o9 P, o10 P, o11v1 P, o12 P, o13 P, o14 P, o15 P, o16 P, o17 P, o18 P, o19 P, o20 P, o21 P, o22 P, o23 P, o24 P, o25 P, o26 P, o27 P, o28 P, o29v3 P, o30 P, o31 P, o32 P, o33 P, o34 P, o35 P, o36 P, o37 P, o38 P, o39 P, o40 P, o41 P, o42 P, o43 P, o44 P, o45 P, o46 P, o47 P, o48 P, o49 P, o50 P, o51 P, o52 P, o53 P, o54 P, o55 P, o56 P, o57 P, o58 P, o59 P, o60 P, o61 P, o62 P, o63 P, o64 P, o65 P, o66 P, o67 P, o68 P, o69 P, o70 P, o71 P, o72 P, o73 P, o74 P, o75 P, o76 P, o77 P, o78 P, o79 P, o80 P, o81 P, o82 P, o83 P, o84 P, o85 P, o86 P, o87 P, o88 P, o89 P, o90 P, o91 P, o92 P, o93 P, o94 P, o95 P, o96 P, o97 P, o98 P, o99 P, o100 P, o101 P, o102 P, o103 P, o104 P, o105 P, o106 P, o107 P, o108 P, o109 P, o110 P, o111 P, o112 P, o113 P, o114 P, o115 P, o116 P, o117 P, o118 P, o119 P, o120 P, o121 P, o122 P, o123 P, o124 P, o125 P, o126 P, o127 P, o128 P, o129 P, o130 P, o131 P, o132 P, o133 P, o134 P, o135 P, o136 P, o137 P, o138 P, o139 P, o140 P, o141 P, o142 P, o143 P, o144 P, o145 P, o146 P, o147 P, o148 P, o149 P, o150 P, o151 P, o152 P, o153 P, o154 P, o155 P, o156 P, o157 P, o158 P, o159 P, o160 P, o161 P, o162 P, o163 P, o164 P, o165 P, o166 P, o167 P, o168 P, o169 P, o170 P, o171 P, o172 P, o173 P, o174 P, o175 P, o176 P, o177 P, o178 P, o179 P, o180 P, o181 P, o182 P, o183 P, o184 P, o185 P, o186 P, o187 P, o188 P, o189 P, o190 P, o191 P, o192 P, o193 P, o194 P, o195 P, o196 P, o197 P, o198 P, o199 P, o200 P, o201 P, o202 P, o203 P, o204 P, o205 P, o206 P, o207 P, o208 P, o209 P, o210 P, o211 P, o212 P, o213 P, o214 P, o215 P, o216 P, o217 P, o218 P, o219 P, o220 P, o221 P, o222 P, o223 P, o224 P, o225 P, o226 P, o227 P, o228 P, o229 P, o230 P, o231 P, o232 P, o233 P, o234 P, o235 P, o236 P, o237 P, o238 P, o239 P, o240 P, o241 P, o242 P, o243 P, o244 P, o245 P, o246 P, o247 P, o248 P, o249 P, o250 P, o251 P, o252 P, o253 P, o254v1 P, o255 P, o256 P, o257 P, o258 P, o259 P, o260 P, o261 P, o262 P, o263 P, o264 P, o265 P, o266 P, o267 P, o268 P, o269 P, o270 P, o271 P, o272 P, o273 P, o274 P, o275 P, o276 P, o277 P, o278 P, o279 P, o280 P, o281 P, o282 P, o283 P, o284 P, o285 P, o286 P, o287 P, o288 P, o289 P, o290 P, o291 P, o292 P, o293 P, o294 P, o295 P, o296 P, o297 P, o298 P, o299 P, o300 P, o301 P, o302 P, o303 P, o304 P, o305 P, o306 P, o307 P, o308 P, o309 P, o310 P], {}⟩
noncomputable def p0 : Pos := ⟨0, 0, 0, 0⟩
end
end
section
set_option maxHeartbeats 8000000
open PySem PySem.W PyProof.Rows
noncomputable section
noncomputable def s00 (s : Shared) : SharedT := ⟨.nil, 0, s.heap.life, s.gens, s.drawn, s.toks, s.os⟩
noncomputable def endOf (x : SharedT × Thread) : Option SharedT := match x.2.atExitBegin with | some [] => some x.1 | _ => none
theorem a_open : ∀ w : World, (tImp tT (opening tP) w 798 (s00 (start (opening tP)).1) (start (opening tP)).2).bind endOf = some ⟨tr_imp w.params, 28, {}, #[], {}, 276, (start (opening tP)).1.os⟩ := by intro w; kernel_rfl
end
end
section
set_option maxHeartbeats 8000000
open PySem PySem.W PyProof.Rows
theorem a_fin : ∀ (w : World) (os : OsState), tRun tT tP w 28 (some (.ref 6)) 2 ⟨hp_fin w.params, #[], {}, 1136, os⟩ ⟨doneF .next, tC, ⟨426, 0, 459, 22⟩, [topFrame p0]⟩ = some ⟨hp_fin w.params, #[], {}, 1136, os⟩ := by intro w os; kernel_rfl
theorem e_pre (P : Params) : absHeap (tr_pre P) 32 {} = hp_pre P := by kernel_rfl
theorem e_fin (P : Params) : absHeap (tr_fin P) 311 {} = hp_fin P := by kernel_rfl
theorem e_start : (s00 (start (opening tP)).1).abs = (start (opening tP)).1 := by kernel_rfl
theorem te_T : treeTable = tT := PySem.W.Fast.te14364793385576792824
theorem str_of (l : List Nat) : Str.ofString (String.ofList (l.map Char.ofNat)) = ⟨((l.map Char.ofNat).map Char.toNat).toArray⟩ := PySem.W.Fast.ofString_ofList _
theorem l10_ok : (l10.map Char.ofNat).map Char.toNat = l10 := by decide +kernel
theorem l13_ok : (l13.map Char.ofNat).map Char.toNat = l13 := by decide +kernel
theorem doc10 : bodyOf (oS 10) = docE (Str.ofString (String.ofList (l10.map Char.ofNat))) 24 67 :: (bodyOf (oS 10)).tail := by kernel_rfl
theorem doc13 : bodyOf (oS 13) = docE (Str.ofString (String.ofList (l13.map Char.ofNat))) 107 117 :: (bodyOf (oS 13)).tail := by kernel_rfl
theorem set_same {α : Type} (d : α) : ∀ (l : List α) (i : Nat), l.set i (l.getD i d) = l
  | [], _ => rfl
  | a :: l, 0 => rfl
  | a :: l, i + 1 => by show a :: l.set i (l.getD i d) = _; rw [set_same]
theorem te_P : PySem.Challenge.pw_ik0076_01 = tP := by
  unfold tP
  rw [nS_eq doc10 (by rw [str_of, l10_ok]; rfl), nS_eq doc13 (by rw [str_of, l13_ok]; rfl)]
  unfold oS
  rw [set_same, set_same]
theorem te_seg : @segRunT = tSeg := PySem.W.Fast.te10110043849684766642
theorem te_imp : @impGoT = tImp := PySem.W.Fast.te14789777615569096658
theorem te_go : @topGo = tGo := PySem.W.Fast.te15667345088766844465
theorem te_den : @denote = tDen := PySem.W.Fast.te11892475500146522536
theorem te_run : @topRun = tRun := PySem.W.Fast.te14082659384304107361
theorem b_imp (w : World) : importEnds treeTable (opening tP) w 799 (start (opening tP)).1 (start (opening tP)).2 = some ⟨absHeap (tr_imp w.params) 28 {}, #[], {}, 276, (start (opening tP)).1.os⟩ := by
  have h := a_open w
  rw [← te_imp, ← te_T] at h
  obtain ⟨⟨S, t'⟩, h1, h2⟩ := Option.bind_eq_some_iff.mp h
  have h3 := impGo_of h1
  rw [e_start] at h3
  have h4 : t'.atExitBegin = some [] ∧ S = ⟨tr_imp w.params, 28, {}, #[], {}, 276, (start (opening tP)).1.os⟩ := by
    unfold endOf at h2
    dsimp only at h2
    split at h2
    · rename_i e
      exact ⟨e, Option.some.inj h2⟩
    · cases h2
  obtain ⟨h4, rfl⟩ := h4
  refine imp_go (n := 798) (N := 1) h3 ?_
  unfold importEnds
  rw [h4]; rfl
theorem a_fence : ∀ w : World, (fun os => Option.map (fun s => (s.heap, s.gens, s.drawn, s.toks)) (fenceModules? tP { heap := absHeap (tr_imp w.params) 28 {}, gens := #[], drawn := {}, toks := 276, os := os })) = fun _ => some (hp_s0 w.params, #[], {}, 276) := by intro w; kernel_rfl
theorem b_open (N : Nat) (hN : Nat.ble 799 N = true) : ∀ w : World, (fencedOpening treeTable tP w N).map (fun s => (s.heap, s.gens, s.drawn, s.toks)) = some (hp_s0 w.params, #[], {}, 276) :=
  open_cut (p := tP) (N := N) (M := 799) (He := fun P => absHeap (tr_imp P) 28 {}) (H₀ := hp_s0) b_imp hN a_fence
theorem a_size : ∀ w : World, ((hp_s0 w.params).isNs mainGlobals && (#[] : Array GenState).size == 0, (hp_s0 w.params).objs.size, (hp_s0 w.params).nsMap mainGlobals "__annotations__") = (true, 28, some (.ref 6)) := by intro w; kernel_rfl
end
section
set_option maxHeartbeats 8000000
open PySem PySem.W PyProof.Rows
theorem a_pre : ∀ (w : World) (os : OsState), tGo tT tP w 28 (some (.ref 6)) 12 ⟨hp_s0 w.params, #[], {}, 276, os⟩ (topStub tP) = some (⟨hp_pre w.params, #[], {}, 282, os⟩, ⟨tDen tT tC, tC, p0, [topFrame p0]⟩) := by intro w os; kernel_rfl
end
section
set_option maxHeartbeats 8000000
open PySem PySem.W PyProof.Rows
noncomputable def G1 : World → Prop := fun (w : World) => ∀ (os : OsState), tSeg tT tP w 28 (some (.ref 6)) 1 900 ⟨tr_pre w.params, 32, {}, #[], {}, 282, os⟩ (piecesOf (tB.take 17) tE tC p0 [topFrame p0]) = some (.next, ⟨tr_p16 w.params, 114, {}, #[], {}, 681, os⟩, tC, ⟨141, 0, 141, 8⟩)
theorem a_g1 : ∀ w, G1 w := by intro w os; kernel_rfl
end
section
set_option maxHeartbeats 8000000
open PySem PySem.W PyProof.Rows
noncomputable def G2 : World → Prop := fun (w : World) => ∀ (os : OsState), tSeg tT tP w 28 (some (.ref 6)) 1 1300 ⟨tr_p16 w.params, 114, {}, #[], {}, 681, os⟩ (piecesOf ((tB.drop 17).take 1) tE tC ⟨141, 0, 141, 8⟩ [topFrame p0]) = some (.next, ⟨tr_p17 w.params, 119, {}, #[], {}, 827, os⟩, tC, ⟨142, 0, 142, 18⟩)
theorem a_g2 : ∀ w, G2 w := byRow2 "comprehension-iter-twice" (fun w => byRow2 "special-get-raises" (P := fun w => G2 (w.withFollow "comprehension-iter-twice" false)) (by intro w os; kernel_rfl) (by intro w os; kernel_rfl) w) (fun w => byRow2 "special-get-raises" (P := fun w => G2 (w.withFollow "comprehension-iter-twice" true)) (by intro w os; kernel_rfl) (by intro w os; kernel_rfl) w)
end
section
set_option maxHeartbeats 8000000
open PySem PySem.W PyProof.Rows
noncomputable def G3 : World → Prop := fun (w : World) => ∀ (os : OsState), tSeg tT tP w 28 (some (.ref 6)) 1 1000 ⟨tr_p17 w.params, 119, {}, #[], {}, 827, os⟩ (piecesOf ((tB.drop 18).take 21) tE tC ⟨142, 0, 142, 18⟩ [topFrame p0]) = some (.next, ⟨tr_p38 w.params, 255, {}, #[], {}, 1037, os⟩, tC, ⟨352, 0, 360, 42⟩)
theorem a_g3 : ∀ w, G3 w := by intro w os; kernel_rfl
end
section
set_option maxHeartbeats 8000000
open PySem PySem.W PyProof.Rows
noncomputable def G4 : World → Prop := fun (w : World) => ∀ (os : OsState), tSeg tT tP w 28 (some (.ref 6)) 1 400 ⟨tr_p38 w.params, 255, {}, #[], {}, 1037, os⟩ (piecesOf ((tB.drop 39).take 1) tE tC ⟨352, 0, 360, 42⟩ [topFrame p0]) = some (.next, ⟨tr_p39 w.params, 258, {}, #[], {}, 1072, os⟩, tC, ⟨361, 0, 361, 16⟩)
theorem a_g4 : ∀ w, G4 w := byRow2 "special-get-raises" (by intro w os; kernel_rfl) (by intro w os; kernel_rfl)
end
section
set_option maxHeartbeats 8000000
open PySem PySem.W PyProof.Rows
noncomputable def G5 : World → Prop := fun (w : World) => ∀ (os : OsState), tSeg tT tP w 28 (some (.ref 6)) 1 300 ⟨tr_p39 w.params, 258, {}, #[], {}, 1072, os⟩ (piecesOf (tB.drop 40) tE tC ⟨361, 0, 361, 16⟩ [topFrame p0]) = some (.next, ⟨tr_fin w.params, 311, {}, #[], {}, 1136, os⟩, tC, ⟨426, 0, 459, 22⟩)
theorem a_g5 : ∀ w, G5 w := by intro w os; kernel_rfl
end
section
set_option maxHeartbeats 8000000
open PySem PySem.W PyProof.Rows
theorem a_block : ∀ (w : World) (os : OsState), tSeg tT tP w 28 (some (.ref 6)) 1 1 ⟨tr_pre w.params, 32, {}, #[], {}, 282, os⟩ (blockOf tB tE tC p0 [topFrame p0]) = some (.next, ⟨tr_pre w.params, 32, {}, #[], {}, 282, os⟩, tC, p0) := by intro w os; kernel_rfl
theorem drop_split {α : Type} (l : List α) (i k : Nat) : l.drop i = (l.drop i).take k ++ l.drop (i + k) := by
  rw [← List.drop_drop, List.take_append_drop]
theorem e_B : tB = tB.take 17 ++ ((tB.drop 17).take 1 ++ ((tB.drop 18).take 21 ++ ((tB.drop 39).take 1 ++ (tB.drop 40 ++ [])))) := by
  have h1 := drop_split tB 17 1
  have h2 := drop_split tB 18 21
  have h3 := drop_split tB 39 1
  rw [List.append_nil, ← h3, ← h2, ← h1, List.take_append_drop]
theorem b_run (w : World) (os : OsState) : topRun treeTable tP w 28 (some (.ref 6)) (12 + (1 + (900 + (1300 + (1000 + (400 + (300 + 2))))))) ⟨hp_s0 w.params, #[], {}, 276, os⟩ (topStub tP) = some ⟨hp_fin w.params, #[], {}, 1136, os⟩ := by
  have hp := a_pre w os
  rw [← te_go, ← te_T, ← te_den] at hp
  have hb := a_block w os
  rw [← te_seg, ← te_T] at hb
  have hb := segRun_of hb
  have g1 := a_g1 w; unfold G1 at g1; have g1 := g1 os; rw [← te_seg, ← te_T] at g1; have g1 := segRun_of g1
  have g2 := a_g2 w; unfold G2 at g2; have g2 := g2 os; rw [← te_seg, ← te_T] at g2; have g2 := segRun_of g2
  have g3 := a_g3 w; unfold G3 at g3; have g3 := g3 os; rw [← te_seg, ← te_T] at g3; have g3 := segRun_of g3
  have g4 := a_g4 w; unfold G4 at g4; have g4 := g4 os; rw [← te_seg, ← te_T] at g4; have g4 := segRun_of g4
  have g5 := a_g5 w; unfold G5 at g5; have g5 := g5 os; rw [← te_seg, ← te_T] at g5; have g5 := segRun_of g5
  have hf := a_fin w os
  rw [← te_run, ← te_T] at hf
  refine go_top (n := 12) hp ?_
  have hs : (⟨hp_pre w.params, #[], {}, 282, os⟩ : Shared) = SharedT.abs ⟨tr_pre w.params, 32, {}, #[], {}, 282, os⟩ := by
    unfold SharedT.abs; rw [e_pre]
  have he : (⟨hp_fin w.params, #[], {}, 1136, os⟩ : Shared) = SharedT.abs ⟨tr_fin w.params, 311, {}, #[], {}, 1136, os⟩ := by
    unfold SharedT.abs; rw [e_fin]
  rw [hs]
  refine piece_block (n := 1) (b := tB) (env := tE) (q := p0) hb ?_
  rw [e_B]
  refine piece_app g1 (piece_app g2 (piece_app g3 (piece_app g4 (piece_app g5 ?_))))
  rw [← he]
  exact hf
end
section
set_option maxHeartbeats 8000000
open PySem PySem.W PyProof.Rows
noncomputable section
noncomputable abbrev tSeen := @PySem.W.Fast.tw4187177175401517315
noncomputable def vw : Program := { tP with main := { tP.main with body := [ts 50] } }
noncomputable def lse : List Str := [⟨#[95, 95, 110, 97, 109, 101, 95, 95]⟩, ⟨#[95, 95, 100, 111, 99, 95, 95]⟩, ⟨#[95, 95, 112, 97, 99, 107, 97, 103, 101, 95, 95]⟩, ⟨#[95, 95, 108, 111, 97, 100, 101, 114, 95, 95]⟩, ⟨#[95, 95, 115, 112, 101, 99, 95, 95]⟩, ⟨#[95, 95, 97, 110, 110, 111, 116, 97, 116, 105, 111, 110, 115, 95, 95]⟩, ⟨#[95, 95, 98, 117, 105, 108, 116, 105, 110, 115, 95, 95]⟩, ⟨#[95, 95, 102, 105, 108, 101, 95, 95]⟩, ⟨#[95, 95, 99, 97, 99, 104, 101, 100, 95, 95]⟩, ⟨#[95, 115, 114, 101]⟩, ⟨#[95, 119, 97, 108, 108]⟩, ⟨#[95, 112, 101, 95, 100, 111, 99]⟩, ⟨#[95, 116, 119, 105, 110, 95, 114, 101, 95, 55]⟩, ⟨#[117, 110, 109, 97, 116, 99, 104, 101, 100]⟩, ⟨#[72, 69, 65, 68, 69, 82, 95, 84, 79, 75, 69, 78, 95, 82, 69]⟩, ⟨#[72, 69, 65, 68, 69, 82, 95, 81, 85, 79, 84, 69, 68, 95, 86, 65, 76, 85, 69, 95, 82, 69]⟩, ⟨#[72, 69, 65, 68, 69, 82, 95, 86, 65, 76, 85, 69, 95, 82, 69]⟩, ⟨#[72, 69, 65, 68, 69, 82, 95, 69, 83, 67, 65, 80, 69, 95, 82, 69]⟩, ⟨#[115, 112, 108, 105, 116, 95, 104, 101, 97, 100, 101, 114, 95, 119, 111, 114, 100, 115]⟩, ⟨#[72, 69, 65, 68, 69, 82, 95, 74, 79, 73, 78, 95, 84, 79, 75, 69, 78, 95, 82, 69]⟩, ⟨#[72, 69, 65, 68, 69, 82, 95, 74, 79, 73, 78, 95, 69, 83, 67, 65, 80, 69, 95, 82, 69]⟩, ⟨#[106, 111, 105, 110, 95, 104, 101, 97, 100, 101, 114, 95, 119, 111, 114, 100, 115]⟩, ⟨#[95, 116, 119, 105, 110, 95, 114, 101, 95, 49]⟩, ⟨#[116, 114, 97, 110, 115, 108, 97, 116, 101]⟩, ⟨#[95, 115, 112, 101, 99, 105, 97, 108, 95, 99, 104, 97, 114, 115, 95, 109, 97, 112]⟩, ⟨#[101, 115, 99, 97, 112, 101]⟩, ⟨#[95, 116, 114, 97, 110, 115, 108, 97, 116, 101]⟩, ⟨#[95, 106, 111, 105, 110, 95, 116, 114, 97, 110, 115, 108, 97, 116, 101, 100, 95, 112, 97, 114, 116, 115]⟩, ⟨#[95, 112, 108, 97, 105, 110, 95, 110, 97, 109, 101]⟩, ⟨#[65, 66, 67, 77, 101, 116, 97]⟩, ⟨#[95, 65, 66, 67, 76, 105, 107, 101]⟩, ⟨#[95, 97, 98, 99, 95, 112, 108, 97, 105, 110, 95, 109, 101, 116, 97]⟩, ⟨#[102, 115, 112, 97, 116, 104]⟩, ⟨#[95, 115, 112, 108, 105, 116, 101, 120, 116]⟩, ⟨#[95, 99, 104, 101, 99, 107, 95, 97, 114, 103, 95, 116, 121, 112, 101, 115]⟩, ⟨#[95, 103, 101, 116, 95, 115, 101, 112]⟩, ⟨#[106, 111, 105, 110]⟩, ⟨#[115, 112, 108, 105, 116]⟩, ⟨#[115, 112, 108, 105, 116, 101, 120, 116]⟩, ⟨#[95, 108, 97, 119, 95, 112, 97, 116, 104, 115]⟩, ⟨#[95, 108, 97, 119, 95, 99, 117, 116]⟩, ⟨#[95, 108, 97, 119, 95, 101, 110, 100, 105, 110, 103]⟩, ⟨#[95, 108, 97, 119, 95, 103, 108, 117, 101, 100]⟩, ⟨#[95, 108, 97, 119, 95, 115, 112, 101, 108, 108, 101, 100]⟩, ⟨#[95, 108, 97, 119, 95, 108, 105, 115, 116, 115]⟩, ⟨#[95, 108, 97, 119, 95, 119, 114, 105, 116, 116, 101, 110]⟩, ⟨#[95, 108, 97, 119, 95, 115, 105, 103, 110]⟩]
noncomputable def tM : List Str := importedModules tP.main.body
end
theorem a_look1 : ∀ w : World, (fun os : OsState => (staticsOk tM (hp_s0 w.params) (hp_fin w.params) && namesBound tP (hp_fin w.params) && gensDone ⟨hp_fin w.params, #[], {}, 1136, os⟩ && laidKept (hp_s0 w.params) (hp_fin w.params))) = fun _ => true := by intro w; kernel_rfl
end
section
set_option maxHeartbeats 8000000
open PySem PySem.W PyProof.Rows
theorem a_look2 : ∀ w : World, (fun os : OsState => openSeen vw lse tM (fun _ => true) true ⟨hp_fin w.params, #[], {}, 1136, os⟩) = fun _ => openGood vw lse := by intro w; kernel_rfl
end
section
set_option maxHeartbeats 8000000
open PySem PySem.W PyProof.Rows
theorem b_left : LeftO tP vw lse (fun _ => true) (fun s => s.heap) (fun w => hp_fin w.params) 8000 :=
  LeftO.of_pieces (H₀ := hp_s0) (H₁ := hp_fin) (b_open 8000 rfl) a_size b_run (by decide) fun w => funext fun os => Prod.ext (congrFun (a_look1 w) os) (Prod.ext (congrFun (a_look2 w) os) rfl)
noncomputable def lawRec : DefRec × List (Str × Expr) := match defOf vw ⟨#[108, 97, 119]⟩ with | some x => x | none => ⟨⟨⟨#[]⟩, { posonlyargs := [], args := [], vararg := none, kwonlyargs := [], kw_defaults := [], kwarg := none, defaults := [] }, [], { kind := .module, names := [], isGenerator := false, isCoroutine := false, more := [] }, p0⟩, []⟩
theorem b_holds (said : PySem.Challenge.rw_ik0076_01.row.wellSaid = true) 
    (call : WalkO vw lse (fun _ _ => True) (fun w h => ∀ b o, (hp_fin w.params).get? b = some o → h.get? b = some o) PySem.Challenge.rw_ik0076_01.row.toRowW lawRec.1 lawRec.2 fun f vs => PySem.call f vs) : PySem.Challenge.rw_ik0076_01.row.Holds := by
  have left : LeftO PySem.Challenge.rw_ik0076_01.row.prog vw lse (fun _ => true) (fun s => s.heap) (fun w => hp_fin w.params) 8000 := by
    show LeftO PySem.Challenge.pw_ik0076_01 vw lse (fun _ => true) (fun s => s.heap) (fun w => hp_fin w.params) 8000
    rw [te_P]; exact b_left
  refine holds_open (q := vw) (loose := lse) (Xt := fun _ => true) (XP := fun _ _ => True) (Yf := fun s => s.heap) (Ya := fun w => hp_fin w.params) (YP := fun w h => ∀ b o, (hp_fin w.params).get? b = some o → h.get? b = some o) (d := lawRec.1) (kwd := lawRec.2) (N := 8000)
    left (fun w s e b o h => by rw [show s.heap = hp_fin w.params from e]; exact h) (fun w h h' y k b o e => k _ _ (y _ _ e)) (fun _ _ => trivial) (fun _ _ _ _ _ => trivial) ?_ ?_ ?_ (fun s _ => recFacts_nil rfl) rfl said ?_ ⟨rfl, rfl, rfl, rfl, rfl, ?_⟩ ?_ call
  · kernel_rfl
  · kernel_rfl
  · kernel_rfl
  · kernel_rfl
  · kernel_rfl
  · w_witness2
end
section
open PySem PySem.Calls PyProof.Rows PySem.Spec PySem.W PySem.Builtin.Str
noncomputable abbrev PP : Program := PySem.Challenge.pw_ik0076_01
noncomputable abbrev Gr := Addr → Option Obj
noncomputable abbrev NoE : Value → Shared → Prop := fun _ _ => False

noncomputable def Sub (g h : Gr) : Prop := ∀ a o, g a = some o → h a = some o
theorem Sub.refl (g : Gr) : Sub g g := fun _ _ e => e
theorem Sub.trans {a b c : Gr} (x : Sub a b) (y : Sub b c) : Sub a c := fun _ _ e => y _ _ (x _ _ e)

noncomputable def idx (x : Str) : List Str → Option Nat
  | [] => none
  | y :: r => if x = y then some 0 else (idx x r).map (· + 1)
noncomputable def look (names : List Str) (vals : List (Option Value)) (x : Str) : Option Value :=
  match idx x names with | some i => vals.getD i none | none => none

theorem idx_inj {names : List Str} : ∀ {x y : Str} {i : Nat}, idx x names = some i → idx y names = some i → x = y := by
  induction names with
  | nil => intro x y i h; simp [idx] at h
  | cons n r ih =>
    intro x y i hx hy
    unfold idx at hx hy
    by_cases h1 : x = n
    · by_cases h2 : y = n
      · rw [h1, h2]
      · rw [if_pos h1] at hx; rw [if_neg h2] at hy
        cases hx
        cases hr : idx y r <;> rw [hr] at hy <;> simp at hy
    · by_cases h2 : y = n
      · rw [if_neg h1] at hx; rw [if_pos h2] at hy
        cases hy
        cases hr : idx x r <;> rw [hr] at hx <;> simp at hx
      · rw [if_neg h1] at hx; rw [if_neg h2] at hy
        cases hrx : idx x r with
        | none => rw [hrx] at hx; simp at hx
        | some a =>
          cases hry : idx y r with
          | none => rw [hry] at hy; simp at hy
          | some b =>
            rw [hrx] at hx; rw [hry] at hy
            simp at hx hy
            exact ih (i := a) hrx (by rw [hry]; congr 1; walk_at "o")
theorem look_set {names : List Str} {vals : List (Option Value)} {x : Str} {i : Nat} {v : Value} (hi : idx x names = some i) (hl : i < vals.length) :
    look names (vals.set i (some v)) = fun y => if y = x then some v else look names vals y := by
  funext y
  unfold look
  by_cases h : y = x
  · subst h; rw [hi, if_pos rfl]; simp [hl]
  · rw [if_neg h]
    cases hy : idx y names with
    | none => rfl
    | some j =>
      have : i ≠ j := fun e => h (idx_inj (e ▸ hy) hi)
      simp [List.getD_eq_getElem?_getD, List.getElem?_set, this]

structure Tb where
  P : Addr
  c : Addr
  codes : List (Pos × Str)

noncomputable def TabAt (t : Tb) (g : Gr) (h : Heap) : Prop :=
  ∃ ps, h.get? t.P = some (tabObj ps) ∧ TriplesOk ps.toList ∧
    ∀ q ∈ t.codes, codeAmong q.1 ps.toList = none ∨ ∃ c o vs tk, codeAmong q.1 ps.toList = some (.ref c) ∧ g c = some o ∧ o.data = .fields vs ∧ vs[1]? = some (.str q.2 tk)

structure Wd where
  w : World
  h0 : Heap
  mg : Str → Option Value
  mb : Str → Option Value
  tabs : List Tb
  os : OsState

noncomputable def hid (W : Wd) (a : Addr) : Prop := ∃ t ∈ W.tabs, t.P = a

structure Base (W : Wd) : Prop where
  g : W.h0.Ns mainGlobals W.mg
  b : W.h0.Ns builtinsNs W.mb
  nolimit : W.h0.NoLimit
  builtins : ∀ x : Str, x ≠ "__name__" → W.mb x = bootBuiltins x
  notab : ∀ t ∈ W.tabs, W.h0.get? t.P = none

theorem idx_lt : ∀ {names : List Str} {x : Str} {i : Nat}, idx x names = some i → i < names.length
  | [], x, i, h => by simp [idx] at h
  | n :: r, x, i, h => by
    unfold idx at h
    by_cases q : x = n
    · rw [if_pos q] at h; cases h; simp
    · rw [if_neg q] at h
      cases hr : idx x r with
      | none => rw [hr] at h; simp at h
      | some j => rw [hr] at h; simp at h; have := idx_lt hr; simp; walk_at "o"

structure St (W : Wd) (φ g0 : Gr) (names : List Str) (g : Gr) (L : Addr) (vals : List (Option Value)) (mu : List (Addr × Obj)) (s : Shared) : Prop where
  base : Base W
  stat : ∀ a o, W.h0.get? a = some o → g0 a = some o
  g0g : Sub g0 g
  gh : Sub g s.heap.get?
  fh : Sub φ s.heap.get?
  ns : s.heap.Ns L (look names vals)
  len : vals.length = names.length
  gL : g L = none
  fL : φ L = none
  mus : ∀ p ∈ mu, s.heap.get? p.1 = some p.2 ∧ p.1 ≠ L ∧ g p.1 = none ∧ φ p.1 = none
  nd : (mu.map (·.1)).Nodup
  sep : ∀ a, g a ≠ none → φ a ≠ none → g0 a ≠ none
  tabs : ∀ t ∈ W.tabs, TabAt t g s.heap ∧ g t.P = none ∧ φ t.P = none ∧ t.P ≠ L ∧ ∀ p ∈ mu, p.1 ≠ t.P
  os : s.os = W.os
  gens : AllBare s.gens

section
variable {W : Wd} {φ g0 g : Gr} {names : List Str} {L : Addr} {vals : List (Option Value)} {mu : List (Addr × Obj)} {s : Shared}

theorem St.tk (S : St W φ g0 names g L vals mu s) (k : Nat) : St W φ g0 names g L vals mu { s with toks := k } :=
  ⟨S.base, S.stat, S.g0g, S.gh, S.fh, S.ns, S.len, S.gL, S.fL, S.mus, S.nd, S.sep, S.tabs, S.os, S.gens⟩

theorem TabAt.mono {t : Tb} {g g' : Gr} {h h' : Heap} (x : TabAt t g h) (hg : Sub g g') (hh : h'.get? t.P = h.get? t.P) : TabAt t g' h' := by
  obtain ⟨ps, a, b, c⟩ := x
  refine ⟨ps, hh.trans a, b, fun q hq => (c q hq).imp id ?_⟩
  rintro ⟨c, o, vs, tk, e, ho, r⟩
  exact ⟨c, o, vs, tk, e, hg _ _ ho, r⟩

theorem St.store (S : St W φ g0 names g L vals mu s) {x : Str} {i : Nat} {v : Value} {h' : Heap} {k : Nat} {vals' : List (Option Value)}
    (hi : idx x names = some i) (hn : h'.Ns L (fun y => if y = x then some v else look names vals y)) (hs : Heap.SameBut L s.heap h')
    (hv : vals.set i (some v) = vals') : St W φ g0 names g L vals' mu { s with heap := h', toks := k } := by
  have hil : i < vals.length := by rw [S.len]; exact idx_lt hi
  subst hv
  refine ⟨S.base, S.stat, S.g0g, fun a o e => ?_, fun a o e => ?_, ?_, by rw [List.length_set]; exact S.len, S.gL, S.fL, fun p hp => ?_, S.nd, S.sep, fun t ht => ?_, S.os, S.gens⟩
  · have : a ≠ L := fun q => by subst q; rw [S.gL] at e; cases e
    exact (hs.2 a this).trans (S.gh a o e)
  · have : a ≠ L := fun q => by subst q; rw [S.fL] at e; cases e
    exact (hs.2 a this).trans (S.fh a o e)
  · rw [look_set hi hil]; exact hn
  · obtain ⟨a, b, c⟩ := S.mus p hp
    exact ⟨(hs.2 _ b).trans a, b, c⟩
  · obtain ⟨a, b, c, d, e⟩ := S.tabs t ht
    exact ⟨a.mono (.refl _) (hs.2 _ d), b, c, d, e⟩

theorem St.push_mu (S : St W φ g0 names g L vals mu s) (o : Obj) (hf : o.isFreed = false) :
    St W φ g0 names g L vals ((s.heap.objs.size, o) :: mu) { s with heap := s.heap.push o } := by
  have keep : ∀ b o', s.heap.get? b = some o' → (s.heap.push o).get? b = some o' := fun b o' e => Heap.get?_push_of_some _ e
  have fresh : ∀ b o', s.heap.get? b = some o' → b ≠ s.heap.objs.size := fun b o' e => Nat.ne_of_lt (Heap.lt_size e)
  have none_of : ∀ {g : Gr}, Sub g s.heap.get? → g s.heap.objs.size = none := fun {g} hg => by
    cases q : g s.heap.objs.size with
    | none => rfl
    | some o' => exact absurd rfl (fresh _ _ (hg _ _ q))
  obtain ⟨oL, _, _, hL, _⟩ := id S.ns
  refine ⟨S.base, S.stat, S.g0g, fun a o e => keep _ _ (S.gh a o e), fun a o e => keep _ _ (S.fh a o e), S.ns.push _, S.len, S.gL, S.fL, fun p hp => ?_, ?_, S.sep, fun t ht => ?_, S.os, S.gens⟩
  · rcases List.mem_cons.mp hp with rfl | hp
    · exact ⟨Heap.get?_push_size _ hf, (fresh _ _ hL).symm, none_of S.gh, none_of S.fh⟩
    · obtain ⟨a, b, c⟩ := S.mus p hp
      exact ⟨keep _ _ a, b, c⟩
  · rw [List.map_cons, List.nodup_cons]
    refine ⟨fun hm => ?_, S.nd⟩
    obtain ⟨p, hp, e⟩ := List.mem_map.mp hm
    exact fresh _ _ (S.mus p hp).1 e
  · obtain ⟨a, b, c, d, e⟩ := S.tabs t ht
    obtain ⟨ps, hp, r⟩ := id a
    refine ⟨a.mono (.refl _) ?_, b, c, d, fun p hp' => ?_⟩
    · show (s.heap.push o).get? t.P = s.heap.get? t.P
      rw [hp]; exact keep _ _ hp
    · rcases List.mem_cons.mp hp' with rfl | hp'
      · exact (fresh _ _ hp).symm
      · exact e p hp'

noncomputable def gset (g : Gr) (a : Addr) (o : Obj) : Gr := fun b => if b = a then some o else g b
theorem gset_sub {g : Gr} {a : Addr} {o : Obj} (h : g a = none) : Sub g (gset g a o) := fun b o' e => by
  unfold gset
  by_cases q : b = a
  · subst q; rw [h] at e; cases e
  · rw [if_neg q]; exact e
theorem gset_self (g : Gr) (a : Addr) (o : Obj) : gset g a o a = some o := if_pos rfl

theorem St.freeze {a : Addr} {o : Obj} (S : St W φ g0 names g L vals ((a, o) :: mu) s) : St W φ g0 names (gset g a o) L vals mu s := by
  obtain ⟨h1, h2, h3, h4⟩ := S.mus _ (List.mem_cons_self)
  have nd := S.nd
  rw [List.map_cons, List.nodup_cons] at nd
  have hs := gset_sub (o := o) h3
  refine ⟨S.base, S.stat, S.g0g.trans hs, fun b o' e => ?_, S.fh, S.ns, S.len, ?_, S.fL, fun p hp => ?_, nd.2, fun b hb hb' => ?_, fun t ht => ?_, S.os, S.gens⟩
  · unfold gset at e
    by_cases q : b = a
    · subst q; rw [if_pos rfl] at e; cases e; exact h1
    · rw [if_neg q] at e; exact S.gh b o' e
  · unfold gset; rw [if_neg (Ne.symm h2)]; exact S.gL
  · obtain ⟨x, y, z, u⟩ := S.mus p (List.mem_cons_of_mem _ hp)
    refine ⟨x, y, ?_, u⟩
    unfold gset
    rw [if_neg fun e => nd.1 (List.mem_map.mpr ⟨p, hp, e⟩)]; exact z
  · unfold gset at hb
    by_cases q : b = a
    · subst q; exact absurd h4 hb'
    · rw [if_neg q] at hb; exact S.sep b hb hb'
  · obtain ⟨x, y, z, u, v⟩ := S.tabs t ht
    refine ⟨x.mono hs rfl, ?_, z, u, fun p hp => v p (List.mem_cons_of_mem _ hp)⟩
    unfold gset; rw [if_neg (Ne.symm (v _ List.mem_cons_self))]; exact y

theorem St.push_g (S : St W φ g0 names g L vals mu s) (o : Obj) (hf : o.isFreed = false) :
    St W φ g0 names (gset g s.heap.objs.size o) L vals mu { s with heap := s.heap.push o } := (S.push_mu o hf).freeze
end
end
section
open PySem PySem.Calls PyProof.Rows PySem.Spec PySem.W PySem.Builtin.Str
noncomputable def Rm (n : Nat) (A : Around) : Prop := A.handled = none ∧ A.depth + n ≤ 900 ∧ A.units + 40 * n ≤ 9000
theorem Rm.le {n m : Nat} {A : Around} (h : Rm n A) (l : m ≤ n) : Rm m A := ⟨h.1, by have := h.2.1; walk_at "o", by have := h.2.2; walk_at "o"⟩
theorem Rm.deeper {n : Nat} {A : Around} (h : Rm (n + 1) A) (env : Env) : Rm n (A.deeper env) :=
  ⟨h.1, by have := h.2.1; show A.depth + 1 + n ≤ 900; walk_at "o", by have := h.2.2; show A.units + 3 + 40 * n ≤ 9000; walk_at "o"⟩
theorem Rm.dh {n : Nat} {A : Around} {env : Env} (h : Rm (n + 1) A) : (A.deeper env).handled = none := (h.deeper env).1
theorem Rm.in1 {n : Nat} {A : Around} (h : Rm (n + 1) A) : Rm n A.in1 :=
  ⟨h.1, by have := h.2.1; show A.depth + n ≤ 900; walk_at "o", by have := h.2.2; show A.units + 1 + 40 * n ≤ 9000; walk_at "o"⟩
theorem Rm.room {n : Nat} {A : Around} (h : Rm n A) : A.depth < recursionLimit := by have := h.2.1; show A.depth < 1000; walk_at "o"
theorem Rm.units {n : Nat} {A : Around} (h : Rm n A) : A.units < cLine := by have := h.2.2; show A.units < 9900; walk_at "o"

structure Rdy (W : Wd) (g : Gr) (s : Shared) : Prop where
  base : Base W
  stat : ∀ a o, W.h0.get? a = some o → g a = some o
  gh : Sub g s.heap.get?
  tabs : ∀ t ∈ W.tabs, TabAt t g s.heap ∧ g t.P = none
  os : s.os = W.os
  gens : AllBare s.gens
structure Fin' (W : Wd) (g : Gr) (s : Shared) (g' : Gr) (s' : Shared) : Prop where
  rdy : Rdy W g' s'
  sub : Sub g g'
  keep : ∀ b o, s.heap.get? b = some o → (∀ t ∈ W.tabs, t.P ≠ b) → s'.heap.get? b = some o
  fresh : ∀ b, g' b ≠ none → s.heap.get? b ≠ none → g b ≠ none

section
variable {W : Wd} {φ g0 g g' : Gr} {names : List Str} {L : Addr} {vals : List (Option Value)} {mu : List (Addr × Obj)} {s s' : Shared}

theorem Rdy.tk (R : Rdy W g s) (k : Nat) : Rdy W g { s with toks := k } := ⟨R.base, R.stat, R.gh, R.tabs, R.os, R.gens⟩
theorem St.rdy (S : St W φ g0 names g L vals mu s) : Rdy W g s :=
  ⟨S.base, fun a o e => S.g0g a o (S.stat a o e), S.gh, fun t ht => ⟨(S.tabs t ht).1, (S.tabs t ht).2.1⟩, S.os, S.gens⟩

theorem St.back (S : St W φ g0 names g L vals mu s) (F : Fin' W g s g' s') : St W φ g0 names g' L vals mu s' := by
  obtain ⟨oL, es, ep, hL, r⟩ := id S.ns
  have nt : ∀ b o, φ b = some o → ∀ t ∈ W.tabs, t.P ≠ b := fun b o e t ht q => by
    have := (S.tabs t ht).2.2.1; rw [q, e] at this; cases this
  have keepL : s'.heap.get? L = some oL := F.keep _ _ hL fun t ht q => (S.tabs t ht).2.2.2.1 q
  refine ⟨S.base, S.stat, S.g0g.trans F.sub, F.rdy.gh, fun b o e => F.keep b o (S.fh b o e) (nt b o e), ⟨oL, es, ep, keepL, r⟩, S.len, ?_, S.fL, fun p hp => ?_, S.nd, fun b hb hb' => ?_, fun t ht => ?_, F.rdy.os, F.rdy.gens⟩
  · cases q : g' L with
    | none => rfl
    | some o => exact absurd S.gL (F.fresh L (by rw [q]; simp) (by rw [hL]; simp))
  · obtain ⟨a, b, c, d⟩ := S.mus p hp
    refine ⟨F.keep _ _ a fun t ht q => (S.tabs t ht).2.2.2.2 p hp q.symm, b, ?_, d⟩
    cases q : g' p.1 with
    | none => rfl
    | some o => exact absurd c (F.fresh p.1 (by rw [q]; simp) (by rw [a]; simp))
  · refine S.sep b (F.fresh b hb ?_) hb'
    cases q : φ b with
    | none => exact absurd q hb'
    | some o => rw [S.fh b o q]; simp
  · obtain ⟨_, _, c, d, e⟩ := S.tabs t ht
    exact ⟨(F.rdy.tabs t ht).1, (F.rdy.tabs t ht).2, c, d, e⟩

open Classical in
noncomputable def hidT (W : Wd) (h : Heap) : Gr := fun b => if ∃ t ∈ W.tabs, t.P = b then none else h.get? b

theorem hidT_some {W : Wd} {h : Heap} {b : Addr} {o : Obj} (e : hidT W h b = some o) : h.get? b = some o ∧ ∀ t ∈ W.tabs, t.P ≠ b := by
  unfold hidT at e
  split at e
  · cases e
  · rename_i q; exact ⟨e, fun t ht x => q ⟨t, ht, x⟩⟩
theorem hidT_of {W : Wd} {h : Heap} {b : Addr} {o : Obj} (e : h.get? b = some o) (q : ∀ t ∈ W.tabs, t.P ≠ b) : hidT W h b = some o := by
  unfold hidT
  rw [if_neg (fun ⟨t, ht, x⟩ => q t ht x)]; exact e

theorem St.start (R : Rdy W g s) {h₁ : Heap} {k : Nat} (hns : h₁.Ns s.heap.objs.size (look names vals)) (hlen : vals.length = names.length)
    (hk : ∀ b o, s.heap.get? b = some o → h₁.get? b = some o) :
    St W (hidT W s.heap) g names g s.heap.objs.size vals [] { s with heap := h₁, toks := k } := by
  have fresh : ∀ b o', s.heap.get? b = some o' → b ≠ s.heap.objs.size := fun b o' e => Nat.ne_of_lt (Heap.lt_size e)
  refine ⟨R.base, R.stat, .refl _, fun a o e => hk _ _ (R.gh a o e), fun a o e => hk _ _ (hidT_some e).1, hns, hlen, ?_, ?_, (fun p hp => nomatch hp), by simp, fun _ h _ => h, fun t ht => ?_, R.os, R.gens⟩
  · cases q : g s.heap.objs.size with
    | none => rfl
    | some o' => exact absurd rfl (fresh _ _ (R.gh _ _ q))
  · cases q : hidT W s.heap s.heap.objs.size with
    | none => rfl
    | some o' => exact absurd rfl (fresh _ _ (hidT_some q).1)
  · obtain ⟨a, b⟩ := R.tabs t ht
    obtain ⟨ps, hp, r⟩ := id a
    refine ⟨a.mono (.refl _) ((hk _ _ hp).trans hp.symm), b, ?_, fresh _ _ hp, (fun p hp => nomatch hp)⟩
    unfold hidT; rw [if_pos ⟨t, ht, rfl⟩]

theorem St.fin {s₀ : Shared} {g₀ : Gr} (S : St W (hidT W s₀.heap) g₀ names g L vals mu s) : Fin' W g₀ s₀ g s :=
  ⟨S.rdy, S.g0g, fun b o e q => S.fh b o (hidT_of e q), fun b hb hb' => by
    by_cases hT : ∃ t ∈ W.tabs, t.P = b
    · obtain ⟨t, ht, rfl⟩ := hT
      exact absurd (S.tabs t ht).2.1 hb
    · refine S.sep b hb ?_
      unfold hidT; rw [if_neg hT]; exact hb'⟩

noncomputable def FnAt (W : Wd) (a : Addr) : Stmt → Prop := onFn False fun name params body scope => ∃ o doc pm an cd ct, W.h0.get? a = some o ∧ o.data = .func (fnOf name name params body scope .none .none doc pm an cd ct) ∧ W.h0.CodeRec cd name

theorem idx_cons (x y : Str) (r : List Str) : idx x (y :: r) = if x = y then some 0 else (idx x r).map (· + 1) := rfl
theorem lookup_zip_reverse {params : List Str} (others : List Str) : ∀ (args : List Value), params.length = args.length → params.Nodup → ∀ x,
    look (params ++ others) (args.map some ++ List.replicate others.length none) x = (params.zip args).reverse.lookup x := by
  induction params with
  | nil =>
    intro args h _ x
    cases args with
    | cons _ _ => simp at h
    | nil =>
      simp only [List.nil_append, List.map_nil, List.zip_nil_left, List.reverse_nil, List.lookup_nil]
      unfold look
      cases idx x others with
      | none => rfl
      | some i =>
        show (List.replicate others.length none).getD i none = none
        rw [List.getD_eq_getElem?_getD, List.getElem?_replicate]
        split <;> rfl
  | cons p r ih =>
    intro args h nd x
    cases args with
    | nil => simp at h
    | cons a as =>
      rw [List.nodup_cons] at nd
      simp only [List.length_cons, Nat.add_right_cancel_iff] at h
      have ih' := ih as h nd.2 x
      simp only [List.cons_append, List.map_cons, List.zip_cons_cons, List.reverse_cons]
      rw [List.lookup_append, ← ih']
      show (match idx x (p :: (r ++ others)) with | some i => _ | none => none) = (match idx x (r ++ others) with | some i => _ | none => none).or _
      rw [idx_cons]
      by_cases q : x = p
      · subst q
        rw [if_pos rfl]
        have : idx x (r ++ others) = none ∨ ∃ j, idx x (r ++ others) = some j ∧ r.length ≤ j := by
          clear ih ih'
          have hx := nd.1
          clear nd h
          induction r with
          | nil => cases hj : idx x ([] ++ others) with
            | none => exact .inl rfl
            | some j => exact .inr ⟨j, rfl, Nat.zero_le _⟩
          | cons y r ih =>
            rw [List.mem_cons, not_or] at hx
            simp only [List.cons_append]
            unfold idx
            rw [if_neg hx.1]
            rcases ih hx.2 with e | ⟨j, e, l⟩
            · rw [e]; exact .inl rfl
            · rw [e]; exact .inr ⟨j + 1, rfl, by simp; walk_at "o"⟩
        rcases this with e | ⟨j, e, l⟩
        · rw [e]; simp
        · rw [e]
          have : (List.map some as ++ List.replicate others.length none).getD j none = none := by
            rw [List.getD_eq_getElem?_getD, List.getElem?_append_right (by simp; walk_at "o"), List.getElem?_replicate]
            split <;> rfl
          simp only [this]; simp
      · rw [if_neg q]
        have hq : (x == p) = false := by simp [q]
        cases hj : idx x (r ++ others) with
        | none => simp [List.lookup_cons, hq]
        | some j => simp [List.lookup_cons, hq]

inductive Fn1 (W : Wd) (φ g : Gr) (names : List Str) (L : Addr) (Post : Gr → Value → Prop) (v : Value) (s' : Shared) : Prop
  | mk (g' : Gr) (vals' : List (Option Value)) (mu' : List (Addr × Obj)) (S : St W φ g names g' L vals' mu' s') (h : Post g' v) : Fn1 W φ g names L Post v s'
noncomputable def FQ (W : Wd) (φ g : Gr) (names : List Str) (L : Addr) (Post : Gr → Value → Prop) : Flow → Shared → Prop := fun f s' => Fn1 W φ g names L Post (match f with | .ret v => v | _ => .none) s'
noncomputable def HD (K Q : Flow → Shared → Prop) : Prop := ∀ f s', Q f s' → K f s'
theorem kkH {P : Flow → Shared → Prop} {G : (Flow → Shared → Prop) → Prop} (h : ∀ K, HD K P → G K) : ∀ K, HD K P → G K := h
theorem HD.out {K Q : Flow → Shared → Prop} {f : Flow} {s' : Shared} (h : HD K Q) (q : Q f s') : K f s' := h _ _ q
theorem HD.fr {W : Wd} {φ g : Gr} {names : List Str} {L : Addr} {Post : Gr → Value → Prop} {K : Flow → Shared → Prop} {v : Value} {s' : Shared} (h : HD K (FQ W φ g names L Post)) (q : Fn1 W φ g names L Post v s') : K (.ret v) s' := h _ _ q
theorem HD.fn {W : Wd} {φ g : Gr} {names : List Str} {L : Addr} {Post : Gr → Value → Prop} {K : Flow → Shared → Prop} {s' : Shared} (h : HD K (FQ W φ g names L Post)) (q : Fn1 W φ g names L Post .none s') : K .next s' := h _ _ q
theorem enter {n : Nat} {A : Around} {a : Addr} {name : Str} {params : Arguments} {body : List Stmt} {scope : Scope} {o : Obj} {doc pm cd ct : Value} {an : Option Addr} {args : List Value}
    {binds : List (Str × Value)} {Post : Gr → Value → Prop} {Q : Value → Shared → Prop}
    (hA : Rm (n + 1) A) (R : Rdy W g s) (ho : W.h0.get? a = some o) (hd : o.data = .func (fnOf name name params body scope .none .none doc pm an cd ct)) (hc : W.h0.CodeRec cd name)
    (hb : bindArgs (fnOf name name params body scope .none .none doc pm an cd ct) ⟨args, []⟩ = pure binds)
    (hloc : ∀ x ∈ binds, scope.names.lookup x.1 = some .local) (hlen : vals.length = names.length) (hv : ∀ x, look names vals x = binds.reverse.lookup x)
    (hco : scope.isCoroutine = false) (hgen : scope.isGenerator = false) (hk : scope.kind = .function) (hcell : ∀ x ∈ scope.names, x.2 ≠ .cell)
    (h : ∀ φ L s₁, St W φ g names g L vals [] s₁ → ∀ K, HD K (FQ W φ g names L Post) → wpAny (model PP W.w) (A.deeper (envOf name scope L a cd)) (execs body (envOf name scope L a cd)) K NoE s₁)
    (k : ∀ v g' s', Fin' W g s g' s' → Post g' v → Q v s') : wpAny (model PP W.w) A (call (.ref a) args) Q NoE s := by
  have toH : ∀ b o, W.h0.get? b = some o → s.heap.get? b = some o := fun b o e => R.gh b o (R.stat b o e)
  have hlim : s.heap.NoLimit := R.base.nolimit.keeps toH
  refine wpAny_call (codeAny_call_function hA.room (toH _ _ ho) hd hco hgen rfl (hc.keeps toH) ?_)
  rw [hb]
  refine wpAny_pure (wpAny_newFunctionEnv hcell hloc (fun h₁ hns hsb => ⟨hlim.fresh _ hsb, ?_⟩) hk)
  show codeAny _ _ (.func body (envOf name scope s.heap.objs.size a cd)) _ _
  have hk₁ : ∀ b o, s.heap.get? b = some o → h₁.get? b = some o := fun b o e => hsb.extBut b o (Nat.ne_of_lt (Heap.lt_size e)) (Heap.get?_push_of_some _ e)
  have hns' : h₁.Ns s.heap.objs.size (look names vals) := by
    rw [show look names vals = fun x => binds.reverse.lookup x from funext hv]; exact hns
  refine codeAny_func (wpAny_mono (h _ _ _ (St.start (k := s.toks + binds.length) R hns' hlen hk₁) _ fun _ _ x => x) (fun f s' hf => ?_) fun e s' hf => hf.elim)
  obtain ⟨g', vals', mu', S, hp⟩ := hf
  exact k _ _ _ S.fin hp
end
end
section
open PySem PySem.Calls PyProof.Rows PySem.Spec PySem.W PySem.Builtin.Str
noncomputable abbrev T (l : List Nat) : Str := ⟨l.toArray⟩
theorem T_cps (l : List Nat) : (T l).cps.toList = l := rfl
theorem T_len (l : List Nat) : (T l).length = l.length := by simp [Str.length]
theorem T_inj {l m : List Nat} : T l = T m ↔ l = m := by
  constructor
  · intro h; have := congrArg (fun x : Str => x.cps.toList) h; simpa using this
  · rintro rfl; rfl
theorem T_of (x : Str) : x = T x.cps.toList := by cases x; rfl
theorem T_append (l m : List Nat) : T l ++ T m = T (l ++ m) := Str.ext' (by simp [Str.cps_append])
theorem T_beq (l m : List Nat) : (T l == T m) = (l == m) := by
  by_cases h : l = m
  · subst h; simp
  · rw [beq_eq_false_iff_ne.mpr h, beq_eq_false_iff_ne.mpr fun e => h (T_inj.mp e)]

theorem sl_eq (x : Str) (i j : Option Int) : Txt.slice x i j = StrLaws.sliceText x i j := rfl

theorem slice_ss {l : List Nat} {i j : Nat} (h1 : i ≤ j) (h2 : j ≤ l.length) : Txt.slice (T l) (some (i : Int)) (some (j : Int)) = T ((l.drop i).take (j - i)) := by
  rw [sl_eq, StrLaws.sliceText_nat _ h1 (by rw [T_len]; exact h2)]
theorem slice_ns {l : List Nat} {j : Nat} (h2 : j ≤ l.length) : Txt.slice (T l) none (some (j : Int)) = T (l.take j) := by
  rw [sl_eq, StrLaws.sliceText_to ⟨by walk_at "o", by simpa using h2⟩]; simp
theorem slice_sn {l : List Nat} {i : Nat} (h2 : i ≤ l.length) : Txt.slice (T l) (some (i : Int)) none = T (l.drop i) := by
  rw [sl_eq, StrLaws.sliceText_from ⟨by walk_at "o", by simpa using h2⟩]
  simp only [Int.toNat_natCast]
  rw [List.take_of_length_le]
  simp

noncomputable def rfindL (c : Nat) (l : List Nat) : Int := if c ∈ l then ((l.reverse.dropWhile (· != c)).length : Int) - 1 else -1

theorem rfind_none {c : Nat} {l : List Nat} (h : c ∉ l) : Txt.rfind (T l) ⟨#[c]⟩ = -1 := by
  unfold Txt.rfind
  rcases StrLaws.last_spec (T l) ⟨#[c]⟩ with ⟨e, _⟩ | ⟨i, e, hi, _⟩
  · rw [e]
  · exfalso
    have := (StrLaws.subAt_one (T l) c i).mp hi
    rw [T_cps] at this
    exact h (List.mem_of_getElem? this)
theorem rfind_some {c : Nat} {a b : List Nat} (h : c ∉ b) : Txt.rfind (T (a ++ c :: b)) ⟨#[c]⟩ = a.length := by
  unfold Txt.rfind
  have at_ : ∀ i, StrLaws.At (T (a ++ c :: b)) ⟨#[c]⟩ (T (a ++ c :: b)).length i ↔ (a ++ c :: b)[i]? = some c := fun i => by
    have := StrLaws.subAt_one (T (a ++ c :: b)) c i
    rw [T_cps] at this; exact this
  have ha : (a ++ c :: b)[a.length]? = some c := by simp
  rcases StrLaws.last_spec (T (a ++ c :: b)) ⟨#[c]⟩ with ⟨_, n⟩ | ⟨i, e, hi, n⟩
  · exact absurd ((at_ _).mpr ha) (n _)
  · rw [e]
    have h1 : ¬ i < a.length := fun q => n _ q ((at_ _).mpr ha)
    have h2 : ¬ a.length < i := fun q => by
      have := (at_ _).mp hi
      rw [List.getElem?_append_right (by walk_at "o")] at this
      have e2 : i - a.length = (i - a.length - 1) + 1 := by walk_at "o"
      rw [e2, List.getElem?_cons_succ] at this
      exact h (List.mem_of_getElem? this)
    show (i : Int) = a.length
    walk_at "o"

theorem take_of_hi (goes : Nat → Bool) (l : List Nat) : stripHi goes true (T l) 0 = (l.reverse.dropWhile goes).length := by
  simp only [stripHi, if_true]
  have e : l.length = (l.reverse.takeWhile goes).length + (l.reverse.dropWhile goes).length := by
    rw [← List.length_append, List.takeWhile_append_dropWhile, List.length_reverse]
  have e1 : (T l).length = l.length := T_len l
  rw [e1]
  show l.length - ((l.drop 0).reverse.takeWhile goes).length = _
  rw [List.drop_zero]; walk_at "o"

theorem rstripBy (goes : Nat → Bool) (l : List Nat) : Txt.stripBy goes false true (T l) = T (l.reverse.dropWhile goes).reverse := by
  rw [PyProof.Rows.stripBy_eq]
  have e0 : stripLo goes false (T l) = 0 := by simp [stripLo]
  rw [e0, take_of_hi]
  apply Str.ext'
  apply Array.toList_inj.mp
  rw [StrLaws.strSub_toList]
  simp only [List.drop_zero, Nat.sub_zero]
  have h : l = (l.reverse.dropWhile goes).reverse ++ (l.reverse.takeWhile goes).reverse := by
    rw [← List.reverse_append, List.takeWhile_append_dropWhile, List.reverse_reverse]
  conv => lhs; rw [h]
  rw [List.take_append_of_le_length (by simp)]
  exact List.take_of_length_le (by simp)
theorem lstripBy (goes : Nat → Bool) (l : List Nat) : Txt.stripBy goes true false (T l) = T (l.dropWhile goes) := by
  rw [PyProof.Rows.stripBy_eq]
  apply Str.ext'
  apply Array.toList_inj.mp
  rw [StrLaws.strSub_toList]
  have e0 : stripLo goes true (T l) = (l.takeWhile goes).length := by simp [stripLo]
  have e1 : stripHi goes false (T l) (stripLo goes true (T l)) = l.length := by simp [stripHi, Str.length]
  rw [e1, e0]
  have h : l = l.takeWhile goes ++ l.dropWhile goes := (List.takeWhile_append_dropWhile).symm
  have h2 : l.length = (l.takeWhile goes).length + (l.dropWhile goes).length := by rw [← List.length_append, ← h]
  rw [h2]
  have h3 : l.drop (l.takeWhile goes).length = l.dropWhile goes := by
    have : ∀ a b : List Nat, (a ++ b).drop a.length = b := fun a b => by simp
    have q := this (l.takeWhile goes) (l.dropWhile goes)
    rw [← h] at q; exact q
  rw [h3]
  exact List.take_of_length_le (by simp)
theorem rstripChars1 (l : List Nat) (c : Nat) : Txt.rstripChars (T l) ⟨#[c]⟩ = T (l.reverse.dropWhile (· == c)).reverse := by
  unfold Txt.rstripChars
  rw [rstripBy]
  congr 4
  funext x
  simp [Bool.beq_eq_decide_eq]
theorem lstripChars1 (l : List Nat) (c : Nat) : Txt.lstripChars (T l) ⟨#[c]⟩ = T (l.dropWhile (· == c)) := by
  unfold Txt.lstripChars
  rw [lstripBy]
  congr 3
  funext x
  simp [Bool.beq_eq_decide_eq]
theorem rstrip_T (l : List Nat) : Txt.rstrip (T l) = T (l.reverse.dropWhile Unicode.isSpace).reverse := rstripBy _ l
theorem lstrip_T (l : List Nat) : Txt.lstrip (T l) = T (l.dropWhile Unicode.isSpace) := lstripBy _ l

theorem startswith_T (l m : List Nat) : Txt.startswith (T l) (T m) = m.isPrefixOf l := by
  unfold Txt.startswith
  rw [StrLaws.subAt_eq]
  simp only [Nat.zero_add, List.drop_zero, T_len, T_cps]
  rw [Bool.eq_iff_iff, Bool.and_eq_true, decide_eq_true_eq, beq_iff_eq, List.isPrefixOf_iff_prefix]
  constructor
  · rintro ⟨h, e⟩; rw [← e]; exact List.take_prefix _ _
  · intro h; exact ⟨h.length_le, (List.prefix_iff_eq_take.mp h).symm⟩
theorem endswith_T (l m : List Nat) : Txt.endswith (T l) (T m) = m.isSuffixOf l := by
  unfold Txt.endswith
  rw [StrLaws.subAt_eq]
  simp only [Nat.zero_add, T_len, T_cps]
  rw [Bool.eq_iff_iff, Bool.and_eq_true, decide_eq_true_eq, beq_iff_eq, List.isSuffixOf_iff_suffix]
  constructor
  · rintro ⟨h, e⟩
    have e2 : (l.drop (l.length - m.length)).take m.length = l.drop (l.length - m.length) := List.take_of_length_le (by simp; walk_at "o")
    rw [e2] at e
    rw [← e]; exact List.drop_suffix _ _
  · intro h
    refine ⟨h.length_le, ?_⟩
    have := List.suffix_iff_eq_drop.mp h
    rw [← this]; simp

theorem found_T (l : List Nat) (c : Nat) : (!(occurrences (T l) ⟨#[c]⟩ 0 (T l).length 1).isEmpty) = decide (c ∈ l) := StrLaws.found_one (T l) c

noncomputable def splitL (c : Nat) : List Nat → List (List Nat)
  | [] => [[]]
  | x :: r => if x = c then [] :: splitL c r else match splitL c r with
    | p :: ps => (x :: p) :: ps
    | [] => [[x]]
theorem splitL_sep (c : Nat) (r : List Nat) : splitL c (c :: r) = [] :: splitL c r := by show (if c = c then _ else _) = _; rw [if_pos rfl]
theorem splitL_other {c x : Nat} (h : x ≠ c) (r : List Nat) : splitL c (x :: r) = match splitL c r with | p :: ps => (x :: p) :: ps | [] => [[x]] := by
  show (if x = c then _ else _) = _; rw [if_neg h]
theorem splitL_ne (c : Nat) (l : List Nat) : splitL c l ≠ [] := by
  cases l with
  | nil => simp [splitL]
  | cons x r => unfold splitL; split <;> (try split) <;> simp

noncomputable def joinL (sep : List Nat) : List (List Nat) → List Nat
  | [] => []
  | [x] => x
  | x :: y :: r => x ++ sep ++ joinL sep (y :: r)
theorem join_T (sep : List Nat) : ∀ ls : List (List Nat), Str.join (T sep) (ls.map T) = T (joinL sep ls)
  | [] => rfl
  | [x] => rfl
  | x :: y :: r => by
    have ih := join_T sep (y :: r)
    show T x ++ T sep ++ Str.join (T sep) (T y :: r.map T) = T (x ++ sep ++ joinL sep (y :: r))
    rw [show (T y :: r.map T) = (y :: r).map T from rfl, ih, T_append, T_append]
theorem txtjoin_T (sep : List Nat) (ls : List (List Nat)) : Txt.join (T sep) (ls.map T) = T (joinL sep ls) := by
  unfold Txt.join; rw [StrLaws.glued_eq_join, join_T]

theorem splitL_unique (c : Nat) : ∀ (ps : List (List Nat)), ps ≠ [] → (∀ p ∈ ps, c ∉ p) → splitL c (joinL [c] ps) = ps := by
  have one : ∀ p : List Nat, c ∉ p → splitL c p = [p] := by
    intro p
    induction p with
    | nil => intro _; rfl
    | cons x r ih =>
      intro h
      rw [List.mem_cons, not_or] at h
      rw [splitL_other (Ne.symm h.1), ih h.2]
  have app : ∀ (p : List Nat) (q : List Nat), c ∉ p → splitL c (p ++ c :: q) = p :: splitL c q := by
    intro p q
    induction p with
    | nil => intro _; exact splitL_sep c q
    | cons x r ih =>
      intro h
      rw [List.mem_cons, not_or] at h
      show splitL c (x :: (r ++ c :: q)) = _
      rw [splitL_other (Ne.symm h.1), ih h.2]
  intro ps
  induction ps with
  | nil => intro h; exact absurd rfl h
  | cons p r ih =>
    intro _ hf
    cases r with
    | nil => exact one p (hf p List.mem_cons_self)
    | cons y r =>
      show splitL c (p ++ [c] ++ joinL [c] (y :: r)) = _
      rw [List.append_assoc, List.singleton_append, app p _ (hf p List.mem_cons_self), ih (by simp) fun q hq => hf q (List.mem_cons_of_mem _ hq)]

theorem split_T (c : Nat) (l : List Nat) : Txt.split (T l) ⟨#[c]⟩ = (splitL c l).map T := by
  have h1 := StrLaws.split_free (T l) c
  have h2 := StrLaws.join_split (T l) ⟨#[c]⟩
  have h3 := split_pos (T l) ⟨#[c]⟩
  generalize hp : Txt.split (T l) ⟨#[c]⟩ = P at h1 h2 h3
  have e : P = (P.map fun x => x.cps.toList).map T := by
    rw [List.map_map]
    exact (List.map_id P).symm
  rw [e] at h2
  have : Str.join (T [c]) ((P.map fun x => x.cps.toList).map T) = T l := h2
  rw [join_T, T_inj] at this
  have u := splitL_unique c (P.map fun x => x.cps.toList) (by cases P with | nil => simp at h3 | cons _ _ => simp) (by
    intro p hp'
    obtain ⟨x, hx, rfl⟩ := List.mem_map.mp hp'
    exact h1 x hx)
  rw [this] at u
  rw [u]; exact e

theorem item_T {l : List Nat} {i c : Nat} (h : l[i]? = some c) : Txt.item (T l) (i : Int) = T [c] := by
  unfold Txt.item Txt.charAt
  rw [StrLaws.at_nonneg (n := c) (by walk_at "o") (by simpa using h)]
  rfl
theorem isalnum_T (c : Nat) : Txt.isalnum (T [c]) = Unicode.isAlnum c := by
  unfold Txt.isalnum
  simp [Str.length]
end
section
open PySem PySem.Calls PyProof.Rows PySem.Spec PySem.W PySem.Builtin.Str
/- what is left to do behind an expression, by name -/
section
variable (M : Model) (A : Around) (E : Value → Shared → Prop) (env : Env)
noncomputable abbrev nxK (Q : Flow → Shared → Prop) : Unit → Shared → Prop := fun _ => Q .next
noncomputable abbrev rtK (Q : Flow → Shared → Prop) : Value → Shared → Prop := fun v => Q (.ret v)
noncomputable abbrev asK (x : Str) (Q : Flow → Shared → Prop) : Value → Shared → Prop := fun v s => wpAny M A (storeName env x v) (nxK Q) E s
noncomputable abbrev tuK (e : Expr) (Q : Flow → Shared → Prop) : Value → Shared → Prop := fun v s => wpAny M A (assign e env v) (nxK Q) E s
noncomputable abbrev xsK (l : List Stmt) (Q : Flow → Shared → Prop) : Shared → Prop := fun s => wpAny M A (execs l env) Q E s
noncomputable abbrev bdK {α : Type} (l : List Stmt) (Q : Flow → Shared → Prop) : α → Shared → Prop := fun _ s => wpAny M A (execs l env) Q E s
noncomputable abbrev ifK (b1 b2 : List Stmt) (Q : Flow → Shared → Prop) : Bool → Shared → Prop := fun b s => (b = true → wpAny M A (execs b1 env) Q E s) ∧ (b = false → wpAny M A (execs b2 env) Q E s)
noncomputable abbrev ieK (b1 b2 : Expr) (Q : Value → Shared → Prop) : Bool → Shared → Prop := fun b s => (b = true → wpAny M A (eval b1 env) Q E s) ∧ (b = false → wpAny M A (eval b2 env) Q E s)
noncomputable abbrev anK (l : List Expr) (Q : Bool → Shared → Prop) : Bool → Shared → Prop := fun b s => (b = true → wpAny M A (allTrue .And l env) Q E s) ∧ (b = false → Q false s)
noncomputable abbrev orK (l : List Expr) (Q : Bool → Shared → Prop) : Bool → Shared → Prop := fun b s => (b = false → wpAny M A (allTrue .Or l env) Q E s) ∧ (b = true → Q true s)
noncomputable abbrev trK (Q : Bool → Shared → Prop) : Value → Shared → Prop := fun v s => wpAny M A (truthy v) Q E s
noncomputable abbrev cmK2 (op : CmpOp) (a : Value) (Q : Value → Shared → Prop) : Value → Shared → Prop := fun b s => wpAny M A (compareOp op a b) Q E s
noncomputable abbrev cmK (r : Expr) (op : CmpOp) (Q : Value → Shared → Prop) : Value → Shared → Prop := fun a s => wpAny M A (eval r env) (cmK2 M A E op a Q) E s
noncomputable abbrev biK2 (op : Operator) (a : Value) (Q : Value → Shared → Prop) : Value → Shared → Prop := fun b s => wpAny M A (binaryOp op a b) Q E s
noncomputable abbrev biK (r : Expr) (op : Operator) (Q : Value → Shared → Prop) : Value → Shared → Prop := fun a s => wpAny M A (eval r env) (biK2 M A E op a Q) E s
noncomputable abbrev unK (op : UnaryOp) (Q : Value → Shared → Prop) : Value → Shared → Prop := fun v s => wpAny M A (unaryOp op v) Q E s
noncomputable abbrev auK3 (x : Str) (Q : Flow → Shared → Prop) : Value → Shared → Prop := asK M A E env x Q
noncomputable abbrev auK2 (x : Str) (op : Operator) (a : Value) (Q : Flow → Shared → Prop) : Value → Shared → Prop := fun v s => wpAny M A (inplaceOp op a v) (auK3 M A E env x Q) E s
noncomputable abbrev auK (x : Str) (op : Operator) (e : Expr) (Q : Flow → Shared → Prop) : Value → Shared → Prop := fun a s => wpAny M A (eval e env) (auK2 M A E env x op a Q) E s
noncomputable abbrev suK2 (e i : Expr) (o : Value) (Q : Value → Shared → Prop) : Value → Shared → Prop := fun v s => wpAny M A (subscriptTail e i o v) Q E s
noncomputable abbrev suK (e i : Expr) (Q : Value → Shared → Prop) : Value → Shared → Prop := fun o s => wpAny M A (eval i env) (suK2 M A E e i o Q) E s
noncomputable abbrev ntK (Q : Value → Shared → Prop) : List Value → Shared → Prop := fun l s => wpAny M A (newTuple l) Q E s
noncomputable abbrev nlK (Q : Value → Shared → Prop) : List Value → Shared → Prop := fun l s => wpAny M A (newList l) Q E s
noncomputable abbrev clK (pos : Pos) (l : List Expr) (Q : Value → Shared → Prop) : Value → Shared → Prop := fun f s => wpAny M A (callWith pos f [] (backTo pos (starEach l env)) []) Q E s
noncomputable abbrev meK2 (pos : Pos) (l : List Expr) (Q : Value → Shared → Prop) : Value × List Value → Shared → Prop := fun x s => wpAny M A (callWith pos x.1 x.2 (backTo pos (starEach l env)) []) Q E s
noncomputable abbrev meK (name : Str) (pl : Sem Bool) (pos : Pos) (l : List Expr) (Q : Value → Shared → Prop) : Value → Shared → Prop := fun o s => wpAny M A (getMethod o name pl) (meK2 M A E env pos l Q) E s
noncomputable abbrev cbK (id : String) (first : List Value) (Q : Value → Shared → Prop) : List Value → Shared → Prop := fun l s => wpAny M A (call (.builtin id) (first ++ l)) Q E s
noncomputable abbrev ctK (id : String) (Q : Value → Shared → Prop) : List Value → Shared → Prop := fun l s => wpAny M A (call (.type id) l) Q E s
noncomputable abbrev cbK0 (id : String) (Q : Value → Shared → Prop) : List Value → Shared → Prop := fun l s => wpAny M A (call (.builtin id) l) Q E s
noncomputable abbrev cbK1 (id : String) (x : Value) (Q : Value → Shared → Prop) : List Value → Shared → Prop := fun l s => wpAny M A (call (.builtin id) (x :: l)) Q E s
noncomputable abbrev spK2 (v : Value) (Q : List Value → Shared → Prop) : List Value → Shared → Prop := fun l s => Q (v :: l) s
noncomputable abbrev spK (pos : Pos) (l : List Expr) (Q : List Value → Shared → Prop) : Value → Shared → Prop := fun v s => wpAny M A (spliced (backTo pos (starEach l env))) (spK2 v Q) E s
noncomputable abbrev foK2 (e : Expr) (l : List Stmt) (R : Result → Shared → Prop) : Value → Shared → Prop := fun it s => codeAny M A (.forLoop e it l [] env) R s
noncomputable abbrev foK (e : Expr) (l : List Stmt) (R : Result → Shared → Prop) : Value → Shared → Prop := fun x s => wpAny M A (pyIter x) (foK2 M A env e l R) E s
end
noncomputable abbrev fnK (W : Wd) (A : Around) (E : Value → Shared → Prop) (f : Addr) (Q : Value → Shared → Prop) : List Value → Shared → Prop := fun l s => (∀ b o, W.h0.get? b = some o → s.heap.get? b = some o) ∧ wpAny (model PP W.w) A (call (.ref f) l) Q E s
section
variable {W : Wd} {φ g0 g g' : Gr} {names : List Str} {L : Addr} {vals vals' : List (Option Value)} {mu : List (Addr × Obj)} {s s' : Shared} {A : Around} {E : Value → Shared → Prop}
  {q : Str} {sc : Scope} {a : Addr} {cd : Value}

theorem St.toH (S : St W φ g0 names g L vals mu s) : ∀ b o, W.h0.get? b = some o → s.heap.get? b = some o := fun b o e => S.gh b o (S.g0g b o (S.stat b o e))

theorem toHA {P : Prop} (S : St W φ g0 names g L vals mu s) (h : P) : (∀ b o, W.h0.get? b = some o → s.heap.get? b = some o) ∧ P := ⟨S.toH, h⟩
theorem zh0 {o : Obj} (S : St W φ g0 names g L vals ((a, o) :: mu) s) : s.heap.get? a = some o := (S.mus _ (.head _)).1
theorem zh1 {o : Obj} {p : Addr × Obj} (S : St W φ g0 names g L vals (p :: (a, o) :: mu) s) : s.heap.get? a = some o := (S.mus _ (.tail _ (.head _))).1
theorem zh2 {o : Obj} {p q : Addr × Obj} (S : St W φ g0 names g L vals (p :: q :: (a, o) :: mu) s) : s.heap.get? a = some o := (S.mus _ (.tail _ (.tail _ (.head _)))).1
theorem zh3 {o : Obj} {p q r : Addr × Obj} (S : St W φ g0 names g L vals (p :: q :: r :: (a, o) :: mu) s) : s.heap.get? a = some o := (S.mus _ (.tail _ (.tail _ (.tail _ (.head _))))).1
theorem St.ext (S : St W φ g0 names g L vals mu s) {h' : Heap} {k : Nat} (hk : ∀ b o, s.heap.get? b = some o → h'.get? b = some o) :
    St W φ g0 names g L vals mu { s with heap := h', toks := k } := by
  obtain ⟨oL, es, ep, hL, r⟩ := id S.ns
  refine ⟨S.base, S.stat, S.g0g, fun b o e => hk _ _ (S.gh b o e), fun b o e => hk _ _ (S.fh b o e), ⟨oL, es, ep, hk _ _ hL, r⟩, S.len, S.gL, S.fL, fun p hp => ?_, S.nd, S.sep, fun t ht => ?_, S.os, S.gens⟩
  · obtain ⟨x, y⟩ := S.mus p hp
    exact ⟨hk _ _ x, y⟩
  · obtain ⟨x, y⟩ := S.tabs t ht
    obtain ⟨ps, hp, r⟩ := id x
    exact ⟨x.mono (.refl _) ((hk _ _ hp).trans hp.symm), y⟩

theorem ev_loc {env : Env} {x : Str} {pos : Pos} {i : Nat} {v : Value} {Q : Value → Shared → Prop} (S : St W φ g0 names g L vals mu s) (hi : idx x names = some i) (hv : vals.getD i none = some v)
    (hk : env.scope.kind = .function) (hl : env.kindOf x = some .local) (hL : env.locals = L) (hd : (x == ("__debug__" : Str)) = false) (h : Q v s) :
    wpAny (model PP W.w) A (eval (.Name x pos) env) Q E s := by
  subst hL
  exact wpAny_Name (wpAny_loadName_local hk hl S.ns (by unfold look; rw [hi]; exact hv) h) hd
theorem ld_loc {env : Env} {x : Str} {i : Nat} {v : Value} {Q : Value → Shared → Prop} (S : St W φ g0 names g L vals mu s) (hi : idx x names = some i) (hv : vals.getD i none = some v)
    (hk : env.scope.kind = .function) (hl : env.kindOf x = some .local) (hL : env.locals = L) (h : Q v s) :
    wpAny (model PP W.w) A (loadName env x) Q E s := by
  subst hL
  exact wpAny_loadName_local hk hl S.ns (by unfold look; rw [hi]; exact hv) h

theorem ev_glob {env : Env} {x : Str} {pos : Pos} {v : Value} {Q : Value → Shared → Prop} (S : St W φ g0 names g L vals mu s) (hm : W.mg x = some v)
    (hk : env.scope.kind = .function) (hx : env.kindOf x = some .globalImplicit) (hG : env.globals = mainGlobals) (hd : (x == ("__debug__" : Str)) = false) (h : Q v s) :
    wpAny (model PP W.w) A (eval (.Name x pos) env) Q E s :=
  Name_function_global hk hx (loadGlobal_global (env := env) (mg := W.mg) (by rw [hG]; exact S.base.g.keeps S.toH) hm h) hd

theorem ev_blt {env : Env} {x : Str} {pos : Pos} {v : Value} {Q : Value → Shared → Prop} (S : St W φ g0 names g L vals mu s) (hm : W.mg x = none) (hb : bootBuiltins x = some v) (hn : x ≠ "__name__")
    (hk : env.scope.kind = .function) (hx : env.kindOf x = some .globalImplicit) (hG : env.globals = mainGlobals) (hB : env.builtins = builtinsNs) (hd : (x == ("__debug__" : Str)) = false) (h : Q v s) :
    wpAny (model PP W.w) A (eval (.Name x pos) env) Q E s :=
  Name_function_global hk hx (loadGlobal_builtin (env := env) (mg := W.mg) (mb := W.mb) (by rw [hG]; exact S.base.g.keeps S.toH) hm (by rw [hB]; exact S.base.b.keeps S.toH) ((S.base.builtins x hn).trans hb) h) hd

theorem st_loc {env : Env} {x : Str} {i : Nat} {v : Value} {Q : Unit → Shared → Prop} (S : St W φ g0 names g L vals mu s) (hi : idx x names = some i) (hv : vals.set i (some v) = vals')
    (hk : env.scope.kind = .function) (hl : env.kindOf x = some .local) (hL : env.locals = L) (h : ∀ s', St W φ g0 names g L vals' mu s' → Q () s') :
    wpAny (model PP W.w) A (storeName env x v) Q E s := by
  subst hL
  exact wpAny_storeName_local hl S.ns (fun h' hn hs => h _ (S.store hi hn hs hv))
    (by show (env.scope.kind == .class || (env.scope.kind == .module && env.locals != env.globals)) = false; rw [hk]; rfl)

theorem st_loV {env : Env} {x : Str} {i : Nat} {v : Value} {Q : Unit → Shared → Prop} (S : St W φ g0 names g L vals mu s) (hi : idx x names = some i) (hv : vals.set i (some v) = vals')
    (hk : env.scope.kind = .function) (hl : env.kindOf x = some .local) (hL : env.locals = L) (h : let V := vals'; ∀ s', St W φ g0 names g L V mu s' → Q () s') :
    wpAny (model PP W.w) A (storeName env x v) Q E s := st_loc S hi hv hk hl hL h
theorem call_ref {pos : Pos} {f : Addr} {o : Obj} {fd : FuncData} {first : List Value} {e : Expr} {rest : List Expr} {env : Env} {Q : Value → Shared → Prop}
    (ho : W.h0.get? f = some o) (hd : o.data = .func fd)
    (he : starEach (e :: rest) env = (false, eval e env) :: starEach rest env)
    (h : wpAny (model PP W.w) A (spliced (backTo pos (starEach (e :: rest) env))) (fun vs s₁ => (∀ b o, W.h0.get? b = some o → s₁.heap.get? b = some o) ∧ wpAny (model PP W.w) A (call (.ref f) (first ++ vs)) Q E s₁) E s) :
    wpAny (model PP W.w) A (callWith pos (.ref f) first (backTo pos (starEach (e :: rest) env)) []) Q E s := by
  rw [he] at h ⊢
  refine callWith_function (o := o) (fd := fd) ?_
  exact evalArgs_plain (wpAny_mono h (fun vs s₁ h₁ => ⟨⟨h₁.1 _ _ ho, hd⟩, h₁.2⟩) fun _ _ x => x)

theorem enterP {n : Nat} {name : Str} {params : Arguments} {body : List Stmt} {scope : Scope} {o : Obj} {doc pm cd ct : Value} {an : Option Addr} {args : List Value}
    {Post : Gr → Value → Prop} {Q : Value → Shared → Prop} (ps os names : List Str) (vals : List (Option Value)) (hns : ps ++ os = names) (hvs : args.map some ++ List.replicate os.length none = vals)
    (hA : Rm (n + 1) A) (R : Rdy W g s) (ho : W.h0.get? a = some o) (hd : o.data = .func (fnOf name name params body scope .none .none doc pm an cd ct)) (hc : W.h0.CodeRec cd name)
    (hb : bindArgs (fnOf name name params body scope .none .none doc pm an cd ct) ⟨args, []⟩ = pure (ps.zip args)) (hl : ps.length = args.length) (hnd : ps.Nodup)
    (hloc : (ps.all fun x => decide (scope.names.lookup x = some .local)) = true)
    (hsc : (!scope.isCoroutine && !scope.isGenerator && decide (scope.kind = .function) && scope.names.all fun x => decide (x.2 ≠ .cell)) = true)
    (h : ∀ φ L s₁, St W φ g names g L vals [] s₁ → ∀ K, HD K (FQ W φ g names L Post) → wpAny (model PP W.w) (A.deeper (envOf name scope L a cd)) (execs body (envOf name scope L a cd)) K NoE s₁)
    (k : ∀ v g' s', Fin' W g s g' s' → Post g' v → Q v s') : wpAny (model PP W.w) A (call (.ref a) args) Q NoE s := by
  subst hns hvs
  simp only [Bool.and_eq_true, Bool.not_eq_true', decide_eq_true_eq, List.all_eq_true] at hsc hloc
  obtain ⟨⟨⟨h1, h2⟩, h3⟩, h4⟩ := hsc
  refine enter hA R ho hd hc hb (fun x hx => ?_) (by simp [hl]) (fun x => lookup_zip_reverse os args hl hnd x) h1 h2 h3 (fun x hx => h4 x hx) h k
  exact hloc x.1 (List.of_mem_zip hx).1

noncomputable def stm (i : Nat) : Stmt := PP.main.body.getD i (.Pass default)

theorem NoE_to {α : Type} {t : Sem α} {Q : α → Shared → Prop} {M : Model} (h : wpAny M A t Q NoE s) : wpAny M A t Q E s := wpAny_mono h (fun _ _ x => x) fun _ _ x => x.elim

end
structure KN (K : Flow → Shared → Prop) (R : Shared → Prop) (Q : Flow → Shared → Prop) : Prop where
  n : ∀ s', R s' → K .next s'
  o : ∀ f s', f ≠ .next → Q f s' → K f s'
theorem KN.nx {K : Flow → Shared → Prop} {R : Shared → Prop} {Q : Flow → Shared → Prop} {s' : Shared} (h : KN K R Q) (r : R s') : K .next s' := h.n _ r
theorem KN.rt {K : Flow → Shared → Prop} {R : Shared → Prop} {Q : Flow → Shared → Prop} {v : Value} {s' : Shared} (h : KN K R Q) (r : Q (.ret v) s') : K (.ret v) s' := h.o _ _ nofun r
theorem KN.br {K : Flow → Shared → Prop} {R : Shared → Prop} {Q : Flow → Shared → Prop} {s' : Shared} (h : KN K R Q) (r : Q .brk s') : K .brk s' := h.o _ _ nofun r
theorem KN.co {K : Flow → Shared → Prop} {R : Shared → Prop} {Q : Flow → Shared → Prop} {s' : Shared} (h : KN K R Q) (r : Q .cont s') : K .cont s' := h.o _ _ nofun r
theorem execs_k {W : Wd} {A : Around} {E : Value → Shared → Prop} {st : Stmt} {rest : List Stmt} {env : Env} {Q : Flow → Shared → Prop} {s : Shared}
    (h : ∀ K : Flow → Shared → Prop, KN K (xsK (model PP W.w) A E env rest Q) Q → wpAny (model PP W.w) A (exec st env) K E s) :
    wpAny (model PP W.w) A (execs (st :: rest) env) Q E s :=
  wpAny_execs_cons (h _ ⟨fun _ p => p, fun f _ hn q => by cases f <;> first | exact absurd rfl hn | exact q⟩)
end
section
open PySem PySem.Calls PyProof.Rows PySem.Spec PySem.W PySem.Builtin.Str
noncomputable abbrev lst (vs : List Value) (n : Nat) : Obj := { cls := .type "list", data := .seq vs.toArray n }
noncomputable abbrev tup (vs : List Value) : Obj := { cls := .type "tuple", data := .seq vs.toArray }

section
variable {W : Wd} {φ g0 g g' : Gr} {names : List Str} {L : Addr} {vals vals' : List (Option Value)} {mu : List (Addr × Obj)} {s s' : Shared} {A : Around} {E : Value → Shared → Prop}
  {q : Str} {sc : Scope} {a : Addr} {cd : Value} {env : Env} {M : Model}

theorem ex_if {test body orelse pos} {Q : Flow → Shared → Prop}
    (h : wpAny M A (isTrue test env (eval test env)) (ifK M A E env body orelse Q) E s) :
    wpAny M A (exec (.If test body orelse pos) env) Q E s :=
  wpAny_If (wpAny_mono h (fun b s' h => by cases b; exact h.2 rfl; exact h.1 rfl) fun _ _ x => x)
theorem ex_assign {x pos' value pos} {Q : Flow → Shared → Prop} (hs : swapsWith value (some (.Name x pos')) pos.line env = pure false)
    (h : wpAny M A (eval value env) (asK M A E env x Q) E s) :
    wpAny M A (exec (.Assign [.Name x pos'] value pos) env) Q E s := wpAny_Assign_Name h hs
theorem ex_aug {x pos' op value pos} {Q : Flow → Shared → Prop}
    (h : wpAny M A (loadName env x) (auK M A E env x op value Q) E s) :
    wpAny M A (exec (.AugAssign (.Name x pos') op value pos) env) Q E s := wpAny_AugAssign_Name h
theorem ex_ret {e pos} {Q : Flow → Shared → Prop} (h : wpAny M A (eval e env) (rtK Q) E s) : wpAny M A (exec (.Return (some e) pos) env) Q E s := wpAny_Return_some h
theorem ex_expr {e pos} {Q : Flow → Shared → Prop} (hi : interactive env = false) (hs : swapsWith e none pos.line env = pure false)
    (h : wpAny M A (eval e env) (fun v s' => match v with | .ref _ => False | _ => Q .next s') E s) : wpAny M A (exec (.Expr e pos) env) Q E s := wpAny_Expr h hi hs
theorem ex_assert {test msg pos} {Q : Flow → Shared → Prop}
    (h : wpAny M A (isTrue test env (eval test env)) (fun b s₂ => b = true ∧ Q .next s₂) E s) : wpAny M A (exec (.Assert test msg pos) env) Q E s := by
  rw [arm_exec_Assert]
  refine wpAny_bind (wpAny_standAt (wpAny_bind (wpAny_mono h (fun b s' h => ?_) fun _ _ x => x)))
  obtain ⟨rfl, h⟩ := h
  exact wpAny_pure h
theorem ex_tup {elts k tpos value pos} {Q : Flow → Shared → Prop}
    (hs : swapsWithSole [.Tuple elts k tpos] value pos.line env = pure false)
    (hw : swappedStores [.Tuple elts k tpos] value env = pure none)
    (h : wpAny M A (eval value env) (tuK M A E env (.Tuple elts k tpos) Q) E s) :
    wpAny M A (exec (.Assign [.Tuple elts k tpos] value pos) env) Q E s := Assign_Tuple h hs hw
theorem ex_swap {elts k tpos value pos} {ns : List Str} {Q : Flow → Shared → Prop}
    (hs : swapsWithSole [.Tuple elts k tpos] value pos.line env = pure false)
    (hw : swappedStores [.Tuple elts k tpos] value env = pure (some ns))
    (h : wpAny M A (eval value env) (fun v s₁ => wpAny M A (unpackItems v ns.length none) (fun items s₂ =>
      wpAny M A (assignInOrder (ns.reverse.map fun n => bindName env n) items.reverse) (fun _ => Q .next) E s₂) E s₁) E s) :
    wpAny M A (exec (.Assign [.Tuple elts k tpos] value pos) env) Q E s := Assign_Tuple_swapped h hs hw

theorem ev_call {func : Expr} {args : List Expr} {pos : Pos} {Q : Value → Shared → Prop}
    (he : eval (.Call func args [] pos) env = (do callWith pos (← eval func env) [] (backTo pos (starEach args env)) (backToKw pos (keywordEach [] env))))
    (h : wpAny M A (eval func env) (clK M A E env pos args Q) E s) :
    wpAny M A (eval (.Call func args [] pos) env) Q E s := Call_ h he
theorem ev_meth {o : Expr} {name : Str} {apos pos : Pos} {args : List Expr} {pl : Sem Bool} {Q : Value → Shared → Prop}
    (he : eval (.Call (.Attribute o name apos) args [] pos) env = (do
      let ov ← eval o env
      standAt apos.atName
      let (f, first) ← holding [ov] (getMethod ov name pl)
      callWith pos f first (backTo pos (starEach args env)) []))
    (h : wpAny M A (eval o env) (meK M A E env name pl pos args Q) E s) :
    wpAny M A (eval (.Call (.Attribute o name apos) args [] pos) env) Q E s := MethodCall_ h he
theorem cw_blt {pos : Pos} {id : String} {first : List Value} {e : Expr} {rest : List Expr} {Q : Value → Shared → Prop}
    (he : starEach (e :: rest) env = (false, eval e env) :: starEach rest env) (hplain : (backTo pos (starEach rest env)).any (·.1) = false)
    (h : wpAny M A (spliced (backTo pos (starEach (e :: rest) env))) (cbK M A E id first Q) E s) :
    wpAny M A (callWith pos (.builtin id) first (backTo pos (starEach (e :: rest) env)) []) Q E s := callWith_method1 h he hplain
theorem cw_blt0 {pos : Pos} {id : String} {first : List Value} {Q : Value → Shared → Prop} (h : wpAny M A (call (.builtin id) first) Q E s) :
    wpAny M A (callWith pos (.builtin id) first (backTo pos (starEach [] env)) []) Q E s := callWith_method0 h
theorem cw_type {pos : Pos} {id : String} {e : Expr} {rest : List Expr} {Q : Value → Shared → Prop}
    (he : starEach (e :: rest) env = (false, eval e env) :: starEach rest env) (hplain : (backTo pos (starEach rest env)).any (·.1) = false)
    (h : wpAny M A (spliced (backTo pos (starEach (e :: rest) env))) (ctK M A E id Q) E s) :
    wpAny M A (callWith pos (.type id) [] (backTo pos (starEach (e :: rest) env)) []) Q E s := by
  rw [he] at h ⊢
  refine callWith_of (P := fun _ => True) (by show (false || (backTo pos (starEach rest env)).any (·.1) || _) = false; rw [hplain]; rfl) (fun h _ => ⟨.machine, .inr (.inl rfl), .now⟩) ?_
  exact evalArgs_plain (wpAny_mono h (fun vs s₁ h₁ => ⟨trivial, by simpa using h₁⟩) fun _ _ x => x)
theorem sp_cons {e : Expr} {rest : List Expr} {pos : Pos} {Q : List Value → Shared → Prop} (he : starEach (e :: rest) env = (false, eval e env) :: starEach rest env)
    (h : wpAny M A (eval e env) (spK M A E env pos rest Q) E s) :
    wpAny M A (spliced (backTo pos (starEach (e :: rest) env))) Q E s := args_cons h he
theorem sp_nil {pos : Pos} {Q : List Value → Shared → Prop} (h : Q [] s) : wpAny M A (spliced (backTo pos (starEach [] env))) Q E s := args_nil h
theorem ev_cmp {l op r pos} {Q : Value → Shared → Prop} (hm : behindInMarks op r = false)
    (h : wpAny M A (eval l env) (cmK M A E env r op Q) E s) :
    wpAny M A (eval (.Compare l [op] [r] pos) env) Q E s := wpAny_Compare1 h hm
theorem is_cmp {l op r pos whole} {Q : Bool → Shared → Prop} (hm : behindInMarks op r = false)
    (h : wpAny M A (eval l env) (cmK M A E env r op (trK M A E Q)) E s) : wpAny M A (isTrue (.Compare l [op] [r] pos) env whole) Q E s := wpAny_isTrue_Compare1 h hm
theorem is_plain {e : Expr} {whole : Sem Value} {Q : Bool → Shared → Prop} (he : isTrue e env whole = (do let v ← whole; standAt e.pos; holding [v] (truthy v)))
    (h : wpAny M A whole (trK M A E Q) E s) : wpAny M A (isTrue e env whole) Q E s := isTrue_plain h he
theorem is_bool {op : BoolOp} {values : List Expr} {pos : Pos} {whole : Sem Value} {Q : Bool → Shared → Prop} (h : wpAny M A (allTrue op values env) Q E s) :
    wpAny M A (isTrue (.BoolOp op values pos) env whole) Q E s := wpAny_isTrue_BoolOp h
theorem all_and {x : Expr} {rest : List Expr} {Q : Bool → Shared → Prop}
    (h : wpAny M A (isTrue x env (eval x env)) (anK M A E env rest Q) E s) :
    wpAny M A (allTrue .And (x :: rest) env) Q E s := by
  refine wpAny_allTrue_And_cons (wpAny_mono h (fun b s' h => ?_) fun _ _ x => x)
  cases b
  · simpa using h.2 rfl
  · simpa using h.1 rfl
theorem all_or {x : Expr} {rest : List Expr} {Q : Bool → Shared → Prop}
    (h : wpAny M A (isTrue x env (eval x env)) (orK M A E env rest Q) E s) :
    wpAny M A (allTrue .Or (x :: rest) env) Q E s := by
  refine wpAny_allTrue_Or_cons (wpAny_mono h (fun b s' h => ?_) fun _ _ x => x)
  cases b
  · simpa using h.1 rfl
  · simpa using h.2 rfl
theorem ev_ifexp {test body orelse pos} {Q : Value → Shared → Prop}
    (h : wpAny M A (isTrue test env (eval test env)) (ieK M A E env body orelse Q) E s) :
    wpAny M A (eval (.IfExp test body orelse pos) env) Q E s := by
  refine wpAny_IfExp (wpAny_mono h (fun b s' h => ?_) fun _ _ x => x)
  cases b
  · simpa using h.2 rfl
  · simpa using h.1 rfl
theorem ev_sub {value slice pos} {Q : Value → Shared → Prop}
    (h : wpAny M A (eval value env) (suK M A E env value slice Q) E s) :
    wpAny M A (eval (.Subscript value slice pos) env) Q E s := Subscript_ h
theorem ev_str {x : Str} {l : List Nat} {k : Nat} {pos : Pos} {Q : Value → Shared → Prop} (hx : x = T l) (h : Q (.str (T l) s.toks) { s with toks := s.toks + 1 }) :
    wpAny M A (eval (.Constant (.str x) k pos) env) Q E s := by subst hx; exact Constant_str h
theorem ev_tup {elts : List Expr} {k : Nat} {pos : Pos} {Q : Value → Shared → Prop}
    (h : wpAny M A (spliced (backTo pos (starEach elts env))) (ntK M A E Q) E s) : wpAny M A (eval (.Tuple elts k pos) env) Q E s := Tuple_ h
theorem ev_lst {elts : List Expr} {pos : Pos} {Q : Value → Shared → Prop}
    (h : wpAny M A (spliced (backTo pos (starEach elts env))) (nlK M A E Q) E s) : wpAny M A (eval (.List elts pos) env) Q E s := List_ h

theorem new_tup {vs : List Value} {Q : Value → Shared → Prop} (S : St W φ g0 names g L vals mu s) (hsz : vs.length ≤ 1000)
    (h : ∀ a g' s', Sub g g' → g' a = some (tup vs) → St W φ g0 names g' L vals mu s' → Q (.ref a) s') : wpAny M A (newTuple vs) Q E s := by
  refine wpAny_newObj_type ?_ (by show vs.toArray.size ≤ sizeLine; rw [List.size_toArray, sizeLine_eq]; walk_at "o")
  have S' := S.push_g (tup vs) rfl
  refine h _ _ _ (gset_sub ?_) (gset_self _ _ _) S'
  cases q : g s.heap.objs.size with
  | none => rfl
  | some o => exact absurd (Heap.lt_size (S.gh _ _ q)) (Nat.lt_irrefl _)
theorem new_lst {vs : List Value} {Q : Value → Shared → Prop} (S : St W φ g0 names g L vals mu s) (hsz : vs.length ≤ 1000)
    (h : ∀ a s', (∀ b o, g b = some o → b ≠ a) → St W φ g0 names g L vals ((a, lst vs 0) :: mu) s' → Q (.ref a) s') : wpAny M A (newList vs) Q E s := by
  refine wpAny_newObj_type ?_ (by show vs.toArray.size ≤ sizeLine; rw [List.size_toArray, sizeLine_eq]; walk_at "o")
  exact h _ _ (fun b o e => Nat.ne_of_lt (Heap.lt_size (S.gh _ _ e))) (S.push_mu (lst vs 0) rfl)

theorem St.turn {pre post : List (Addr × Obj)} {D : Addr} {o o' : Obj} {h' : Heap} {k : Nat} (S : St W φ g0 names g L vals (pre ++ (D, o) :: post) s) (hs : Heap.SameBut D s.heap h') (ho : h'.get? D = some o') :
    St W φ g0 names g L vals (pre ++ (D, o') :: post) { s with heap := h', toks := k } := by
  have mem : (D, o) ∈ pre ++ (D, o) :: post := List.mem_append.mpr (.inr (.head _))
  obtain ⟨z1, z2, z3, z4⟩ := S.mus _ mem
  have nd := S.nd
  simp only [List.map_append, List.map_cons] at nd
  have hpre : ∀ p ∈ pre, p.1 ≠ D := fun p hp e => by
    rw [List.nodup_append] at nd
    exact nd.2.2 p.1 (List.mem_map_of_mem hp) D (.head _) e
  have hpost : ∀ p ∈ post, p.1 ≠ D := fun p hp e => by
    rw [List.nodup_append] at nd
    have := (List.nodup_cons.mp nd.2.1).1
    exact this (e ▸ List.mem_map_of_mem hp)
  refine ⟨S.base, S.stat, S.g0g, fun b x e => (hs.2 b fun q => by rw [q, z3] at e; cases e).trans (S.gh b x e), fun b x e => (hs.2 b fun q => by rw [q, z4] at e; cases e).trans (S.fh b x e),
    S.ns.sameBut hs (Ne.symm z2), S.len, S.gL, S.fL, fun p hp => ?_, by simpa using nd, S.sep, fun t ht => ?_, S.os, S.gens⟩
  · rcases List.mem_append.mp hp with hp | hp
    · obtain ⟨x, y⟩ := S.mus p (List.mem_append.mpr (.inl hp))
      exact ⟨(hs.2 _ (hpre p hp)).trans x, y⟩
    · rcases List.mem_cons.mp hp with rfl | hp
      · exact ⟨ho, z2, z3, z4⟩
      · obtain ⟨x, y⟩ := S.mus p (List.mem_append.mpr (.inr (.tail _ hp)))
        exact ⟨(hs.2 _ (hpost p hp)).trans x, y⟩
  · obtain ⟨x, y, z, u, v⟩ := S.tabs t ht
    have hD : D ≠ t.P := v _ mem
    refine ⟨x.mono (.refl _) (hs.2 _ (Ne.symm hD)), y, z, u, fun p hp => ?_⟩
    rcases List.mem_append.mp hp with hp | hp
    · exact v p (List.mem_append.mpr (.inl hp))
    · rcases List.mem_cons.mp hp with rfl | hp
      · exact hD
      · exact v p (List.mem_append.mpr (.inr (.tail _ hp)))

theorem append_pos (pre : List (Addr × Obj)) {post : List (Addr × Obj)} {D : Addr} {vs : List Value} {n : Nat} {x : Value} {Q : Value → Shared → Prop} (S : St W φ g0 names g L vals (pre ++ (D, lst vs n) :: post) s)
    (hsz : vs.length ≤ 1000) (h : ∀ s', St W φ g0 names g L vals (pre ++ (D, lst (vs ++ [x]) (n + 1)) :: post) s' → Q .none s') :
    wpAny (model PP W.w) A (call (.builtin "list.append") [.ref D, x]) Q E s := by
  have mem : (D, lst vs n) ∈ pre ++ (D, lst vs n) :: post := List.mem_append.mpr (.inr (.head _))
  refine append_at (S.mus _ mem).1 (fun h' hs ho => h _ ?_) (by rw [List.size_toArray, sizeLine_eq]; walk_at "o")
  have ho' : h'.get? D = some (lst (vs ++ [x]) (n + 1)) := by rw [ho]; simp
  exact S.turn (k := s.toks) hs ho'
theorem append0 {post : List (Addr × Obj)} {D : Addr} {vs : List Value} {n : Nat} {x : Value} {Q : Value → Shared → Prop} (S : St W φ g0 names g L vals ((D, lst vs n) :: post) s)
    (hsz : vs.length ≤ 1000) (h : ∀ s', St W φ g0 names g L vals ((D, lst (vs ++ [x]) (n + 1)) :: post) s' → Q .none s') :
    wpAny (model PP W.w) A (call (.builtin "list.append") [.ref D, x]) Q E s := append_pos [] S hsz h
theorem append1 {p : Addr × Obj} {post : List (Addr × Obj)} {D : Addr} {vs : List Value} {n : Nat} {x : Value} {Q : Value → Shared → Prop} (S : St W φ g0 names g L vals (p :: (D, lst vs n) :: post) s)
    (hsz : vs.length ≤ 1000) (h : ∀ s', St W φ g0 names g L vals (p :: (D, lst (vs ++ [x]) (n + 1)) :: post) s' → Q .none s') :
    wpAny (model PP W.w) A (call (.builtin "list.append") [.ref D, x]) Q E s := append_pos [p] S hsz h

theorem tail_gen {value slice : Expr} {o i : Value} {T id : String} {ops : List Value} {Q : Value → Shared → Prop} (hT : s.TypeIs o T)
    (hl : typeLookup (.type T) "__getitem__" = pure (some (.builtin id))) (hs : subscripted slice false o i = operate ops (getItem o i)) (h : wpAny (model PP W.w) A (getItem o i) Q E s) :
    wpAny (model PP W.w) A (subscriptTail value slice o i) Q E s := by
  unfold subscriptTail
  refine wpAny_bind ?_
  rw [getitemInPython_of_ne hT.not_modules]
  refine wpAny_bind (wpAny_specialOf hT hl ?_)
  have fin : wpAny (model PP W.w) A (subscripted slice false o i) (fun r s₃ => wpAny (model PP W.w) A (letTemporaryGo value o r >>= fun _ => pure r) Q E s₃) E s := by
    rw [hs]
    exact wpAny_operating (wpAny_mono h (fun r s₃ h₃ => wpAny_bind (wpAny_letTemporaryGo (wpAny_pure h₃))) fun _ _ x => x)
  first
    | exact wpAny_pure (wpAny_bind fin)
    | exact wpAny_bind (wpAny_pure (wpAny_bind fin))
    | exact wpAny_bind fin
theorem tail_item {value slice : Expr} {o i : Value} {ops : List Value} {Q : Value → Shared → Prop} (h : ItemOn (model PP W.w) A E o i Q s)
    (hs : subscripted slice false o i = operate ops (getItem o i)) : wpAny (model PP W.w) A (subscriptTail value slice o i) Q E s := by
  obtain ⟨T, id, hl, hT, hg⟩ := h
  exact tail_gen hT hl hs hg

theorem cut_str {value slice : Expr} {x y : Str} {t : Tok} {vl vu : Value} {l u : Option (Int × Tok)} {Q : Value → Shared → Prop} (S : St W φ g0 names g L vals mu s)
    (hl : vl = partValue l) (hu : vu = partValue u) (hsz : x.length ≤ 16777216) (hy : Txt.slice x (l.map (·.1)) (u.map (·.1)) = y)
    (hs : subscripted slice false (.str x t) (.ref s.heap.objs.size) = operate [.ref s.heap.objs.size, .str x t] (getItem (.str x t) (.ref s.heap.objs.size)))
    (h : ∀ t' s', St W φ g0 names g L vals mu s' → Q (.str y t') s') :
    wpAny (model PP W.w) A (subscriptTail value slice (.str x t) (.ref s.heap.objs.size)) Q E { s with heap := s.heap.push { cls := .type "slice", data := .fields #[vl, vu, .none] } } := by
  subst hl hu hy
  have S' : St W φ g0 names g L vals mu { s with heap := s.heap.push { cls := .type "slice", data := .fields #[partValue l, partValue u, .none] } } := S.ext (k := s.toks) fun b o e => Heap.get?_push_of_some _ e
  refine tail_item ⟨"str", _, F.slot_str_getitem.lookup, typeIs_str _ _ _, wpAny_getItem_str_slice (l := l) (u := u) (st := none) ⟨_, Heap.get?_push_size _ rfl, rfl, rfl⟩ rfl
    (post_val_or_str ⟨Nat.le_trans (Txt.slice_le x _ _) (by rw [sizeLine_eq]; exact hsz), fun t' k => h _ _ (S'.tk _)⟩)⟩ hs
theorem ev_slice {lower upper step : Option Expr} {p : Pos} {Q : Value → Shared → Prop}
    (h : wpAny M A (evalPart lower env) (fun l s₁ => wpAny M A (evalPart upper env) (fun u s₂ => wpAny M A (evalPart step env) (fun st s₃ =>
      Q (.ref s₃.heap.objs.size) { s₃ with heap := s₃.heap.push { cls := .type "slice", data := .fields #[l, u, st] } }) E s₂) E s₁) E s) :
    wpAny M A (eval (.Slice lower upper step p) env) Q E s := wpAny_Slice h
theorem part_none {Q : Value → Shared → Prop} (h : Q .none s) : wpAny M A (evalPart none env) Q E s := wpAny_pure h
theorem part_some {e : Expr} {Q : Value → Shared → Prop} (h : wpAny M A (eval e env) Q E s) : wpAny M A (evalPart (some e) env) Q E s := h

theorem isi_str_bytes {p : Str} {t : Tok} {Q : Value → Shared → Prop} (h : Q (.bool false) { s with toks := s.toks + 1 }) :
    wpAny (model PP W.w) A (call (.builtin "isinstance") [.str p t, .type "bytes"]) Q E s := call_isinstance (isinstance_false_str (by decide) F.isi_meta_bytes F.sub_str_bytes) h
theorem type_str {p : Str} {t : Tok} {Q : Value → Shared → Prop} (h : Q (.type "str") s) :
    wpAny (model PP W.w) A (call (.type "type") [.str p t]) Q E s := call_type_of (typeIs_str _ _ _) (by decide) h
theorem tr_str {x : Str} {t : Tok} {Q : Bool → Shared → Prop} (hsz : x.length ≤ 16777216) (h : Q (x.length != 0) { s with toks := s.toks + 1 + 1 }) : wpAny (model PP W.w) A (truthy (.str x t)) Q E s := by
  refine P.truthy_str (by walk_at "o") ?_
  have : ((x.length : Int) != 0) = (x.length != 0) := by
    rw [Bool.eq_iff_iff]; simp
  rw [this]; exact h
theorem len_s {x : Str} {t : Tok} {Q : Value → Shared → Prop} (hsz : x.length ≤ 16777216) (h : Q (.int x.length (s.toks + 1)) { s with toks := s.toks + 1 + 1 }) :
    wpAny (model PP W.w) A (call (.builtin "len") [.str x t]) Q E s := len_str (by walk_at "o") h
end
end
section
open PySem PySem.Calls PyProof.Rows PySem.Spec PySem.W PySem.Builtin.Str
section
variable {W : Wd} {s : Shared} {A : Around} {E : Value → Shared → Prop}
theorem code_meets {id : String} {B : Builtin} {args : List Value} {S : PySem.Spec} {R : Result → Shared → Prop} (kind : builtinKind id = none) (plain : plainId id = true)
    (entry : entryFor table id = some B) (ok : argsOk id ⟨args, []⟩) (g : Meets (B ⟨args, []⟩) S) (h : S A R s) : codeAny (model PP W.w) A (.call (.builtin id) ⟨args, []⟩) R s := by
  refine codeAny_call_builtin plain entry ?_
  have hfin := g PP W.w A R s h
  simp only [checkBuiltinCall, kind]
  cases hsig : Manifest.signature? id with
  | none => exact wpAny_pure hfin
  | some sig =>
    simp only [argsOk, hsig] at ok
    have h2 : Bind.checkArgs id sig ⟨args, []⟩ = pure () := ok
    show wpAny _ _ (Bind.checkArgs id sig ⟨args, []⟩) _ _ s
    rw [h2]; exact wpAny_pure hfin

theorem sub_nested_str_str {M : Program} {w : World} {s : Shared} {A : Around} {E : Value → Shared → Prop} {tk : Tok} {Q : Fin → Shared → Prop} (hq : Q (.done (.ret (.bool true))) s) :
    wpAny (model M w) A (Builtin.«issubclass.nested» ⟨[.type "str", .type "str", .int 1 tk], []⟩) Q E s := by
  have f1 : (Value.type ((Manifest.find? "str").elim "type" (·.metatype)) == Value.type "type") = true := by decide +kernel
  have f2 := F.sub_str_str
  repeat (any_goals (first | assumption | (rw [if_pos f1]) | (rw [f2]) | wp_step))
theorem kind_subn : builtinKind "issubclass.nested" = none := by decide +kernel
theorem plain_subn : plainId "issubclass.nested" = true := by decide +kernel
theorem args_subn (a b c : Value) : argsOk "issubclass.nested" ⟨[a, b, c], []⟩ := by unfold argsOk; kernel_rfl
theorem meets_subn {tk : Tok} : Meets (Builtin.«issubclass.nested» ⟨[.type "str", .type "str", .int 1 tk], []⟩) (fun _ R s => R (.ok (.ret (.bool true))) s) :=
  fun _ _ _ _ _ hs => sub_nested_str_str hs
set_option maxHeartbeats 1000000 in
theorem sub_nested_tup {tp : Addr} {tk : Tok} {Q : Fin → Shared → Prop} (htp : s.heap.get? tp = some (tup [.type "str", .type "bytes"]))
    (hq : ∀ tk', Q (.done (.ret (.bool true))) { s with toks := tk' }) :
    wpAny (model PP W.w) A (Builtin.«issubclass.nested» ⟨[.type "str", .ref tp, .int 0 tk], []⟩) Q E s := by
  obtain ⟨h, g, d, t, os⟩ := s
  have hT2 : (⟨h, g, d, t, os⟩ : Shared).TypeIs (.ref tp) "tuple" := ⟨_, htp, rfl⟩
  have f1 := F.isi_sub_tuple
  repeat (any_goals (first | assumption | wp_step))
  refine code_meets kind_subn plain_subn F.entry_issubclass_nested (args_subn _ _ _) (meets_subn (tk := default)) ?_
  repeat (any_goals (first | assumption | wp_step))
  exact hq t
end
section
variable {W : Wd} {φ g0 g g' : Gr} {names : List Str} {L : Addr} {vals vals' : List (Option Value)} {mu : List (Addr × Obj)} {s s' : Shared} {A : Around} {E : Value → Shared → Prop}
theorem issub_str {tp : Addr} {Q : Value → Shared → Prop} (S : St W φ g0 names g L vals mu s) (htp : g tp = some (tup [.type "str", .type "bytes"]))
    (h : ∀ s', St W φ g0 names g L vals mu s' → Q (.bool true) s') : wpAny (model PP W.w) A (call (.builtin "issubclass") [.type "str", .ref tp]) Q E s := by
  refine wpAny_call (codeAny_call_builtin F.plain_issubclass F.entry_issubclass ?_)
  have := F.args_issubclass_2 (.type "str") (.ref tp)
  have hfin : wpAny (model PP W.w) A.in1 (Builtin.«issubclass» ⟨[.type "str", .ref tp], []⟩) (fun fin s' => match fin with | .done f => wants Q E (.ok f) s' | .again c' => c'.quiet = true ∧ codeAny (model PP W.w) A c' (wants Q E) s') (fun e s' => wants Q E (.error e) s') s :=
    issubclass_outer (sub_nested_tup (S.gh _ _ htp) fun tk' => h _ (S.tk _))
  simp only [checkBuiltinCall, F.kind_issubclass]
  cases hsig : Manifest.signature? "issubclass" with
  | none => exact wpAny_pure hfin
  | some sig =>
    simp only [argsOk, hsig] at this
    show wpAny _ _ (Bind.checkArgs "issubclass" sig ⟨_, []⟩) _ _ s
    rw [show Bind.checkArgs "issubclass" sig ⟨[.type "str", .ref tp], []⟩ = pure () from this]; exact wpAny_pure hfin
end
end
section
open PySem PySem.Calls PyProof.Rows PySem.Spec PySem.W PySem.Builtin.Str
noncomputable def assoc {α : Type} (x : Str) : List (Str × α) → Option α
  | [] => none
  | (y, v) :: r => if x = y then some v else assoc x r
noncomputable def gnames : List (Str × Nat) := [("_twin_re_7", 4), ("unmatched", 5), ("HEADER_TOKEN_RE", 6), ("HEADER_QUOTED_VALUE_RE", 7), ("HEADER_VALUE_RE", 8), ("HEADER_ESCAPE_RE", 9), ("split_header_words", 10),
  ("HEADER_JOIN_TOKEN_RE", 11), ("HEADER_JOIN_ESCAPE_RE", 12), ("join_header_words", 13), ("_twin_re_1", 15), ("translate", 16), ("_special_chars_map", 18), ("escape", 19), ("_translate", 21), ("_join_translated_parts", 22),
  ("fspath", 31), ("_splitext", 33), ("_get_sep", 36), ("join", 37), ("split", 38), ("splitext", 39), ("_law_paths", 42), ("_law_cut", 43), ("_law_ending", 44), ("_law_glued", 45), ("_law_spelled", 46), ("_law_lists", 47),
  ("_law_written", 48), ("_law_sign", 49), ("law", 50)]
noncomputable def btab : List (Str × Value) := [("isinstance", .builtin "isinstance"), ("issubclass", .builtin "issubclass"), ("type", .type "type"), ("str", .type "str"), ("bytes", .type "bytes"), ("len", .builtin "len"),
  ("enumerate", .type "enumerate"), ("range", .type "range"), ("object", .type "object"), ("max", .builtin "max")]
theorem btab_ok : ∀ (t : List (Str × Value)), (∀ p ∈ t, bootBuiltins p.1 = some p.2) → ∀ x v, assoc x t = some v → bootBuiltins x = some v
  | [], _, x, v, h => by simp [assoc] at h
  | (y, u) :: r, hp, x, v, h => by
    unfold assoc at h
    by_cases q : x = y
    · rw [if_pos q] at h; cases h; subst q; exact hp (x, u) (.head _)
    · rw [if_neg q] at h
      exact btab_ok r (fun p hm => hp p (.tail _ hm)) x v h
theorem bb (x : Str) (v : Value) (h : assoc x btab = some v) : bootBuiltins x = some v := by
  refine btab_ok btab ?_ x v h
  intro p hp
  simp only [btab, List.mem_cons, List.not_mem_nil, or_false] at hp
  rcases hp with rfl | rfl | rfl | rfl | rfl | rfl | rfl | rfl | rfl | rfl <;> kernel_rfl
noncomputable def fnums : List Nat := [5, 10, 13, 16, 19, 21, 22, 31, 33, 36, 37, 38, 39, 42, 43, 44, 45, 46, 47, 48, 49, 50]
structure Gl (W : Wd) (f : Nat → Addr) : Prop where
  gl : ∀ x i, assoc x gnames = some i → W.mg x = some (.ref (f i))
  bl : ∀ x v, assoc x btab = some v → W.mg x = none
  fn : ∀ i, fnums.contains i = true → FnAt W (f i) (stm i)
end
section
open PySem PySem.Calls PyProof.Rows PySem.Spec PySem.W PySem.Builtin.Str
section
variable {W : Wd} {φ g0 g g' : Gr} {names : List Str} {L : Addr} {vals vals' : List (Option Value)} {mu : List (Addr × Obj)} {s s' : Shared} {A : Around} {E : Value → Shared → Prop}
  {l m : List Nat} {t u : Tok} {Q : Value → Shared → Prop}

theorem s_add (S : St W φ g0 names g L vals mu s) (hsz : l.length + m.length ≤ 16777216) (h : ∀ t' s', St W φ g0 names g L vals mu s' → Q (.str (T (l ++ m)) t') s') :
    wpAny (model PP W.w) A (binaryOp .Add (.str (T l) t) (.str (T m) u)) Q E s :=
  SBL.add (fun t' k _ => by rw [T_append]; exact h _ _ (S.tk k)) (by rw [T_len, T_len, sizeLine_eq]; exact hsz)
theorem s_iadd (S : St W φ g0 names g L vals mu s) (hsz : l.length + m.length ≤ 16777216) (h : ∀ t' s', St W φ g0 names g L vals mu s' → Q (.str (T (l ++ m)) t') s') :
    wpAny (model PP W.w) A (inplaceOp .Add (.str (T l) t) (.str (T m) u)) Q E s :=
  SBL.iadd (fun t' k _ => by rw [T_append]; exact h _ _ (S.tk k)) (by rw [T_len, T_len, sizeLine_eq]; exact hsz)
theorem s_eq (h : Q (.bool (l == m)) s) : wpAny (model PP W.w) A (compareOp .Eq (.str (T l) t) (.str (T m) u)) Q E s := eq_str (by rw [T_beq]; exact h)
theorem s_ne (h : Q (.bool (l != m)) s) : wpAny (model PP W.w) A (compareOp .NotEq (.str (T l) t) (.str (T m) u)) Q E s := ne_str (by rw [bne, T_beq]; exact h)
theorem s_in {c : Nat} (h : Q (.bool (decide (c ∈ l))) s) : wpAny (model PP W.w) A (compareOp .In (.str (T [c]) u) (.str (T l) t)) Q E s :=
  in_str (by rw [found_T]; exact h)
theorem s_notin {c : Nat} (h : Q (.bool (!decide (c ∈ l))) s) : wpAny (model PP W.w) A (compareOp .NotIn (.str (T [c]) u) (.str (T l) t)) Q E s :=
  notIn_str (by rw [found_T]; exact h)
theorem s_item {value slice : Expr} {i : Nat} {c : Nat} (S : St W φ g0 names g L vals mu s) (hl : l.length ≤ 16777216) (hc : l[i]? = some c)
    (hs : subscripted slice false (.str (T l) t) (.int i u) = operate [.str (T l) t, .int i u] (getItem (.str (T l) t) (.int i u)))
    (h : ∀ t' s', St W φ g0 names g L vals mu s' → Q (.str (T [c]) t') s') :
    wpAny (model PP W.w) A (subscriptTail value slice (.str (T l) t) (.int i u)) Q E s := by
  have hi := (List.getElem?_eq_some_iff.mp hc).1
  refine tail_item (SBL.item (by walk_at "o") (by rw [T_len]; walk_at "o") (by rw [T_len]; walk_at "o") fun _ => ?_) hs
  rw [item_T hc]; exact h _ _ (S.tk _)
theorem s_itemz {value slice : Expr} {i : Int} {c : Nat} (S : St W φ g0 names g L vals mu s) (hl : l.length ≤ 16777216) (h0 : 0 ≤ i) (hc : l[i.toNat]? = some c)
    (hs : subscripted slice false (.str (T l) t) (.int i u) = operate [.str (T l) t, .int i u] (getItem (.str (T l) t) (.int i u)))
    (h : ∀ t' s', St W φ g0 names g L vals mu s' → Q (.str (T [c]) t') s') :
    wpAny (model PP W.w) A (subscriptTail value slice (.str (T l) t) (.int i u)) Q E s := by
  obtain ⟨n, rfl⟩ := Int.eq_ofNat_of_zero_le h0
  exact s_item S hl (by simpa using hc) hs h
theorem s_last {value slice : Expr} {c : Nat} (S : St W φ g0 names g L vals mu s) (hl : (l ++ [c]).length ≤ 16777216)
    (hs : subscripted slice false (.str (T (l ++ [c])) t) (.int (-1) u) = operate [.str (T (l ++ [c])) t, .int (-1) u] (getItem (.str (T (l ++ [c])) t) (.int (-1) u)))
    (h : ∀ t' s', St W φ g0 names g L vals mu s' → Q (.str (T [c]) t') s') :
    wpAny (model PP W.w) A (subscriptTail value slice (.str (T (l ++ [c])) t) (.int (-1) u)) Q E s := by
  refine tail_item (SBL.item (by rw [T_len]; simp; walk_at "o") (by rw [T_len]; walk_at "o") (by rw [T_len]; walk_at "o") fun _ => ?_) hs
  have e : (-1 + ((T (l ++ [c])).length : Int)).toNat = l.length := by rw [T_len, List.length_append, List.length_singleton]; walk_at "o"
  have : Txt.item (T (l ++ [c])) (-1) = T [c] := by
    unfold Txt.item Txt.charAt
    rw [StrLaws.at_neg (n := c) (by walk_at "o") (by rw [T_len]; simp; walk_at "o") (by rw [e]; simp)]
    rfl
  rw [this]; exact h _ _ (S.tk _)
theorem s_rfind {c : Nat} (S : St W φ g0 names g L vals mu s) (h : ∀ k s', St W φ g0 names g L vals mu s' → Q (.int (Txt.rfind (T l) (T [c])) k) s') :
    wpAny (model PP W.w) A (call (.builtin "str.rfind") [.str (T l) t, .str (T [c]) u]) Q E s := SC.rfind (h _ _ (S.tk _))
theorem s_starts (h : Q (.bool (m.isPrefixOf l)) s) : wpAny (model PP W.w) A (call (.builtin "str.startswith") [.str (T l) t, .str (T m) u]) Q E s :=
  SC.startswith (by rw [startswith_T]; exact h)
theorem s_ends (h : Q (.bool (m.isSuffixOf l)) s) : wpAny (model PP W.w) A (call (.builtin "str.endswith") [.str (T l) t, .str (T m) u]) Q E s :=
  SC.endswith (by rw [endswith_T]; exact h)
theorem s_isalnum {c : Nat} (h : Q (.bool (Unicode.isAlnum c)) s) : wpAny (model PP W.w) A (call (.builtin "str.isalnum") [.str (T [c]) t]) Q E s :=
  SC.isalnum (by rw [isalnum_T]; exact h)
theorem s_lstripC {c : Nat} (S : St W φ g0 names g L vals mu s) (hsz : l.length ≤ 16777216) (h : ∀ t' s', St W φ g0 names g L vals mu s' → Q (.str (T (l.dropWhile (· == c))) t') s') :
    wpAny (model PP W.w) A (call (.builtin "str.lstrip") [.str (T l) t, .str (T [c]) u]) Q E s :=
  SC.lstripChars (fun t' k => by rw [lstripChars1]; exact h _ _ (S.tk k)) (by rw [T_len, sizeLine_eq]; exact hsz)
theorem s_rstripC {c : Nat} (S : St W φ g0 names g L vals mu s) (hsz : l.length ≤ 16777216) (h : ∀ t' s', St W φ g0 names g L vals mu s' → Q (.str (T (l.reverse.dropWhile (· == c)).reverse) t') s') :
    wpAny (model PP W.w) A (call (.builtin "str.rstrip") [.str (T l) t, .str (T [c]) u]) Q E s :=
  SC.rstripChars (fun t' k => by rw [rstripChars1]; exact h _ _ (S.tk k)) (by rw [T_len, sizeLine_eq]; exact hsz)
theorem s_lstrip (S : St W φ g0 names g L vals mu s) (hsz : l.length ≤ 16777216) (h : ∀ t' s', St W φ g0 names g L vals mu s' → Q (.str (T (l.dropWhile Unicode.isSpace)) t') s') :
    wpAny (model PP W.w) A (call (.builtin "str.lstrip") [.str (T l) t]) Q E s :=
  SC.lstrip (fun t' k => by rw [lstrip_T]; exact h _ _ (S.tk k)) (by rw [T_len, sizeLine_eq]; exact hsz)
theorem s_rstrip (S : St W φ g0 names g L vals mu s) (hsz : l.length ≤ 16777216) (h : ∀ t' s', St W φ g0 names g L vals mu s' → Q (.str (T (l.reverse.dropWhile Unicode.isSpace).reverse) t') s') :
    wpAny (model PP W.w) A (call (.builtin "str.rstrip") [.str (T l) t]) Q E s :=
  SC.rstrip (fun t' k => by rw [rstrip_T]; exact h _ _ (S.tk k)) (by rw [T_len, sizeLine_eq]; exact hsz)
theorem s_len (S : St W φ g0 names g L vals mu s) (hsz : l.length ≤ 16777216) (h : ∀ k s', St W φ g0 names g L vals mu s' → Q (.int l.length k) s') :
    wpAny (model PP W.w) A (call (.builtin "len") [.str (T l) t]) Q E s := len_s (by rw [T_len]; exact hsz) (by rw [T_len]; exact h _ _ ((S.tk _)))
theorem s_tr {Q : Bool → Shared → Prop} (S : St W φ g0 names g L vals mu s) (hsz : l.length ≤ 16777216) (h : ∀ s', St W φ g0 names g L vals mu s' → Q (!l.isEmpty) s') : wpAny (model PP W.w) A (truthy (.str (T l) t)) Q E s :=
  tr_str (by rw [T_len]; exact hsz) (by
    have : ((T l).length != 0) = !l.isEmpty := by rw [T_len]; cases l <;> simp
    rw [this]; exact h _ ((S.tk _)))

theorem mul_T (c n : Nat) : Txt.mul (T [c]) (n : Int) = T (List.replicate n c) := by
  unfold Txt.mul
  rcases Nat.lt_or_ge n 1 with h | h
  · have : n = 0 := by walk_at "o"
    subst this; rfl
  · rw [if_neg (by walk_at "o")]
    by_cases h1 : n = 1
    · subst h1; rfl
    · have : ((n : Int) == 1 || (T [c]).length == 0) = false := by simp [Str.length]; walk_at "o"
      rw [this]
      simp only [Bool.false_eq_true, if_false, Int.toNat_natCast]
      have key : ∀ (k : Nat) (acc : Array Nat), ((List.replicate k #[c]).foldl (· ++ ·) acc) = acc ++ (List.replicate k c).toArray := by
        intro k
        induction k with
        | zero => intro acc; simp
        | succ k ih => intro acc; rw [List.replicate_succ, List.foldl_cons, ih, List.replicate_succ]; apply Array.toList_inj.mp; simp
      show Str.mk _ = Str.mk _
      congr 1
      show (List.replicate n #[c]).foldl (· ++ ·) #[] = _
      rw [key]; simp
theorem s_mul {c n : Nat} (S : St W φ g0 names g L vals mu s) (hn : n ≤ 100000) (h : ∀ t' s', St W φ g0 names g L vals mu s' → Q (.str (T (List.replicate n c)) t') s') :
    wpAny (model PP W.w) A (binaryOp .Mult (.str (T [c]) t) (.int n u)) Q E s := by
  refine SB.mul ⟨by simp; walk_at "o", fun h1 h2 => ?_, fun h1 h2 => ?_⟩ fun t' k => by rw [mul_T]; exact h _ _ (S.tk k)
  · have : ((T [c]).length : Int) = 1 := by rw [T_len]; rfl
    rw [this]
    have : (1 : Int) ≤ (2 ^ 63 - 1) / (n : Int) := by
      rw [Int.le_ediv_iff_mul_le (by walk_at "o")]; walk_at "o"
    walk_at "o"
  · rw [T_len]; unfold tooLong; rw [sizeLine_eq]; simp; walk_at "o"

noncomputable def txs : List (List Nat × Tok) → List Value := fun ps => ps.map fun p => .str (T p.1) p.2
theorem strValues_T (ps : List (List Nat × Tok)) : strValues (ps.map fun p => (T p.1, p.2)) = txs ps := by
  unfold strValues txs; rw [List.map_map]; rfl
theorem txs_of {l : List (Str × Tok)} {ls : List (List Nat)} (h : l.map (·.1) = ls.map T) : ∃ ps : List (List Nat × Tok), strValues l = txs ps ∧ ps.map (·.1) = ls := by
  refine ⟨l.map fun p => (p.1.cps.toList, p.2), ?_, ?_⟩
  · unfold strValues txs; rw [List.map_map]; rfl
  · rw [List.map_map]
    have := congrArg (List.map fun x : Str => x.cps.toList) h
    rw [List.map_map, List.map_map] at this
    refine this.trans ?_
    exact List.map_id ls
theorem splitL_len (c : Nat) (l : List Nat) : (splitL c l).length ≤ l.length + 1 := by
  induction l with
  | nil => simp [splitL]
  | cons x r ih =>
    by_cases h : x = c
    · subst h; rw [splitL_sep]; simp; walk_at "o"
    · rw [splitL_other h]
      cases hq : splitL c r with
      | nil => simp
      | cons p ps => rw [hq] at ih; simp at ih ⊢; walk_at "o"

theorem s_split {c : Nat} (S : St W φ g0 names g L vals mu s) (hsz : l.length ≤ 1000)
    (h : ∀ D ps s', ps.map (·.1) = splitL c l → St W φ g0 names g L vals ((D, lst (txs ps) 0) :: mu) s' → Q (.ref D) s') :
    wpAny (model PP W.w) A (call (.builtin "str.split") [.str (T l) t, .str (T [c]) u]) Q E s := by
  have hy : ((T [c]).length == 0) = false := by rw [T_len]; rfl
  have key := split_T c l
  have fin : ∀ (L' : List (Str × Tok)) k, L'.map (·.1) = (splitL c l).map T → Q (.ref s.heap.objs.size) { s with toks := k, heap := s.heap.push { cls := .type "list", data := .seq (strValues L').toArray } } := fun L' k e => by
    obtain ⟨ps, e1, e2⟩ := txs_of e
    rw [e1]
    exact h _ ps _ e2 ((S.push_mu (lst (txs ps) 0) rfl).tk k)
  have hsz1 : (T l).length ≤ sizeLine := by rw [T_len, sizeLine_eq]; walk_at "o"
  cases h1 : (decide ((T l).length < (T [c]).length) || decide (strKind (T l) < strKind (T [c])))
  · cases hf : (occurrences (T l) (T [c]) 0 (T l).length ((T l).length + 1)).isEmpty
    · have e : Txt.split (T l) (T [c]) = partsBetween (T l) (occurrences (T l) (T [c]) 0 (T l).length ((T l).length + 1)) (T [c]).length := (if_neg (ne_true_of_eq_false h1)).trans (if_neg (ne_true_of_eq_false hf))
      rw [key] at e
      refine call_meets F.slot_str_split (typeIs_str _ _ _) F.entry_str_split (F.args_str_split_2 _ _) (meets_str_split_sep (T l) (T [c]) t u h1 hy hf hsz1 (by rw [← e]; simp; have := splitL_len c l; rw [sizeLine_eq]; walk_at "o")) ?_
      show wants Q E _ { s with toks := _, heap := s.heap.push { cls := .type "list", data := .seq (strsFrom s.toks (partsBetween (T l) (occurrences (T l) (T [c]) 0 (T l).length ((T l).length + 1)) (T [c]).length)).toArray } }
      rw [strsFrom_eq]
      exact fin _ _ ((numbered_texts _ _).trans e.symm)
    · have e : Txt.split (T l) (T [c]) = [T l] := (if_neg (ne_true_of_eq_false h1)).trans (if_pos hf)
      rw [key] at e
      exact call_meets F.slot_str_split (typeIs_str _ _ _) F.entry_str_split (F.args_str_split_2 _ _) (meets_str_split_not_found (T l) (T [c]) t u h1 hy hf) (fin [(T l, t)] _ e.symm)
  · have e : Txt.split (T l) (T [c]) = [T l] := if_pos h1
    rw [key] at e
    exact call_meets F.slot_str_split (typeIs_str _ _ _) F.entry_str_split (F.args_str_split_2 _ _) (meets_str_split_cannot_occur (T l) (T [c]) t u h1) (fin [(T l, t)] _ e.symm)

theorem s_join {sep : List Nat} {D : Addr} {o : Obj} {ps : List (List Nat × Tok)} {n : Nat} (S : St W φ g0 names g L vals mu s) (hD : s.heap.get? D = some o) (ho : o = lst (txs ps) n)
    (hsz : ((ps.map (·.1)).map (·.length)).sum + ps.length * sep.length ≤ 16777216) (h : ∀ t' s', St W φ g0 names g L vals mu s' → Q (.str (T (joinL sep (ps.map (·.1)))) t') s') :
    wpAny (model PP W.w) A (call (.builtin "str.join") [.str (T sep) t, .ref D]) Q E s := by
  subst ho
  refine SC.join (D := D) (l := ps.map fun p => (T p.1, p.2)) (texts := (ps.map (·.1)).map T) ⟨_, hD, rfl, n, ?_⟩ (by simp [List.map_map, Function.comp_def]) (joinOk_of ?_) fun t' k => ?_
  · rw [strValues_T]
  · rw [List.map_map, T_len, List.length_map, List.length_map]
    have : ((fun x : Str => x.length) ∘ T) = List.length := funext fun l => T_len l
    rw [this]; exact hsz
  · rw [txtjoin_T]; exact h _ _ (S.tk k)
end
end
section
open PySem PySem.Calls PyProof.Rows PySem.Spec PySem.W PySem.Builtin.Str
noncomputable def stab : List (Str × List Nat) := [(Str.ofString "/", [47]),
  (Str.ofString ".", [46]),
  (Str.ofString "*", [42]),
  (Str.ofString "?", [63]),
  (Str.ofString "[", [91]),
  (Str.ofString "]", [93]),
  (Str.ofString "!", [33]),
  (Str.ofString "-", [45]),
  (Str.ofString "\\", [92]),
  (Str.ofString "\\\\", [92, 92]),
  (Str.ofString "\\[", [92, 91]),
  (Str.ofString "", []),
  (Str.ofString ",", [44]),
  (Str.ofString "\"", [34]),
  (Str.ofString "; ", [59, 32]),
  (Str.ofString ", ", [44, 32]),
  (Str.ofString "=", [61]),
  (Str.ofString "^", [94]),
  (Str.ofString "(?!)", [40, 63, 33, 41]),
  (Str.ofString ".*", [46, 42]),
  (Str.ofString "\\-", [92, 45]),
  (Str.ofString "ab...////*?[]\"\\=;, -^!|é", [97, 98, 46, 46, 46, 47, 47, 47, 47, 42, 63, 91, 93, 34, 92, 61, 59, 44, 32, 45, 94, 33, 124, 233]),
  (Str.ofString "*?[]\\-^|", [42, 63, 91, 93, 92, 45, 94, 124]),
  (Str.ofString "in", [105, 110]),
  (Str.ofString "f", [102]),
  (Str.ofString "m", [109]),
  (Str.ofString "ABCDEFGHIJKLMNOPQRSTUVWXYZ", [65, 66, 67, 68, 69, 70, 71, 72, 73, 74, 75, 76, 77, 78, 79, 80, 81, 82, 83, 84, 85, 86, 87, 88, 89, 90]),
  (Str.ofString "!#$%&'*+-.^_`|~0123456789", [33, 35, 36, 37, 38, 39, 42, 43, 45, 46, 94, 95, 96, 124, 126, 48, 49, 50, 51, 52, 53, 54, 55, 56, 57]),
  (Str.ofString "\"\\", [34, 92]),
  (Str.ofString ".^$*+?{}[]\\|()", [46, 94, 36, 42, 43, 63, 123, 125, 91, 93, 92, 124, 40, 41]),
  (Str.ofString "^\\", [94, 92]),
  (Str.ofString "[\\", [91, 92]),
  (Str.ofString "(?s:.*", [40, 63, 115, 58, 46, 42]),
  (Str.ofString ")\\Z", [41, 92, 90]),
  (Str.ofString "%s=%s", [37, 115, 61, 37, 115]),
  (Str.ofString "\"%s\"", [34, 37, 115, 34]),
  (Str.ofString "any run", [97, 110, 121, 32, 114, 117, 110])]
theorem stab_all : (stab.all fun p => decide (p.1 = T p.2)) = true := by decide +kernel
theorem assoc_mem {α : Type} : ∀ {t : List (Str × α)} {x : Str} {v : α}, assoc x t = some v → (x, v) ∈ t
  | [], x, v, h => by simp [assoc] at h
  | (y, u) :: r, x, v, h => by
    unfold assoc at h
    by_cases q : x = y
    · rw [if_pos q] at h; cases h; subst q; exact .head _
    · rw [if_neg q] at h; exact .tail _ (assoc_mem h)
theorem stab_ok {x : Str} {l : List Nat} (h : assoc x stab = some l) : x = T l := by
  have := List.all_eq_true.mp stab_all _ (assoc_mem h)
  simpa using this
section
variable {W : Wd} {φ g0 g g' : Gr} {names : List Str} {L : Addr} {vals vals' : List (Option Value)} {mu : List (Addr × Obj)} {s s' : Shared} {A : Around} {E : Value → Shared → Prop}
  {a b : Int} {t u : Tok} {Q : Value → Shared → Prop} {env : Env}
theorem i_add (S : St W φ g0 names g L vals mu s) (h : ∀ k s', St W φ g0 names g L vals mu s' → Q (.int (a + b) k) s') : wpAny (model PP W.w) A (binaryOp .Add (.int a t) (.int b u)) Q E s := P.add_int (h _ _ (S.tk _))
theorem i_iadd (S : St W φ g0 names g L vals mu s) (h : ∀ k s', St W φ g0 names g L vals mu s' → Q (.int (a + b) k) s') : wpAny (model PP W.w) A (inplaceOp .Add (.int a t) (.int b u)) Q E s := P.iadd_int (h _ _ (S.tk _))
theorem i_sub (S : St W φ g0 names g L vals mu s) (h : ∀ k s', St W φ g0 names g L vals mu s' → Q (.int (a - b) k) s') : wpAny (model PP W.w) A (binaryOp .Sub (.int a t) (.int b u)) Q E s := P.sub_int (h _ _ (S.tk _))
theorem i_neg (S : St W φ g0 names g L vals mu s) (h : ∀ k s', St W φ g0 names g L vals mu s' → Q (.int (-a) k) s') : wpAny (model PP W.w) A (unaryOp .USub (.int a t)) Q E s := P.neg_int (h _ _ (S.tk _))
theorem ev_int {c : Int} {k : Nat} {pos : Pos} (S : St W φ g0 names g L vals mu s) (h : ∀ k s', St W φ g0 names g L vals mu s' → Q (.int c k) s') : wpAny (model PP W.w) A (eval (.Constant (.int c) k pos) env) Q E s :=
  wpAny_Constant_int (h _ _ (S.tk _))
theorem ev_bin {l op r pos} {M : Model} (h : wpAny M A (eval l env) (biK M A E env r op Q) E s) : wpAny M A (eval (.BinOp l op r pos) env) Q E s := wpAny_BinOp h
theorem ev_una {op x pos} {M : Model} (h : wpAny M A (eval x env) (unK M A E op Q) E s) : wpAny M A (eval (.UnaryOp op x pos) env) Q E s := UnaryOp_ h
theorem ex_doc {x : Str} {k : Nat} {p pos : Pos} {Q : Flow → Shared → Prop} (S : St W φ g0 names g L vals mu s) (hi : interactive env = false) (hs : swapsWith (.Constant (.str x) k p) none pos.line env = pure false)
    (h : ∀ s', St W φ g0 names g L vals mu s' → Q .next s') : wpAny (model PP W.w) A (exec (.Expr (.Constant (.str x) k p) pos) env) Q E s :=
  ex_expr hi hs (Calls.Constant_str (h _ (S.tk _)))
theorem ev_strS {x : Str} {l : List Nat} {k : Nat} {pos : Pos} (S : St W φ g0 names g L vals mu s) (hx : x = T l) (h : ∀ t s', St W φ g0 names g L vals mu s' → Q (.str (T l) t) s') :
    wpAny (model PP W.w) A (eval (.Constant (.str x) k pos) env) Q E s := ev_str hx (h _ _ (S.tk _))
theorem FnAt.isFunc {a : Addr} {st : Stmt} (F : FnAt W a st) : ∃ o fd, W.h0.get? a = some o ∧ o.data = .func fd := by
  obtain ⟨_, _, _, _, o, _, _, _, _, _, h1, h2, _⟩ := onFn_out F
  exact ⟨o, _, h1, h2⟩
theorem cw_fn {f : Nat → Addr} {i : Nat} {pos : Pos} {e : Expr} {rest : List Expr} (G : Gl W f) (hi : fnums.contains i = true)
    (he : starEach (e :: rest) env = (false, eval e env) :: starEach rest env)
    (h : wpAny (model PP W.w) A (spliced (backTo pos (starEach (e :: rest) env))) (fnK W A E (f i) Q) E s) :
    wpAny (model PP W.w) A (callWith pos (.ref (f i)) [] (backTo pos (starEach (e :: rest) env)) []) Q E s := by
  obtain ⟨o, fd, ho, hd⟩ := (G.fn i hi).isFunc
  exact call_ref ho hd he h
theorem cw_b {pos : Pos} {id : String} {e : Expr} {rest : List Expr} {M : Model}
    (he : starEach (e :: rest) env = (false, eval e env) :: starEach rest env) (hplain : (backTo pos (starEach rest env)).any (·.1) = false)
    (h : wpAny M A (spliced (backTo pos (starEach (e :: rest) env))) (cbK0 M A E id Q) E s) :
    wpAny M A (callWith pos (.builtin id) [] (backTo pos (starEach (e :: rest) env)) []) Q E s := cw_blt he hplain h
theorem cw_m {pos : Pos} {id : String} {x : Value} {e : Expr} {rest : List Expr} {M : Model}
    (he : starEach (e :: rest) env = (false, eval e env) :: starEach rest env) (hplain : (backTo pos (starEach rest env)).any (·.1) = false)
    (h : wpAny M A (spliced (backTo pos (starEach (e :: rest) env))) (cbK1 M A E id x Q) E s) :
    wpAny M A (callWith pos (Value.builtin id, [x]).1 (Value.builtin id, [x]).2 (backTo pos (starEach (e :: rest) env)) []) Q E s := cw_blt he hplain h
theorem cw_m0 {pos : Pos} {id : String} {x : Value} {M : Model}
    (h : wpAny M A (call (.builtin id) [x]) Q E s) :
    wpAny M A (callWith pos (Value.builtin id, [x]).1 (Value.builtin id, [x]).2 (backTo pos (starEach [] env)) []) Q E s := cw_blt0 h
theorem ev_strC {x : Str} {l : List Nat} {k : Nat} {pos : Pos} (S : St W φ g0 names g L vals mu s) (hx : assoc x stab = some l) (h : ∀ t s', St W φ g0 names g L vals mu s' → Q (.str (T l) t) s') :
    wpAny (model PP W.w) A (eval (.Constant (.str x) k pos) env) Q E s := ev_str (stab_ok hx) (h _ _ (S.tk _))
end
end
section
open PySem PySem.Calls PyProof.Rows PySem.Spec PySem.W PySem.Builtin.Str
section
variable {W : Wd} {φ g0 g g' : Gr} {names : List Str} {L : Addr} {vals vals' : List (Option Value)} {mu : List (Addr × Obj)} {s s' : Shared} {A : Around} {E : Value → Shared → Prop}
  {l : List Nat} {t u : Tok} {Q : Value → Shared → Prop} {env : Env}
theorem St.extBut (S : St W φ g0 names g L vals mu s) {h' : Heap} (hk : Heap.ExtBut s.heap.objs.size s.heap h') : St W φ g0 names g L vals mu { s with heap := h' } :=
  S.ext (k := s.toks) fun b o e => hk b o (Nat.ne_of_lt (Heap.lt_size e)) e
theorem un_tup {a : Addr} {vs : List Value} {n : Nat} {Q : List Value → Shared → Prop} (S : St W φ g0 names g L vals mu s) (hh : A.handled = none) (ht : g a = some (tup vs)) (hn : vs.length = n)
    (h : ∀ s', St W φ g0 names g L vals mu s' → Q vs s') : wpAny (model PP W.w) A (unpackItems (.ref a) n none) Q E s := by
  have := unpackItems_tuple (prog := PP) (w := W.w) (E := E) (t := a) (items := vs.toArray) (Q := Q) hh ⟨_, S.gh _ _ ht, rfl, _, rfl⟩ (s := s) (A := A) fun h' hk => h _ (S.extBut hk)
  rw [List.size_toArray, hn] at this
  exact this
theorem as_tup {elts : List Expr} {x1} {pos : Pos} {a : Addr} {vs : List Value} {Q : Unit → Shared → Prop} (S : St W φ g0 names g L vals mu s) (hh : A.handled = none) (ht : g a = some (tup vs))
    (hn : (assignEach elts env).length = vs.length) (hstar : (assignEach elts env).findIdx? (·.1) = none)
    (h : ∀ s', St W φ g0 names g L vals mu s' → wpAny (model PP W.w) A (assignInOrder ((assignEach elts env).map (·.2)) vs) Q E s') : wpAny (model PP W.w) A (assign (.Tuple elts x1 pos) env (.ref a)) Q E s := by
  refine assign_Tuple_tuple (items := vs.toArray) hh ⟨_, S.gh _ _ ht, rfl, _, rfl⟩ (by rw [List.size_toArray]; exact hn) hstar fun h' hk => ?_
  exact h _ (S.extBut hk)
theorem cut_ns {value slice : Expr} {j : Nat} (S : St W φ g0 names g L vals mu s) (hj : j ≤ l.length) (hsz : l.length ≤ 16777216)
    (hs : subscripted slice false (.str (T l) t) (.ref s.heap.objs.size) = operate [.ref s.heap.objs.size, .str (T l) t] (getItem (.str (T l) t) (.ref s.heap.objs.size)))
    (h : ∀ t' s', St W φ g0 names g L vals mu s' → Q (.str (T (l.take j)) t') s') :
    wpAny (model PP W.w) A (subscriptTail value slice (.str (T l) t) (.ref s.heap.objs.size)) Q E { s with heap := s.heap.push { cls := .type "slice", data := .fields #[.none, .int j u, .none] } } :=
  cut_str (l := none) (u := some ((j : Int), u)) S rfl rfl (by rw [T_len]; exact hsz) (slice_ns hj) hs h
theorem cut_sn {value slice : Expr} {j : Nat} (S : St W φ g0 names g L vals mu s) (hj : j ≤ l.length) (hsz : l.length ≤ 16777216)
    (hs : subscripted slice false (.str (T l) t) (.ref s.heap.objs.size) = operate [.ref s.heap.objs.size, .str (T l) t] (getItem (.str (T l) t) (.ref s.heap.objs.size)))
    (h : ∀ t' s', St W φ g0 names g L vals mu s' → Q (.str (T (l.drop j)) t') s') :
    wpAny (model PP W.w) A (subscriptTail value slice (.str (T l) t) (.ref s.heap.objs.size)) Q E { s with heap := s.heap.push { cls := .type "slice", data := .fields #[.int j u, .none, .none] } } :=
  cut_str (u := none) (l := some ((j : Int), u)) S rfl rfl (by rw [T_len]; exact hsz) (slice_sn hj) hs h
theorem cut_ss {value slice : Expr} {i j : Nat} {v : Tok} (S : St W φ g0 names g L vals mu s) (hij : i ≤ j) (hj : j ≤ l.length) (hsz : l.length ≤ 16777216)
    (hs : subscripted slice false (.str (T l) t) (.ref s.heap.objs.size) = operate [.ref s.heap.objs.size, .str (T l) t] (getItem (.str (T l) t) (.ref s.heap.objs.size)))
    (h : ∀ t' s', St W φ g0 names g L vals mu s' → Q (.str (T ((l.drop i).take (j - i))) t') s') :
    wpAny (model PP W.w) A (subscriptTail value slice (.str (T l) t) (.ref s.heap.objs.size)) Q E { s with heap := s.heap.push { cls := .type "slice", data := .fields #[.int i v, .int j u, .none] } } :=
  cut_str (u := some ((j : Int), u)) (l := some ((i : Int), v)) S rfl rfl (by rw [T_len]; exact hsz) (slice_ss hij hj) hs h
theorem ex_swap2 {elts k tpos value pos} {x y : Str} {Q : Flow → Shared → Prop} {M : Model}
    (hs : swapsWithSole [.Tuple elts k tpos] value pos.line env = pure false)
    (hw : swappedStores [.Tuple elts k tpos] value env = pure (some [x, y]))
    (h : wpAny M A (eval value env) (fun v s₁ => wpAny M A (unpackItems v 2 none) (fun items s₂ =>
      wpAny M A (assignInOrder [bindName env y, bindName env x] items.reverse) (fun _ => Q .next) E s₂) E s₁) E s) :
    wpAny M A (exec (.Assign [.Tuple elts k tpos] value pos) env) Q E s := ex_swap hs hw h
theorem bind_name {x : Str} {v : Value} {M : Model} {Q : Unit → Shared → Prop} (h : wpAny M A (storeName env x v) Q E s) : wpAny M A (bindName env x v) Q E s := by
  unfold bindName
  exact wpAny_bind (wpAny_holding (wpAny_point (wpAny_bind (wpAny_mono h (fun _ _ h => wpAny_point h) fun _ _ x => x))))
theorem as_swap2 {x y : Str} {v1 v2 : Value} {M : Model} {Q : Unit → Shared → Prop}
    (h : wpAny M A (storeName env y v2) (fun _ s₁ => wpAny M A (storeName env x v1) Q E s₁) E s) :
    wpAny M A (assignInOrder [bindName env y, bindName env x] [v1, v2].reverse) Q E s := by
  refine assignInOrder_cons (wpAny_mono (bind_name h) (fun _ s₁ h₁ => ?_) fun _ _ x => x)
  exact assignInOrder_cons (wpAny_mono (bind_name h₁) (fun _ s₂ h₂ => assignInOrder_nil h₂) fun _ _ x => x)
theorem all_and1 {x : Expr} {M : Model} {Q : Bool → Shared → Prop} (h : wpAny M A (isTrue x env (eval x env)) Q E s) : wpAny M A (allTrue .And [x] env) Q E s :=
  all_and (wpAny_mono h (fun b _ h => ⟨fun e => wpAny_allTrue_And_nil (e ▸ h), fun e => e ▸ h⟩) fun _ _ x => x)
theorem all_or1 {x : Expr} {M : Model} {Q : Bool → Shared → Prop} (h : wpAny M A (isTrue x env (eval x env)) Q E s) : wpAny M A (allTrue .Or [x] env) Q E s :=
  all_or (wpAny_mono h (fun b _ h => ⟨fun e => wpAny_allTrue_Or_nil (e ▸ h), fun e => e ▸ h⟩) fun _ _ x => x)
theorem as_tup2 {x y : Str} {px py pos : Pos} {k : Nat} {a : Addr} {v1 v2 : Value} {Q : Unit → Shared → Prop} (S : St W φ g0 names g L vals mu s) (hh : A.handled = none) (ht : g a = some (tup [v1, v2]))
    (h : ∀ s', St W φ g0 names g L vals mu s' → wpAny (model PP W.w) A (storeName env x v1) (fun _ s₁ => wpAny (model PP W.w) A (storeName env y v2) Q E s₁) E s') :
    wpAny (model PP W.w) A (assign (.Tuple [.Name x px, .Name y py] k pos) env (.ref a)) Q E s := by
  refine as_tup S hh ht rfl rfl fun s' S' => ?_
  exact assignInOrder_cons (wpAny_mono (wpAny_assign_Name (h s' S')) (fun _ s₁ h₁ => assignInOrder_cons (wpAny_mono (wpAny_assign_Name h₁) (fun _ s₂ h₂ => assignInOrder_nil h₂) fun _ _ x => x)) fun _ _ x => x)
theorem as_tup3 {x y z : Str} {px py pz pos : Pos} {k : Nat} {a : Addr} {v1 v2 v3 : Value} {Q : Unit → Shared → Prop} (S : St W φ g0 names g L vals mu s) (hh : A.handled = none) (ht : g a = some (tup [v1, v2, v3]))
    (h : ∀ s', St W φ g0 names g L vals mu s' → wpAny (model PP W.w) A (storeName env x v1) (fun _ s₁ => wpAny (model PP W.w) A (storeName env y v2) (fun _ s₂ => wpAny (model PP W.w) A (storeName env z v3) Q E s₂) E s₁) E s') :
    wpAny (model PP W.w) A (assign (.Tuple [.Name x px, .Name y py, .Name z pz] k pos) env (.ref a)) Q E s := by
  refine as_tup S hh ht rfl rfl fun s' S' => ?_
  exact assignInOrder_cons (wpAny_mono (wpAny_assign_Name (h s' S')) (fun _ s₁ h₁ => assignInOrder_cons (wpAny_mono (wpAny_assign_Name h₁) (fun _ s₂ h₂ => assignInOrder_cons (wpAny_mono (wpAny_assign_Name h₂) (fun _ s₃ h₃ => assignInOrder_nil h₃) fun _ _ x => x)) fun _ _ x => x)) fun _ _ x => x)
theorem tf_false {P Q : Prop} (h : Q) : (false = true → P) ∧ (false = false → Q) := ⟨fun e => (nomatch e), fun _ => h⟩
theorem tf_true {P Q : Prop} (h : P) : (true = true → P) ∧ (true = false → Q) := ⟨fun _ => h, fun e => (nomatch e)⟩
theorem cut_n0 {value slice : Expr} (S : St W φ g0 names g L vals mu s) (hsz : l.length ≤ 16777216)
    (hs : subscripted slice false (.str (T l) t) (.ref s.heap.objs.size) = operate [.ref s.heap.objs.size, .str (T l) t] (getItem (.str (T l) t) (.ref s.heap.objs.size)))
    (h : ∀ t' s', St W φ g0 names g L vals mu s' → Q (.str (T []) t') s') :
    wpAny (model PP W.w) A (subscriptTail value slice (.str (T l) t) (.ref s.heap.objs.size)) Q E { s with heap := s.heap.push { cls := .type "slice", data := .fields #[.none, .int 0 u, .none] } } :=
  cut_ns (j := 0) S (Nat.zero_le _) hsz hs h
theorem cut_n2 {value slice : Expr} (S : St W φ g0 names g L vals mu s) (hj : 2 ≤ l.length) (hsz : l.length ≤ 16777216)
    (hs : subscripted slice false (.str (T l) t) (.ref s.heap.objs.size) = operate [.ref s.heap.objs.size, .str (T l) t] (getItem (.str (T l) t) (.ref s.heap.objs.size)))
    (h : ∀ t' s', St W φ g0 names g L vals mu s' → Q (.str (T (l.take 2)) t') s') :
    wpAny (model PP W.w) A (subscriptTail value slice (.str (T l) t) (.ref s.heap.objs.size)) Q E { s with heap := s.heap.push { cls := .type "slice", data := .fields #[.none, .int 2 u, .none] } } :=
  cut_ns (j := 2) S hj hsz hs h
theorem cut_1n {value slice : Expr} (S : St W φ g0 names g L vals mu s) (hj : 1 ≤ l.length) (hsz : l.length ≤ 16777216)
    (hs : subscripted slice false (.str (T l) t) (.ref s.heap.objs.size) = operate [.ref s.heap.objs.size, .str (T l) t] (getItem (.str (T l) t) (.ref s.heap.objs.size)))
    (h : ∀ t' s', St W φ g0 names g L vals mu s' → Q (.str (T (l.drop 1)) t') s') :
    wpAny (model PP W.w) A (subscriptTail value slice (.str (T l) t) (.ref s.heap.objs.size)) Q E { s with heap := s.heap.push { cls := .type "slice", data := .fields #[.int 1 u, .none, .none] } } :=
  cut_sn (j := 1) S hj hsz hs h
theorem to_false {P Q : Prop} (h : P) : (false = false → P) ∧ (false = true → Q) := ⟨fun _ => h, fun e => (nomatch e)⟩
theorem to_true {P Q : Prop} (h : Q) : (true = false → P) ∧ (true = true → Q) := ⟨fun e => (nomatch e), fun _ => h⟩
theorem tfT {b : Bool} {P Q : Prop} (e : b = true) (h : P) : (b = true → P) ∧ (b = false → Q) := ⟨fun _ => h, fun q => absurd (e.symm.trans q) (by decide)⟩
theorem tfF {b : Bool} {P Q : Prop} (e : b = false) (h : Q) : (b = true → P) ∧ (b = false → Q) := ⟨fun q => absurd (e.symm.trans q) (by decide), fun _ => h⟩
theorem toF {b : Bool} {P Q : Prop} (e : b = false) (h : P) : (b = false → P) ∧ (b = true → Q) := ⟨fun _ => h, fun q => absurd (e.symm.trans q) (by decide)⟩
theorem toT {b : Bool} {P Q : Prop} (e : b = true) (h : Q) : (b = false → P) ∧ (b = true → Q) := ⟨fun q => absurd (e.symm.trans q) (by decide), fun _ => h⟩
end
end
section
open PySem PySem.Calls PyProof.Rows PySem.Spec PySem.W PySem.Builtin.Str
section
variable {W : Wd} {φ g0 g g' : Gr} {names : List Str} {L : Addr} {vals vals' : List (Option Value)} {mu : List (Addr × Obj)} {s s' : Shared} {A : Around} {E : Value → Shared → Prop}

theorem St.dropPre {new : List (Addr × Obj)} (S : St W φ g0 names g L vals (new ++ mu) s) : St W φ g0 names g L vals mu s := by
  refine ⟨S.base, S.stat, S.g0g, S.gh, S.fh, S.ns, S.len, S.gL, S.fL, fun p hp => S.mus p (List.mem_append.mpr (.inr hp)), ?_, S.sep, fun t ht => ?_, S.os, S.gens⟩
  · have := S.nd; rw [List.map_append] at this; exact (List.nodup_append.mp this).2.1
  · obtain ⟨a, b, c, d, e⟩ := S.tabs t ht
    exact ⟨a, b, c, d, fun p hp => e p (List.mem_append.mpr (.inr hp))⟩
theorem St.let_go {I : Addr} {o : Obj} {h' : Heap} {k : Nat} (S : St W φ g0 names g L vals ((I, o) :: mu) s) (hk : ∀ b o, b ≠ I → s.heap.get? b = some o → h'.get? b = some o) :
    St W φ g0 names g L vals mu { s with heap := h', toks := k } := by
  obtain ⟨_, hIL, hIg, hIf⟩ := S.mus _ (List.mem_cons_self)
  have nd := S.nd
  rw [List.map_cons, List.nodup_cons] at nd
  obtain ⟨oL, es, ep, hL, r⟩ := id S.ns
  refine ⟨S.base, S.stat, S.g0g, fun b x e => hk b x (fun q => ?_) (S.gh b x e), fun b x e => hk b x (fun q => ?_) (S.fh b x e), ⟨oL, es, ep, hk _ _ (Ne.symm hIL) hL, r⟩, S.len, S.gL, S.fL, fun p hp => ?_, nd.2, S.sep, fun t ht => ?_, S.os, S.gens⟩
  · rw [q] at e; rw [hIg] at e; cases e
  · rw [q] at e; rw [hIf] at e; cases e
  · obtain ⟨a, b, c, d⟩ := S.mus p (List.mem_cons_of_mem _ hp)
    exact ⟨hk _ _ (fun q => nd.1 (List.mem_map.mpr ⟨p, hp, q⟩)) a, b, c, d⟩
  · obtain ⟨a, b, c, d, e⟩ := S.tabs t ht
    obtain ⟨ps, hp, r⟩ := id a
    refine ⟨a.mono (.refl _) ((hk _ _ (fun q => e _ List.mem_cons_self q.symm) hp).trans hp.symm), b, c, d, fun p hp => e p (List.mem_cons_of_mem _ hp)⟩
theorem St.turn0 {I : Addr} {o o' : Obj} {h' : Heap} {k : Nat} (S : St W φ g0 names g L vals ((I, o) :: mu) s) (hs : Heap.SameBut I s.heap h') (ho : h'.get? I = some o') :
    St W φ g0 names g L vals ((I, o') :: mu) { s with heap := h', toks := k } := S.turn (pre := []) hs ho

structure Nx (W : Wd) (A : Around) (φ : Gr) (I : Addr) (IO : Nat → Obj → Prop) (n : Nat) (P : Nat → Value → Prop) (C : Gr → Prop) : Prop where
  nx : ∀ {g0 names g L vals mu s i o E} {Q : Option Value → Shared → Prop}, C g → IO i o → St W φ g0 names g L vals ((I, o) :: mu) s →
    (∀ v o' s', i < n → P i v → IO (i + 1) o' → St W φ g0 names g L vals ((I, o') :: mu) s' → Q (some v) s') →
    (∀ s', n ≤ i → St W φ g0 names g L vals mu s' → Q none s') → wpAny (model PP W.w) A (pyNext (.ref I)) Q E s
  self : ∀ {g0 names g L vals mu s i o E} {Q : Value → Shared → Prop}, IO i o → St W φ g0 names g L vals ((I, o) :: mu) s → Q (.ref I) s → wpAny (model PP W.w) A (pyIter (.ref I)) Q E s

noncomputable def IOlist (l : Addr) (i : Nat) (o : Obj) : Prop := o.cls = .type "list_iterator" ∧ o.data = .fields #[.ref l, .int i 0]
theorem Nx.list (hh : A.handled = none) {l : Addr} {vs : List Value} {I : Addr} :
    Nx W A φ I (IOlist l) vs.length (fun i v => vs[i]? = some v) (fun g => ∃ n, g l = some (lst vs n) ∨ φ l = some (lst vs n)) where
  nx := fun {g0 names g L vals mu s i o E Q} hC hI S hs he => by
    obtain ⟨n, hC⟩ := hC
    obtain ⟨h1, hL, hIg, hIf⟩ := S.mus _ (List.mem_cons_self)
    have hl : s.heap.IsList l vs.toArray := by
      rcases hC with hC | hC
      · exact ⟨_, S.gh _ _ hC, rfl, _, rfl⟩
      · exact ⟨_, S.fh _ _ hC, rfl, _, rfl⟩
    have hit : s.heap.IsListIter I l i := ⟨o, h1, hI.1, hI.2⟩
    cases hv : vs[i]? with
    | some v =>
      refine wpAny_pyNext_list_item hit hl (x := v) (by simpa using hv) fun h' hit' hs' => ?_
      obtain ⟨o', ho', c1, c2⟩ := hit'
      exact hs v o' _ (List.getElem?_eq_some_iff.mp hv).1 hv ⟨c1, c2⟩ (S.turn0 (k := s.toks) hs' ho')
    | none =>
      refine wpAny_pyNext_list_end hh hit hl (by simpa using hv) fun h' he' => ?_
      exact he _ (List.getElem?_eq_none_iff.mp hv) (S.let_go (k := s.toks) he')
  self := fun {g0 names g L vals mu s i o E Q} hI S hQ => by
    exact wpAny_pyIter_listiter ⟨o, (S.mus _ (List.mem_cons_self)).1, hI.1, hI.2⟩ hQ
theorem it_list {l : Addr} {ol : Obj} {vs : List Value} {n : Nat} {Q : Value → Shared → Prop} (S : St W φ g0 names g L vals mu s) (hl : s.heap.get? l = some ol) (ho : ol = lst vs n)
    (h : ∀ I o s', IOlist l 0 o → St W φ g0 names g L vals ((I, o) :: mu) s' → Q (.ref I) s') : wpAny (model PP W.w) A (pyIter (.ref l)) Q E s := by
  subst ho
  refine wpAny_pyIter_list (items := vs.toArray) ⟨_, hl, rfl, _, rfl⟩ ?_
  exact h _ _ _ ⟨rfl, rfl⟩ (S.push_mu _ rfl)

noncomputable def IOtup (l : Addr) (i : Nat) (o : Obj) : Prop := o.cls = .type "tuple_iterator" ∧ o.data = .fields #[.ref l, .int i 0]

noncomputable def IOstr (x : Str) (t : Tok) (i : Nat) (o : Obj) : Prop := o.cls = .type (strIterType x) ∧ o.data = .fields #[.str x t, .int i 0]
theorem Nx.str (hh : A.handled = none) {l : List Nat} {t : Tok} {I : Addr} :
    Nx W A φ I (IOstr (T l) t) l.length (fun i v => ∃ c u, l[i]? = some c ∧ v = .str (T [c]) u) (fun _ => True) where
  nx := fun {g0 names g L vals mu s i o E Q} _ hI S hs he => by
    obtain ⟨h1, hL, hIg, hIf⟩ := S.mus _ (List.mem_cons_self)
    have hit : s.heap.IsStrIter I (strIterType (T l)) (T l) t i := ⟨o, h1, hI.1, hI.2⟩
    have key : (∀ (c : Nat) (Q : Option Value → Shared → Prop), (T l).cps[i]? = some c →
        (∀ h', h'.IsStrIter I (strIterType (T l)) (T l) t (i + 1) → Heap.SameBut I s.heap h' → Q (some (.str ⟨#[c]⟩ s.toks)) { s with heap := h', toks := s.toks + 1 }) → wpAny (model PP W.w) A (pyNext (.ref I)) Q E s) ∧
        (∀ Q : Option Value → Shared → Prop, (T l).cps[i]? = none → (∀ h', Heap.ExtBut I s.heap h' → Q none { s with heap := h' }) → wpAny (model PP W.w) A (pyNext (.ref I)) Q E s) := by
      unfold strIterType at *
      cases ha : (T l).cps.all (· < 128)
      · rw [ha] at hit
        exact ⟨fun c Q hx hQ => wpAny_pyNext_wide_item hit hx hQ, fun Q hx hQ => wpAny_pyNext_wide_end hh hit hx hQ⟩
      · rw [ha] at hit
        exact ⟨fun c Q hx hQ => wpAny_pyNext_ascii_item hit hx hQ, fun Q hx hQ => wpAny_pyNext_ascii_end hh hit hx hQ⟩
    cases hv : l[i]? with
    | some c =>
      refine key.1 c Q (by simpa using hv) fun h' hit' hs' => ?_
      obtain ⟨o', ho', c1, c2⟩ := hit'
      exact hs _ o' _ (List.getElem?_eq_some_iff.mp hv).1 ⟨c, _, hv, rfl⟩ ⟨c1, c2⟩ (S.turn0 hs' ho')
    | none =>
      refine key.2 Q (by simpa using hv) fun h' he' => ?_
      exact he _ (List.getElem?_eq_none_iff.mp hv) (S.let_go (k := s.toks) he')
  self := fun {g0 names g L vals mu s i o E Q} hI S hQ => by
    have hit : s.heap.IsStrIter I (strIterType (T l)) (T l) t i := ⟨o, (S.mus _ (List.mem_cons_self)).1, hI.1, hI.2⟩
    unfold strIterType at hit
    cases ha : (T l).cps.all (· < 128)
    · rw [ha] at hit; exact wpAny_pyIter_striter_wide hit hQ
    · rw [ha] at hit; exact wpAny_pyIter_striter_ascii hit hQ
theorem it_str {l : List Nat} {t : Tok} {Q : Value → Shared → Prop} (S : St W φ g0 names g L vals mu s)
    (h : ∀ I o s', IOstr (T l) t 0 o → St W φ g0 names g L vals ((I, o) :: mu) s' → Q (.ref I) s') : wpAny (model PP W.w) A (pyIter (.str (T l) t)) Q E s := by
  refine wpAny_pyIter_strU ?_
  exact h _ _ _ ⟨rfl, rfl⟩ (S.push_mu _ rfl)

inductive Bk (W : Wd) (φ g0 : Gr) (names : List Str) (L : Addr) (it : List (Addr × Obj)) (J : Nat → Gr → List (Option Value) → List (Addr × Obj) → Prop) (i : Nat) (s : Shared) : Prop
  | mk (g' : Gr) (vals' : List (Option Value)) (mu' new : List (Addr × Obj)) (S : St W φ g0 names g' L vals' (new ++ (it ++ mu')) s) (h : J i g' vals' mu') : Bk W φ g0 names L it J i s
noncomputable def LQ (W : Wd) (φ g0 : Gr) (names : List Str) (L : Addr) (it : List (Addr × Obj)) (J : Nat → Gr → List (Option Value) → List (Addr × Obj) → Prop) (i : Nat) (R : Result → Shared → Prop) : Flow → Shared → Prop := fun f s => match f with
  | .next | .cont => Bk W φ g0 names L it J i s
  | .brk => R (.ok .next) s
  | .ret v => R (.ok (.ret v)) s
noncomputable def RQ (Q : Flow → Shared → Prop) : Result → Shared → Prop := fun r s' => match r with | .ok f => Q f s' | .error _ => False
theorem RQ.mk {Q : Flow → Shared → Prop} {f : Flow} {s : Shared} (q : Q f s) : RQ Q (.ok f) s := q
section
variable {it : List (Addr × Obj)} {J : Nat → Gr → List (Option Value) → List (Addr × Obj) → Prop} {i : Nat} {R : Result → Shared → Prop} {K Q : Flow → Shared → Prop} {v : Value}
theorem HD.ln (h : HD K (LQ W φ g0 names L it J i R)) (q : Bk W φ g0 names L it J i s) : K .next s := h _ _ q
theorem HD.lc (h : HD K (LQ W φ g0 names L it J i R)) (q : Bk W φ g0 names L it J i s) : K .cont s := h _ _ q
theorem HD.lb (h : HD K (LQ W φ g0 names L it J i (RQ Q))) (q : Q .next s) : K .brk s := h _ _ q
theorem HD.lr (h : HD K (LQ W φ g0 names L it J i (RQ Q))) (q : Q (.ret v) s) : K (.ret v) s := h _ _ q
end
theorem for_loop {I : Addr} {IO : Nat → Obj → Prop} {n : Nat} {P : Nat → Value → Prop} {C : Gr → Prop} {target : Expr} {body : List Stmt} {env : Env} {o : Obj} {R : Result → Shared → Prop}
    (J : Nat → Gr → List (Option Value) → List (Addr × Obj) → Prop) (N : Nx W A φ I IO n P C) (hC : ∀ i g vals mu, J i g vals mu → C g) (hI : IO 0 o)
    (S : St W φ g0 names g L vals ((I, o) :: mu) s) (h0 : J 0 g vals mu) (ht : ∀ v, letOwnedTupleGo target (.ref I) v = pure ())
    (step : ∀ i g vals mu v s o, i < n → J i g vals mu → P i v → St W φ g0 names g L vals ((I, o) :: mu) s →
      ∀ K, HD K (LQ W φ g0 names L [(I, o)] J (i + 1) R) → wpAny (model PP W.w) A (assign target env v) (bdK (model PP W.w) A NoE env body K) NoE s)
    (fin : ∀ g vals mu s, J n g vals mu → St W φ g0 names g L vals mu s → R (.ok .next) s) :
    codeAny (model PP W.w) A (.forLoop target (.ref I) body [] env) R s := by
  refine codeAny_forLoop (fun k s => ∃ i g vals mu o, k = n + 1 - i ∧ i ≤ n ∧ IO i o ∧ J i g vals mu ∧ St W φ g0 names g L vals ((I, o) :: mu) s) ?_ (n + 1) ⟨0, g, vals, mu, o, rfl, Nat.zero_le _, hI, h0, S⟩ ht
  rintro k s ⟨i, g, vals, mu, o, rfl, hi, hIO, hJ, S⟩
  refine N.nx (hC _ _ _ _ hJ) hIO S (fun v o' s' hlt hP hIO' S' => ?_) fun s' hge S' => ?_
  · refine NoE_to (wpAny_mono (step i g vals mu v s' o' hlt hJ hP S' _ fun _ _ x => x) (fun _ s₂ h₂ => ?_) fun _ _ x => x.elim)
    refine NoE_to (wpAny_mono h₂ (fun f s₃ h₃ => ?_) fun _ _ x => x.elim)
    have key : Bk W φ g0 names L [(I, o')] J (i + 1) s₃ → ∃ m, m < n + 1 - i ∧ ∃ i g vals mu o, m = n + 1 - i ∧ i ≤ n ∧ IO i o ∧ J i g vals mu ∧ St W φ g0 names g L vals ((I, o) :: mu) s₃ := by
      rintro ⟨g', vals', mu', new, S₃, hJ'⟩
      exact ⟨n + 1 - (i + 1), by walk_at "o", i + 1, g', vals', mu', o', rfl, hlt, hIO', hJ', S₃.dropPre⟩
    cases f with
    | next => exact key h₃
    | cont => exact key h₃
    | brk => exact h₃
    | ret v => exact h₃
  · have : i = n := by walk_at "o"
    subst this
    exact wpAny_execs_nil (fin _ _ _ _ hJ S')

theorem ex_for {target iter body pos env} {Q : Flow → Shared → Prop} (hs : ∀ x, foldedSetIterable iter env x = pure x)
    (h : wpAny (model PP W.w) A (eval iter env) (foK (model PP W.w) A E env target body (RQ Q)) E s) :
    wpAny (model PP W.w) A (exec (.For target iter body [] pos) env) Q E s := by
  refine wpAny_For (wpAny_mono h (fun x s₁ h₁ => wpAny_mono h₁ (fun it s₂ h₂ => codeAny_mono h₂ fun r s' h => ?_) fun _ _ x => x) fun _ _ x => x) hs
  cases r with
  | ok f => exact h
  | error e => exact h.elim
inductive Wk (I : Nat → Shared → Prop) (n : Nat) (s : Shared) : Prop
  | mk (m : Nat) (h : m < n) (x : I m s) : Wk I n s
noncomputable def WQ (I : Nat → Shared → Prop) (n : Nat) (Q : Flow → Shared → Prop) : Flow → Shared → Prop := fun f s => match f with
  | .next | .cont => Wk I n s
  | .brk => Q .next s
  | .ret v => Q (.ret v) s
theorem HD.wn {I : Nat → Shared → Prop} {n : Nat} {K Q : Flow → Shared → Prop} (h : HD K (WQ I n Q)) (q : Wk I n s) : K .next s := h _ _ q
theorem HD.wc {I : Nat → Shared → Prop} {n : Nat} {K Q : Flow → Shared → Prop} (h : HD K (WQ I n Q)) (q : Wk I n s) : K .cont s := h _ _ q
theorem HD.wb {I : Nat → Shared → Prop} {n : Nat} {K Q : Flow → Shared → Prop} (h : HD K (WQ I n Q)) (q : Q .next s) : K .brk s := h _ _ q
theorem HD.wr {I : Nat → Shared → Prop} {n : Nat} {K Q : Flow → Shared → Prop} {v : Value} (h : HD K (WQ I n Q)) (q : Q (.ret v) s) : K (.ret v) s := h _ _ q
theorem ex_while {test : Expr} {body pos env} {Q : Flow → Shared → Prop} (I : Nat → Shared → Prop) (n : Nat) (h : I n s)
    (turn : ∀ n s, I n s → wpAny (model PP W.w) A (isTrue test env (eval test env)) (fun b s₂ =>
      (b = true → ∀ K, HD K (WQ I n Q) → wpAny (model PP W.w) A (execs body env) K NoE s₂) ∧ (b = false → Q .next s₂)) NoE s) :
    wpAny (model PP W.w) A (exec (.While test body [] pos) env) Q E s := by
  refine wpAny_While (codeAny_whileLoop I (fun n s hI => NoE_to (wpAny_mono (turn n s hI) (fun b s₂ h₂ => ?_) fun _ _ x => x.elim)) n h)
  cases b with
  | true =>
    rw [if_pos rfl]
    refine NoE_to (wpAny_mono (h₂.1 rfl _ fun _ _ x => x) (fun f s₃ h₃ => ?_) fun _ _ x => x.elim)
    cases f with
    | next => obtain ⟨m, h, x⟩ := h₃; exact ⟨m, h, x⟩
    | cont => obtain ⟨m, h, x⟩ := h₃; exact ⟨m, h, x⟩
    | brk => exact h₃
    | ret v => exact h₃
  | false =>
    rw [if_neg (by decide)]
    exact wpAny_execs_nil (h₂.2 rfl)
end
end
section
open PySem PySem.Calls PyProof.Rows PySem.Spec PySem.W PySem.Builtin.Str
section
variable {W : Wd} {φ g0 g g' : Gr} {names : List Str} {L : Addr} {vals vals' : List (Option Value)} {mu : List (Addr × Obj)} {s s' : Shared} {A : Around} {E : Value → Shared → Prop}
theorem Nx.tup (hh : A.handled = none) {l : Addr} {vs : List Value} {I : Addr} :
    Nx W A φ I (IOtup l) vs.length (fun i v => vs[i]? = some v) (fun g => g l = some (tup vs) ∨ φ l = some (tup vs)) where
  nx := fun {g0 names g L vals mu s i o E Q} hC hI S hs he => by
    obtain ⟨h1, hL, hIg, hIf⟩ := S.mus _ (List.mem_cons_self)
    have hl : s.heap.IsTuple l vs.toArray := by
      rcases hC with hC | hC
      · exact ⟨_, S.gh _ _ hC, rfl, _, rfl⟩
      · exact ⟨_, S.fh _ _ hC, rfl, _, rfl⟩
    have hit : s.heap.IsTupleIter I l i := ⟨o, h1, hI.1, hI.2⟩
    cases hv : vs[i]? with
    | some v =>
      refine wpAny_pyNext_tuple_item hit hl (x := v) (by simpa using hv) fun h' hit' hs' => ?_
      obtain ⟨o', ho', c1, c2⟩ := hit'
      exact hs v o' _ (List.getElem?_eq_some_iff.mp hv).1 hv ⟨c1, c2⟩ (S.turn0 (k := s.toks) hs' ho')
    | none =>
      refine wpAny_pyNext_tuple_end hh hit hl (by simpa using hv) fun h' he' => ?_
      exact he _ (List.getElem?_eq_none_iff.mp hv) (S.let_go (k := s.toks) he')
  self := fun {g0 names g L vals mu s i o E Q} hI S hQ => by
    exact wpAny_pyIter_tupleiter ⟨o, (S.mus _ (List.mem_cons_self)).1, hI.1, hI.2⟩ hQ
theorem it_tup {l : Addr} {ol : Obj} {vs : List Value} {Q : Value → Shared → Prop} (S : St W φ g0 names g L vals mu s) (hl : s.heap.get? l = some ol) (ho : ol = tup vs)
    (h : ∀ I o s', IOtup l 0 o → St W φ g0 names g L vals ((I, o) :: mu) s' → Q (.ref I) s') : wpAny (model PP W.w) A (pyIter (.ref l)) Q E s := by
  subst ho
  refine wpAny_pyIter_tuple (items := vs.toArray) ⟨_, hl, rfl, _, rfl⟩ ?_
  exact h _ _ _ ⟨rfl, rfl⟩ (S.push_mu _ rfl)

theorem Rdy.push (R : Rdy W g s) (o : Obj) (hf : o.isFreed = false) : Rdy W (gset g s.heap.objs.size o) { s with heap := s.heap.push o } := by
  have hn : g s.heap.objs.size = none := by
    cases q : g s.heap.objs.size with
    | none => rfl
    | some o' => exact absurd (Heap.lt_size (R.gh _ _ q)) (Nat.lt_irrefl _)
  refine ⟨R.base, fun a o' e => gset_sub hn _ _ (R.stat a o' e), fun b o' e => ?_, fun t ht => ?_, R.os, R.gens⟩
  · unfold gset at e
    by_cases q : b = s.heap.objs.size
    · subst q; rw [if_pos rfl] at e; cases e; exact Heap.get?_push_size _ hf
    · rw [if_neg q] at e; exact Heap.get?_push_of_some _ (R.gh b o' e)
  · obtain ⟨a, b⟩ := R.tabs t ht
    obtain ⟨ps, hp, r⟩ := id a
    refine ⟨a.mono (gset_sub hn) ((Heap.get?_push_of_some _ hp).trans hp.symm), ?_⟩
    unfold gset
    rw [if_neg (Nat.ne_of_lt (Heap.lt_size hp))]; exact b

theorem enterV {n : Nat} {a : Addr} {name : Str} {params : Arguments} {body : List Stmt} {scope : Scope} {o : Obj} {doc pm cd ct : Value} {an : Option Addr} {args vs : List Value}
    {bnd : Value → List (Str × Value)} {Post : Gr → Value → Prop} {Q : Value → Shared → Prop} (valsOf : Value → List (Option Value))
    (hA : Rm (n + 1) A) (R : Rdy W g s) (ho : W.h0.get? a = some o) (hd : o.data = .func (fnOf name name params body scope .none .none doc pm an cd ct)) (hc : W.h0.CodeRec cd name)
    (hb : bindArgs (fnOf name name params body scope .none .none doc pm an cd ct) ⟨args, []⟩ = (do let v ← newTuple vs; pure (bnd v))) (hvs : vs.length ≤ 1000)
    (hloc : ∀ v, ∀ x ∈ bnd v, scope.names.lookup x.1 = some .local) (hlen : ∀ v, (valsOf v).length = names.length) (hv : ∀ v x, look names (valsOf v) x = (bnd v).reverse.lookup x)
    (hco : scope.isCoroutine = false) (hgen : scope.isGenerator = false) (hk : scope.kind = .function) (hcell : ∀ x ∈ scope.names, x.2 ≠ .cell)
    (h : ∀ φ L T g₁ s₁, Sub g g₁ → g₁ T = some (tup vs) → St W φ g₁ names g₁ L (valsOf (.ref T)) [] s₁ → ∀ K, HD K (FQ W φ g₁ names L Post) → wpAny (model PP W.w) (A.deeper (envOf name scope L a cd)) (execs body (envOf name scope L a cd)) K NoE s₁)
    (k : ∀ v g' s', Fin' W g s g' s' → Post g' v → Q v s') : wpAny (model PP W.w) A (call (.ref a) args) Q NoE s := by
  have hn : g s.heap.objs.size = none := by
    cases q : g s.heap.objs.size with
    | none => rfl
    | some o' => exact absurd (Heap.lt_size (R.gh _ _ q)) (Nat.lt_irrefl _)
  have R' := R.push (tup vs) rfl
  have toH : ∀ b o, W.h0.get? b = some o → s.heap.get? b = some o := fun b o e => R.gh b o (R.stat b o e)
  have toH' : ∀ b o, W.h0.get? b = some o → (s.heap.push (tup vs)).get? b = some o := fun b o e => R'.gh b o (R'.stat b o e)
  have hlim : (s.heap.push (tup vs)).NoLimit := R.base.nolimit.keeps toH'
  refine wpAny_call (codeAny_call_function hA.room (toH _ _ ho) hd hco hgen rfl (hc.keeps toH) ?_)
  rw [hb]
  refine wpAny_bind (wpAny_newObj_type ?_ (by show vs.toArray.size ≤ sizeLine; rw [List.size_toArray, sizeLine_eq]; walk_at "o"))
  refine wpAny_pure (wpAny_newFunctionEnv hcell (hloc _) (fun h₁ hns hsb => ⟨hlim.fresh _ hsb, ?_⟩) hk)
  show codeAny _ _ (.func body (envOf name scope (s.heap.push (tup vs)).objs.size a cd)) _ _
  have hk₁ : ∀ b o, (s.heap.push (tup vs)).get? b = some o → h₁.get? b = some o := fun b o e => hsb.extBut b o (Nat.ne_of_lt (Heap.lt_size e)) (Heap.get?_push_of_some _ e)
  have hns' : h₁.Ns (s.heap.push (tup vs)).objs.size (look names (valsOf (.ref s.heap.objs.size))) := by
    rw [show look names (valsOf (.ref s.heap.objs.size)) = fun x => (bnd (.ref s.heap.objs.size)).reverse.lookup x from funext (hv _)]; exact hns
  refine codeAny_func (wpAny_mono (h _ _ s.heap.objs.size _ _ (gset_sub hn) (gset_self _ _ _) (St.start (k := s.toks + (bnd (.ref s.heap.objs.size)).length) R' hns' (hlen _) hk₁) _ fun _ _ x => x) (fun f s' hf => ?_) fun e s' hf => hf.elim)
  obtain ⟨g', vals', mu', S, hp⟩ := hf
  have F := S.fin
  refine k _ _ _ ⟨F.rdy, (gset_sub hn).trans F.sub, fun b o e q => F.keep b o (Heap.get?_push_of_some _ e) q, fun b hb hb' => ?_⟩ hp
  have h1 := F.fresh b hb (by
    cases q : s.heap.get? b with
    | none => exact absurd q hb'
    | some o => rw [show ({ s with heap := s.heap.push (tup vs) } : Shared).heap.get? b = some o from Heap.get?_push_of_some _ q]; simp)
  unfold gset at h1
  by_cases q : b = s.heap.objs.size
  · subst q
    cases q : s.heap.get? s.heap.objs.size with
    | none => exact absurd q hb'
    | some o => exact absurd (Heap.lt_size q) (Nat.lt_irrefl _)
  · rw [if_neg q] at h1; exact h1

theorem ex_try {body : List Stmt} {h₀ : ExceptHandler} {hs : List ExceptHandler} {pos : Pos} {env : Env} {Q : Flow → Shared → Prop}
    (h : wpAny (model PP W.w) A (execs body env) Q NoE s) : wpAny (model PP W.w) A (exec (.Try body (h₀ :: hs) [] [] pos) env) Q E s :=
  wpAny_Try_except (NoE_to (wpAny_mono h (fun f s₁ h₁ => by cases f <;> first | exact wpAny_execs_nil h₁ | exact h₁) fun _ _ x => x.elim))
end
end
section
open PySem PySem.Calls PyProof.Rows PySem.Spec PySem.W PySem.Builtin.Str
section
variable {W : Wd} {φ g0 g g' : Gr} {names names' : List Str} {L L' : Addr} {vals vals' : List (Option Value)} {mu mu0 new new' : List (Addr × Obj)} {s s' : Shared} {A : Around} {E : Value → Shared → Prop}

open Classical in
noncomputable def hidM (W : Wd) (new : List (Addr × Obj)) (h : Heap) : Gr := fun b => if (∃ t ∈ W.tabs, t.P = b) ∨ b ∈ new.map (·.1) then none else h.get? b
theorem hidM_some {b : Addr} {o : Obj} {h : Heap} (e : hidM W new h b = some o) : h.get? b = some o ∧ (∀ t ∈ W.tabs, t.P ≠ b) ∧ b ∉ new.map (·.1) := by
  unfold hidM at e
  split at e
  · cases e
  · rename_i q; exact ⟨e, fun t ht x => q (.inl ⟨t, ht, x⟩), fun x => q (.inr x)⟩
theorem hidM_of {b : Addr} {o : Obj} {h : Heap} (e : h.get? b = some o) (q : ∀ t ∈ W.tabs, t.P ≠ b) (q' : b ∉ new.map (·.1)) : hidM W new h b = some o := by
  unfold hidM
  rw [if_neg (by rintro (⟨t, ht, x⟩ | x); exact q t ht x; exact q' x)]; exact e

theorem St.sub (S : St W φ g0 names g L vals (new ++ mu0) s) {h₁ : Heap} {k : Nat} (hns : h₁.Ns s.heap.objs.size (look names' vals')) (hlen : vals'.length = names'.length)
    (hk : ∀ b o, s.heap.get? b = some o → h₁.get? b = some o) :
    St W (hidM W new s.heap) g names' g s.heap.objs.size vals' new { s with heap := h₁, toks := k } := by
  have fresh : ∀ b o', s.heap.get? b = some o' → b ≠ s.heap.objs.size := fun b o' e => Nat.ne_of_lt (Heap.lt_size e)
  refine ⟨S.base, fun a o e => S.g0g a o (S.stat a o e), .refl _, fun a o e => hk _ _ (S.gh a o e), fun a o e => hk _ _ (hidM_some e).1, hns, hlen, ?_, ?_, fun p hp => ?_, ?_, fun _ h _ => h, fun t ht => ?_, S.os, S.gens⟩
  · cases q : g s.heap.objs.size with
    | none => rfl
    | some o' => exact absurd rfl (fresh _ _ (S.gh _ _ q))
  · cases q : hidM W new s.heap s.heap.objs.size with
    | none => rfl
    | some o' => exact absurd rfl (fresh _ _ (hidM_some q).1)
  · obtain ⟨a, b, c, d⟩ := S.mus p (List.mem_append.mpr (.inl hp))
    refine ⟨hk _ _ a, fresh _ _ a, c, ?_⟩
    unfold hidM; rw [if_pos (.inr (List.mem_map_of_mem hp))]
  · have := S.nd; rw [List.map_append] at this; exact (List.nodup_append.mp this).1
  · obtain ⟨a, b, c, d, e⟩ := S.tabs t ht
    obtain ⟨ps, hp, r⟩ := id a
    refine ⟨a.mono (.refl _) ((hk _ _ hp).trans hp.symm), b, ?_, fresh _ _ hp, fun p hp => e p (List.mem_append.mpr (.inl hp))⟩
    unfold hidM; rw [if_pos (.inl ⟨t, ht, rfl⟩)]

theorem St.unsub (S : St W φ g0 names g L vals (new ++ mu0) s) (S' : St W (hidM W new s.heap) g names' g' L' vals' new' s') (hnew : (new'.map (·.1)).Sublist (new.map (·.1))) (hdead : ∀ b ∈ new.map (·.1), g' b = none) {h' : Heap} (hs : Heap.SameBut L' s'.heap h') :
    St W φ g0 names g' L vals (new' ++ mu0) { s' with heap := h' } := by
  have keep : ∀ b o, s.heap.get? b = some o → (∀ t ∈ W.tabs, t.P ≠ b) → b ∉ new.map (·.1) → h'.get? b = some o := fun b o e q q' => by
    have h1 := hidM_of (W := W) (new := new) e q q'
    have hb : b ≠ L' := fun x => by subst x; rw [S'.fL] at h1; cases h1
    exact (hs.2 b hb).trans (S'.fh b o h1)
  have back : ∀ b, g' b ≠ none → s.heap.get? b ≠ none → g b ≠ none := fun b hb hb' => by
    by_cases hT : ∃ t ∈ W.tabs, t.P = b
    · obtain ⟨t, ht, rfl⟩ := hT
      exact absurd (S'.tabs t ht).2.1 hb
    · by_cases hN : b ∈ new.map (·.1)
      · exact absurd (hdead b hN) hb
      · refine S'.sep b hb ?_
        unfold hidM
        rw [if_neg (by rintro (x | x); exact hT x; exact hN x)]; exact hb'
  have nt : ∀ b o, φ b = some o → ∀ t ∈ W.tabs, t.P ≠ b := fun b o e t ht q => by
    have := (S.tabs t ht).2.2.1; rw [q, e] at this; cases this
  have nN : ∀ b o, φ b = some o → b ∉ new.map (·.1) := fun b o e hN => by
    obtain ⟨p, hp, rfl⟩ := List.mem_map.mp hN
    have := (S.mus p (List.mem_append.mpr (.inl hp))).2.2.2; rw [e] at this; cases this
  have nd := S.nd
  rw [List.map_append] at nd
  obtain ⟨oL, es, ep, hL, r⟩ := id S.ns
  have LN : L ∉ new.map (·.1) := fun hN => by
    obtain ⟨p, hp, e⟩ := List.mem_map.mp hN
    exact (S.mus p (List.mem_append.mpr (.inl hp))).2.1 e
  refine ⟨S.base, S.stat, S.g0g.trans S'.g0g, fun b o e => ?_, fun b o e => keep b o (S.fh b o e) (nt b o e) (nN b o e),
    ⟨oL, es, ep, keep _ _ hL (fun t ht q => (S.tabs t ht).2.2.2.1 q) LN, r⟩, S.len, ?_, S.fL, fun p hp => ?_, ?_, fun b hb hb' => ?_, fun t ht => ?_, S'.os, S'.gens⟩
  · have hb : b ≠ L' := fun x => by subst x; rw [S'.gL] at e; cases e
    exact (hs.2 b hb).trans (S'.gh b o e)
  · cases q : g' L with
    | none => rfl
    | some o => exact absurd S.gL (back L (by rw [q]; simp) (by rw [hL]; simp))
  · rcases List.mem_append.mp hp with hp | hp
    · obtain ⟨a, b, c, d⟩ := S'.mus p hp
      have hN : p.1 ∈ new.map (·.1) := hnew.subset (List.mem_map_of_mem hp)
      obtain ⟨p₀, hp₀, e₀⟩ := List.mem_map.mp hN
      obtain ⟨a₀, b₀, c₀, d₀⟩ := S.mus p₀ (List.mem_append.mpr (.inl hp₀))
      rw [e₀] at b₀ d₀
      exact ⟨(hs.2 _ b).trans a, b₀, c, d₀⟩
    · obtain ⟨a, b, c, d⟩ := S.mus p (List.mem_append.mpr (.inr hp))
      have hN : p.1 ∉ new.map (·.1) := fun hN => (List.nodup_append.mp nd).2.2 _ hN _ (List.mem_map_of_mem hp) rfl
      refine ⟨keep _ _ a (fun t ht q => (S.tabs t ht).2.2.2.2 p (List.mem_append.mpr (.inr hp)) q.symm) hN, b, ?_, d⟩
      cases q : g' p.1 with
      | none => rfl
      | some o => exact absurd c (back p.1 (by rw [q]; simp) (by rw [a]; simp))
  · rw [List.map_append]; exact nd.sublist (hnew.append (List.Sublist.refl _))
  · refine S.sep b (back b hb ?_) hb'
    cases q : φ b with
    | none => exact absurd q hb'
    | some o => rw [S.fh b o q]; simp
  · obtain ⟨a, b, c, d, e⟩ := S.tabs t ht
    obtain ⟨a', b', c', d', e'⟩ := S'.tabs t ht
    refine ⟨a'.mono (.refl _) (hs.2 _ d'), b', c, d, fun p hp => ?_⟩
    rcases List.mem_append.mp hp with hp | hp
    · exact e' p hp
    · exact e p (List.mem_append.mpr (.inr hp))

theorem St.swap {p q : Addr × Obj} (S : St W φ g0 names g L vals (p :: q :: mu) s) : St W φ g0 names g L vals (q :: p :: mu) s := by
  have mem : ∀ r, r ∈ q :: p :: mu → r ∈ p :: q :: mu := fun r h => by
    simp only [List.mem_cons] at h ⊢
    rcases h with h | h | h
    · exact .inr (.inl h)
    · exact .inl h
    · exact .inr (.inr h)
  refine ⟨S.base, S.stat, S.g0g, S.gh, S.fh, S.ns, S.len, S.gL, S.fL, fun r hr => S.mus r (mem r hr), ?_, S.sep, fun t ht => ?_, S.os, S.gens⟩
  · have := S.nd
    exact (List.Perm.nodup_iff (List.Perm.map _ (List.Perm.swap q p mu))).mp this
  · obtain ⟨a, b, c, d, e⟩ := S.tabs t ht
    exact ⟨a, b, c, d, fun r hr => e r (mem r hr)⟩
theorem codeAny_of_NoE {c : Code} {R : Result → Shared → Prop} {M : Model} {A : Around} {s : Shared} (h : codeAny M A c R s) : codeAny M A c R s := h

inductive Ck (W : Wd) (φ' g : Gr) (x : Str) (L' : Addr) (mu' : List (Addr × Obj)) (J : Nat → Gr → List Value → Prop) (i : Nat) (ys : List Value) (s : Shared) : Prop
  | mk (g'' : Gr) (new : List (Addr × Obj)) (vals' : List (Option Value)) (h : Sub g g'') (hl : vals'.length = 1) (S : St W φ' g [x] g'' L' vals' (new ++ mu') s) (j : J i g'' ys) : Ck W φ' g x L' mu' J i ys s
noncomputable def HC (K Q : List Value → Shared → Prop) : Prop := ∀ ys s', Q ys s' → K ys s'
theorem kkC {P : List Value → Shared → Prop} {G : (List Value → Shared → Prop) → Prop} (h : ∀ K, HC K P → G K) : ∀ K, HC K P → G K := h
theorem HC.out {K Q : List Value → Shared → Prop} {ys : List Value} {s' : Shared} (h : HC K Q) (q : Q ys s') : K ys s' := h _ _ q
inductive CpI (W : Wd) (φ' g : Gr) (x : Str) (L' I D : Addr) (IO : Nat → Obj → Prop) (n : Nat) (J : Nat → Gr → List Value → Prop) : Nat → Shared → Prop
  | mk (i : Nat) (g' : Gr) (ys : List Value) (vv : List (Option Value)) (o : Obj) (m : Nat) (s' : Shared) (hi : i ≤ n) (hIO : IO i o) (hJ : J i g' ys) (hys : ys.length ≤ i) (hg : Sub g g') (hv : vv.length = 1) (S : St W φ' g [x] g' L' vv [(I, o), (D, lst ys m)] s') : CpI W φ' g x L' I D IO n J (n + 1 - i) s'
theorem CpI.next {φ' : Gr} {x : Str} {I D : Addr} {IO : Nat → Obj → Prop} {n : Nat} {J : Nat → Gr → List Value → Prop} {i : Nat} {ys : List Value} {vv : List (Option Value)} {o : Obj} {m : Nat} (hi : i < n) (hIO : IO (i + 1) o) (hJ : J (i + 1) g' ys) (hys : ys.length ≤ i + 1) (hg : Sub g g') (hv : vv.length = 1)
    (S : St W φ' g [x] g' L' vv [(I, o), (D, lst ys m)] s') : ∃ k, k < n + 1 - i ∧ CpI W φ' g x L' I D IO n J k s' := ⟨n + 1 - (i + 1), by walk_at "o", .mk _ _ _ _ _ _ _ hi hIO hJ hys hg hv S⟩
theorem comp_core {cl : List (Str × Addr)} {sc2 : Scope} {I : Addr} {IO : Nat → Obj → Prop} {n : Nat} {P : Nat → Value → Prop} {C : Gr → Prop} {x : Str} {px pos : Pos} {elt iter : Expr} {ifs : List Expr} {scope : Scope} {env : Env} {o : Obj} {Rf : Value → Env → Result → Shared → Prop}
    (J : Nat → Gr → List Value → Prop) (hx2 : sc2.names.lookup x = some .local) (hk2 : sc2.kind = .function)
    (S : St W φ g0 names g L vals ((I, o) :: mu) s) (hG : env.globals = mainGlobals)
    (N : ∀ φ', (∀ b o', b ≠ I → (∀ t ∈ W.tabs, t.P ≠ b) → s.heap.get? b = some o' → φ' b = some o') → Nx W A φ' I IO n P C) (hC : ∀ i g ys, J i g ys → C g) (hI : IO 0 o) (h0 : J 0 g [])
    (hkind : scope.kind = .function) (hx : scope.names.lookup x = some .local) (hcell : ∀ x ∈ scope.names, x.2 ≠ .cell) (hn : n ≤ 500)
    (ht : ∀ v, letOwnedTupleGo (.Name x px) (.ref I) v = pure ())
    (step : ∀ i g' ys φ' L' v cenv s' mu', i < n → J i g' ys → P i v → (∀ b o', b ≠ I → (∀ t ∈ W.tabs, t.P ≠ b) → s.heap.get? b = some o' → φ' b = some o') → Sub g g' →
      cenv = { newEnv scope L' mainGlobals cl env.qual none .none (some env) builtinsNs with scope := sc2 } → ys.length ≤ i →
      St W φ' g [x] g' L' [some v] mu' s' →
      ∀ K, HC K (Ck W φ' g x L' mu' J (i + 1)) → wpAny (model PP W.w) A (forIn ifs true fun c r => if r = true then do let ok ← isTrue c cenv (eval c cenv); pure (ForInStep.yield ok) else pure (ForInStep.yield r))
        (fun ok s₃ => (ok = true → wpAny (model PP W.w) A (eval elt cenv) (fun y s₄ => K (ys ++ [y]) s₄) NoE s₃) ∧
          (ok = false → K ys s₃)) NoE s')
    (fin : ∀ s₁ D g' ys m vv s' cenv, St W φ g0 names g L vals ([(I, o), (D, lst [] 0)] ++ mu) s₁ → s₁.heap.objs.size ≤ cenv.locals → Sub g g' → ys.length ≤ n → J n g' ys → g' I = none → g' D = none →
      St W (hidM W [(I, o), (D, lst [] 0)] s₁.heap) g [x] g' cenv.locals vv [(D, lst ys m)] s' → Rf (.ref D) cenv (.ok .next) s') :
    wpAny (model PP W.w) A (newList []) (fun acc s₃ =>
      wpAny (model PP W.w) A (newFunctionEnv scope env.globals cl [] env.qual none .none (some env)) (fun cenv s₄ =>
        codeAny (model PP W.w) A (.compStart (.ListComp elt [⟨.Name x px, iter, ifs, 0⟩] scope pos) 0 (.ref I) acc { cenv with scope := sc2 }) (Rf acc cenv) s₄) E s₃) E s := by
  refine wpAny_newObj_type ?_ (Nat.zero_le _)
  have S₁ := (S.push_mu (lst [] 0) rfl).swap
  generalize hD : s.heap.objs.size = D at S₁
  have hD0 : ∀ b o', s.heap.get? b = some o' → b ≠ D := fun b o' e => by rw [← hD]; exact Nat.ne_of_lt (Heap.lt_size e)
  have hk : ∀ b o', s.heap.get? b = some o' → ({ s with heap := s.heap.push (lst [] 0) } : Shared).heap.get? b = some o' := fun b o' e => Heap.get?_push_of_some _ e
  show wpAny _ _ _ _ _ { s with heap := s.heap.push (lst [] 0) }
  generalize ({ s with heap := s.heap.push (lst [] 0) } : Shared) = s₁ at S₁ hk
  rw [hG]
  refine wpAny_newFunctionEnv hcell (fun _ h => nomatch h) (fun h' hns hsb => ?_) hkind
  have hk₁ : ∀ b o, s₁.heap.get? b = some o → h'.get? b = some o := fun b o e => hsb.extBut b o (Nat.ne_of_lt (Heap.lt_size e)) (Heap.get?_push_of_some _ e)
  have hns' : h'.Ns s₁.heap.objs.size (look [x] [none]) := by
    have : look [x] [none] = fun y => ([] : List (Str × Value)).reverse.lookup y := by
      funext y; unfold look idx idx
      by_cases q : y = x
      · rw [if_pos q]; rfl
      · rw [if_neg q]; rfl
    rw [this]; exact hns
  have S₂ := St.sub (new := [(I, o), (D, lst [] 0)]) (mu0 := mu) (names' := [x]) (vals' := [none]) (k := s₁.toks + ([] : List (Str × Value)).length) S₁ hns' rfl hk₁
  have hφ : ∀ b o', b ≠ I → (∀ t ∈ W.tabs, t.P ≠ b) → s.heap.get? b = some o' → hidM W [(I, o), (D, lst [] 0)] s₁.heap b = some o' := fun b o' h1 h2 h3 =>
    hidM_of (hk _ _ h3) h2 fun hm => by
      rcases List.mem_cons.mp hm with e | hm
      · exact h1 e
      · exact hD0 _ _ h3 (List.mem_singleton.mp hm)
  have fin := fun g' ys m vv s' cenv => fin s₁ D g' ys m vv s' cenv S₁
  generalize hidM W [(I, o), (D, lst [] 0)] s₁.heap = φ' at S₂ hφ fin
  have N' := N φ' hφ
  have loop : ∀ s₂, St W φ' g [x] g s₁.heap.objs.size [none] [(I, o), (D, lst [] 0)] s₂ →
      codeAny (model PP W.w) A (.compLoop (.ListComp elt [⟨.Name x px, iter, ifs, 0⟩] scope pos) 0 (.ref I) (.ref D) { newEnv scope s₁.heap.objs.size mainGlobals cl env.qual none .none (some env) builtinsNs with scope := sc2 }) (Rf (.ref D) (newEnv scope s₁.heap.objs.size mainGlobals cl env.qual none .none (some env) builtinsNs)) s₂ := by
    intro s₂ S₂
    replace fin := fun g' ys m vv s' => fin g' ys m vv s' (newEnv scope s₁.heap.objs.size mainGlobals cl env.qual none .none (some env) builtinsNs) (Nat.le_refl _)
    generalize Rf (.ref D) (newEnv scope s₁.heap.objs.size mainGlobals cl env.qual none .none (some env) builtinsNs) = R at fin ⊢
    replace fin : ∀ g' ys m vv s', Sub g g' → ys.length ≤ n → J n g' ys → g' I = none → g' D = none → St W φ' g [x] g' s₁.heap.objs.size vv [(D, lst ys m)] s' → R (.ok .next) s' := fin
    generalize hce : ({ newEnv scope s₁.heap.objs.size mainGlobals cl env.qual none .none (some env) builtinsNs with scope := sc2 } : Env) = cenv
    have hcL : cenv.locals = s₁.heap.objs.size := by rw [← hce]; rfl
    have hcx : cenv.kindOf x = some .local := by rw [← hce]; exact hx2
    have hck : cenv.scope.kind = .function := by rw [← hce]; exact hk2
    generalize s₁.heap.objs.size = L' at *
    refine codeAny_compLoop_tests (CpI W φ' g x L' I D IO n J) ?_ (n + 1) (.mk 0 g [] [none] o 0 _ (Nat.zero_le _) hI h0 (Nat.zero_le _) (.refl _) rfl S₂) ht
    rintro k s' ⟨i, g', ys, vv, o, m, _, hi, hIO, hJ, hys, hgg, hvv, S⟩
    have hgI : g' I = none := (S.mus _ (.head _)).2.2.1
    have hgD : g' D = none := (S.mus _ (.tail _ (.head _))).2.2.1
    refine N'.nx (hC _ _ _ hJ) hIO S (fun v o' s₃ hlt hP hIO' S => ?_) fun s₃ hge S => ?_
    · have hvv' : vv.set 0 (some v) = [some v] := by
        obtain ⟨a, rfl⟩ := List.length_eq_one_iff.mp hvv; rfl
      refine wpAny_assign_Name (st_loc S (i := 0) (vals' := [some v]) (if_pos rfl) hvv' hck hcx hcL fun s₄ S => ?_)
      refine NoE_to (wpAny_mono (step i g' ys φ' L' v cenv s₄ _ hlt hJ hP hφ hgg hce.symm hys S _ fun _ _ x => x) (fun ok s₅ h₅ => ?_) fun _ _ x => x.elim)
      cases ok with
      | false =>
        rw [if_neg (by decide)]
        obtain ⟨g'', new, vals', hg'', hl', S₅, hJ'⟩ := h₅.2 rfl
        exact CpI.next hlt hIO' hJ' (Nat.le_succ_of_le hys) hg'' hl' S₅.dropPre
      | true =>
        rw [if_pos rfl]
        refine NoE_to (wpAny_mono (h₅.1 rfl) (fun y s₆ h₆ => ?_) fun _ _ x => x.elim)
        obtain ⟨g'', new, vals', hg'', hl', S₆, hJ'⟩ := h₆
        refine append1 S₆.dropPre (Nat.le_trans hys (Nat.le_trans hi (Nat.le_trans hn (by decide)))) fun s₇ S₇ => ?_
        exact CpI.next hlt hIO' hJ' (by rw [List.length_append]; exact Nat.succ_le_succ hys) hg'' hl' S₇
    · obtain rfl := Nat.le_antisymm hi hge
      exact fin g' ys m vv s₃ hgg hys hJ hgI hgD S
  exact codeAny_compStart_list (loop _ S₂) (N'.self hI S₂ (loop _ S₂))
theorem new_gone {I D : Addr} {o o' : Obj} {g' : Gr} (h1 : g' I = none) (h2 : g' D = none) : ∀ b ∈ [(I, o), (D, o')].map (·.1), g' b = none := fun b hb => by
  rcases List.mem_cons.mp hb with rfl | hb
  · exact h1
  · rw [List.mem_singleton.mp hb]; exact h2
theorem comp_run {I : Addr} {IO : Nat → Obj → Prop} {n : Nat} {P : Nat → Value → Prop} {C : Gr → Prop} {x : Str} {px pos : Pos} {elt iter : Expr} {ifs : List Expr} {scope : Scope} {env : Env} {o : Obj} {Q : Value → Shared → Prop}
    (J : Nat → Gr → List Value → Prop)
    (S : St W φ g0 names g L vals ((I, o) :: mu) s) (hG : env.globals = mainGlobals)
    (N : ∀ φ', (∀ b o', b ≠ I → (∀ t ∈ W.tabs, t.P ≠ b) → s.heap.get? b = some o' → φ' b = some o') → Nx W A φ' I IO n P C) (hC : ∀ i g ys, J i g ys → C g) (hI : IO 0 o) (h0 : J 0 g [])
    (hkind : scope.kind = .function) (hx : scope.names.lookup x = some .local) (hcell : ∀ x ∈ scope.names, x.2 ≠ .cell) (hn : n ≤ 500)
    (ht : ∀ v, letOwnedTupleGo (.Name x px) (.ref I) v = pure ())
    (step : ∀ i g' ys φ' L' v cenv s' mu', i < n → J i g' ys → P i v → (∀ b o', b ≠ I → (∀ t ∈ W.tabs, t.P ≠ b) → s.heap.get? b = some o' → φ' b = some o') → Sub g g' →
      cenv = { newEnv scope L' mainGlobals [] env.qual none .none (some env) builtinsNs with scope := scope } → ys.length ≤ i →
      St W φ' g [x] g' L' [some v] mu' s' →
      ∀ K, HC K (Ck W φ' g x L' mu' J (i + 1)) → wpAny (model PP W.w) A (forIn ifs true fun c r => if r = true then do let ok ← isTrue c cenv (eval c cenv); pure (ForInStep.yield ok) else pure (ForInStep.yield r))
        (fun ok s₃ => (ok = true → wpAny (model PP W.w) A (eval elt cenv) (fun y s₄ => K (ys ++ [y]) s₄) NoE s₃) ∧
          (ok = false → K ys s₃)) NoE s')
    (fin : ∀ g' ys D m s', Sub g g' → ys.length ≤ n → J n g' ys → St W φ g0 names g' L vals ((D, lst ys m) :: mu) s' → Q (.ref D) s') :
    wpAny (model PP W.w) A (newList []) (fun acc s₃ =>
      wpAny (model PP W.w) A (newFunctionEnv scope env.globals [] [] env.qual none .none (some env)) (fun cenv s₄ =>
        codeAny (model PP W.w) A (.compStart (.ListComp elt [⟨.Name x px, iter, ifs, 0⟩] scope pos) 0 (.ref I) acc { cenv with scope := scope })
          (fun r s' => ∃ m, s'.heap.Ns cenv.locals m ∧ ∀ h', Heap.SameBut cenv.locals s'.heap h' →
            match r with | .ok _ => Q acc { s' with heap := h' } | .error x => wpAny (model PP W.w) A (passOn "comprehension.variables-let-go" x { cenv with scope := scope }) Q E { s' with heap := h' }) s₄) E s₃) E s :=
  comp_core J hx hkind S hG N hC hI h0 hkind hx hcell hn ht step fun s₁ D g' ys m vv s' cenv S₁ _ hg hys hJ hgI hgD S' =>
    ⟨_, S'.ns, fun h' hs => fin g' ys D m _ hg hys hJ (St.unsub (new := [(I, o), (D, lst [] 0)]) S₁ S' (List.sublist_cons_self ..) (new_gone hgI hgD) hs)⟩
theorem Nx.weaken {φ : Gr} {I : Addr} {IO : Nat → Obj → Prop} {n : Nat} {P : Nat → Value → Prop} {C C' : Gr → Prop} (N : Nx W A φ I IO n P C) (h : ∀ g, C' g → C g) : Nx W A φ I IO n P C' where
  nx := fun hC => N.nx (h _ hC)
  self := fun hI S hQ => N.self hI S hQ
theorem Nx.of_mu {I D : Addr} {o : Obj} {vs : List Value} {n : Nat} {pre post : List (Addr × Obj)} (hh : A.handled = none) (S : St W φ g0 names g L vals ((I, o) :: (pre ++ (D, lst vs n) :: post)) s) :
    ∀ φ', (∀ b o', b ≠ I → (∀ t ∈ W.tabs, t.P ≠ b) → s.heap.get? b = some o' → φ' b = some o') → Nx W A φ' I (IOlist D) vs.length (fun i v => vs[i]? = some v) (fun _ => True) := fun φ' hφ => by
  refine (Nx.list hh (vs := vs) (l := D)).weaken fun g _ => ⟨n, .inr ?_⟩
  have mem : (D, lst vs n) ∈ (I, o) :: (pre ++ (D, lst vs n) :: post) := by simp
  refine hφ D _ (fun e => ?_) (fun t ht e => (S.tabs t ht).2.2.2.2 _ mem e.symm) (S.mus _ mem).1
  have nd := S.nd
  rw [List.map_cons, List.nodup_cons] at nd
  exact nd.1 (e ▸ List.mem_map.mpr ⟨(D, lst vs n), by simp, rfl⟩)
theorem Nx.of_g {I D : Addr} {vs : List Value} (hh : A.handled = none) : ∀ φ' : Gr, Nx W A φ' I (IOlist D) vs.length (fun i v => vs[i]? = some v) (fun g => ∃ n, g D = some (lst vs n)) := fun φ' =>
  (Nx.list hh (vs := vs) (l := D)).weaken fun g ⟨n, h⟩ => ⟨n, .inl h⟩
end
end
section
open PySem PySem.Calls PyProof.Rows PySem.Spec PySem.W PySem.Builtin.Str
section
variable {W : Wd} {φ g0 g g' : Gr} {names : List Str} {L : Addr} {vals vals' : List (Option Value)} {mu pre post : List (Addr × Obj)} {s s' : Shared} {A : Around} {E : Value → Shared → Prop}
  {D : Addr} {vs : List Value} {n : Nat} {x y : Value} {Q : Value → Shared → Prop} {t u : Tok}
theorem erase_last (vs : List Value) (y : Value) : (vs ++ [y]).eraseIdx vs.length = vs := by
  rw [List.eraseIdx_append_of_length_le (Nat.le_refl _), Nat.sub_self]; simp
theorem append2 {p q : Addr × Obj} (S : St W φ g0 names g L vals (p :: q :: (D, lst vs n) :: post) s)
    (hsz : vs.length ≤ 1000) (h : ∀ s', St W φ g0 names g L vals (p :: q :: (D, lst (vs ++ [x]) (n + 1)) :: post) s' → Q .none s') :
    wpAny (model PP W.w) A (call (.builtin "list.append") [.ref D, x]) Q E s := append_pos [p, q] S hsz h
theorem append3 {p q r : Addr × Obj} (S : St W φ g0 names g L vals (p :: q :: r :: (D, lst vs n) :: post) s)
    (hsz : vs.length ≤ 1000) (h : ∀ s', St W φ g0 names g L vals (p :: q :: r :: (D, lst (vs ++ [x]) (n + 1)) :: post) s' → Q .none s') :
    wpAny (model PP W.w) A (call (.builtin "list.append") [.ref D, x]) Q E s := append_pos [p, q, r] S hsz h
theorem append4 {p q r r2 : Addr × Obj} (S : St W φ g0 names g L vals (p :: q :: r :: r2 :: (D, lst vs n) :: post) s)
    (hsz : vs.length ≤ 1000) (h : ∀ s', St W φ g0 names g L vals (p :: q :: r :: r2 :: (D, lst (vs ++ [x]) (n + 1)) :: post) s' → Q .none s') :
    wpAny (model PP W.w) A (call (.builtin "list.append") [.ref D, x]) Q E s := append_pos [p, q, r, r2] S hsz h
theorem l_pop (pre : List (Addr × Obj)) (S : St W φ g0 names g L vals (pre ++ (D, lst (vs ++ [y]) n) :: post) s) (hsz : vs.length ≤ 1000)
    (h : ∀ s', St W φ g0 names g L vals (pre ++ (D, lst vs (n + 1)) :: post) s' → Q y s') : wpAny (model PP W.w) A (call (.builtin "list.pop") [.ref D]) Q E s := by
  have ho := (S.mus (D, lst (vs ++ [y]) n) (by simp)).1
  have hsz' : (vs ++ [y]).toArray.size ≤ sizeLine := by rw [List.size_toArray, List.length_append, List.length_singleton, sizeLine_eq]; walk_at "o"
  refine call_meets PySem.F.slot_list_pop ⟨_, ho, rfl⟩ PySem.F.entry_list_pop (PySem.F.args_list_pop_1 _) (PySem.MeetsSeq.list_pop_last D (vs ++ [y]).toArray n y (by simp) hsz') ⟨ho, ?_⟩
  have e : (Obj.mapSeq (fun xs => xs.eraseIdxIfInBounds ((vs ++ [y]).toArray.size - 1)) (lst (vs ++ [y]) n)) = lst vs (n + 1) := by
    show ({ cls := .type "list", data := .seq ((vs ++ [y]).toArray.eraseIdxIfInBounds ((vs ++ [y]).toArray.size - 1)) _ } : Obj) = _
    have e1 : (vs ++ [y]).toArray.eraseIdxIfInBounds ((vs ++ [y]).toArray.size - 1) = vs.toArray := by
      rw [Array.eraseIdxIfInBounds, dif_pos (by simp)]
      apply Array.toList_inj.mp
      simp [erase_last]
    rw [e1]
    simp [erase_last]
  have ho' : (s.heap.update D (Obj.mapSeq fun xs => xs.eraseIdxIfInBounds ((vs ++ [y]).toArray.size - 1))).get? D = some (lst vs (n + 1)) := by
    rw [Heap.get?_update_self _ ho (by rw [e]; rfl), e]
  exact h _ (S.turn (k := s.toks) (Heap.SameBut.update ..) ho')
theorem gm_append {o : Obj} {pl : Sem Bool} {M : Model} {Q : Value × List Value → Shared → Prop} (ho : s.heap.get? D = some o) (hc : o.cls = .type "list") (hd : o.dict = none)
    (h : Q (.builtin "list.append", [.ref D]) s) : wpAny M A (getMethod (.ref D) "append" pl) Q E s :=
  getMethod_builtin ⟨o, ho, hc⟩ PySem.F.plainAttrs_list slot_list_append (by show builtinType _ = _; rw [builtinType_eq_fast]; kernel_rfl) (fun a e => by cases e; exact ⟨o, ho, hd⟩) h
theorem gm_pop {o : Obj} {pl : Sem Bool} {M : Model} {Q : Value × List Value → Shared → Prop} (ho : s.heap.get? D = some o) (hc : o.cls = .type "list") (hd : o.dict = none)
    (h : Q (.builtin "list.pop", [.ref D]) s) : wpAny M A (getMethod (.ref D) "pop" pl) Q E s :=
  getMethod_builtin ⟨o, ho, hc⟩ PySem.F.plainAttrs_list PySem.F.slot_list_pop PySem.F.type_list_pop (fun a e => by cases e; exact ⟨o, ho, hd⟩) h
theorem gm_extend {o : Obj} {pl : Sem Bool} {M : Model} {Q : Value × List Value → Shared → Prop} (ho : s.heap.get? D = some o) (hc : o.cls = .type "list") (hd : o.dict = none)
    (h : Q (.builtin "list.extend", [.ref D]) s) : wpAny M A (getMethod (.ref D) "extend" pl) Q E s :=
  getMethod_builtin ⟨o, ho, hc⟩ PySem.F.plainAttrs_list PySem.F.slot_list_extend PySem.F.type_list_extend (fun a e => by cases e; exact ⟨o, ho, hd⟩) h
theorem l_len {o : Obj} (S : St W φ g0 names g L vals mu s) (ho : s.heap.get? D = some o) (e : o = lst vs n) (hsz : vs.length ≤ 100000)
    (h : ∀ k s', St W φ g0 names g L vals mu s' → Q (.int vs.length k) s') : wpAny (model PP W.w) A (call (.builtin "len") [.ref D]) Q E s := by
  subst e
  refine PyProof.Rows.len_list (items := vs.toArray) ⟨_, ho, rfl, n, rfl⟩ (by simp; walk_at "o") ?_
  rw [List.size_toArray]; exact h _ _ (S.tk _)
theorem l_item {value slice : Expr} {o : Obj} {k : Int} (ho : s.heap.get? D = some o) (e : o = lst vs n) (h0 : 0 ≤ k) (hfit : k < 2 ^ 63) (hx : vs[k.toNat]? = some x)
    (hs : subscripted slice false (.ref D) (.int k u) = operate [.ref D, .int k u] (getItem (.ref D) (.int k u)))
    (h : Q x s) : wpAny (model PP W.w) A (subscriptTail value slice (.ref D) (.int k u)) Q E s := by
  subst e
  have hl : s.heap.IsList D vs.toArray := ⟨_, ho, rfl, n, rfl⟩
  exact tail_gen hl.typeIs slot_list_getitem.lookup hs (wpAny_getItem_list hl h0 hfit (by simpa using hx) h)
theorem l_last {value slice : Expr} {o : Obj} (ho : s.heap.get? D = some o) (e : o = lst (vs ++ [x]) n) (hsz : vs.length ≤ 100000)
    (hs : subscripted slice false (.ref D) (.int (-1) u) = operate [.ref D, .int (-1) u] (getItem (.ref D) (.int (-1) u)))
    (h : Q x s) : wpAny (model PP W.w) A (subscriptTail value slice (.ref D) (.int (-1) u)) Q E s := by
  subst e
  have hl : s.heap.IsList D (vs ++ [x]).toArray := ⟨_, ho, rfl, n, rfl⟩
  refine tail_gen hl.typeIs slot_list_getitem.lookup hs (wpAny_getItem_list_neg hl (by walk_at "o") (by simp; walk_at "o") (by walk_at "o") (x := x) ?_ h)
  have : (-1 + (((vs ++ [x]).toArray.size : Nat) : Int)).toNat = vs.length := by simp; walk_at "o"
  rw [this]; simp
theorem t_item {value slice : Expr} {o : Obj} {k : Int} {j : Nat} (ho : s.heap.get? D = some o) (e : o = tup vs) (hlo : -(2 ^ 63) ≤ k) (hhi : k < 2 ^ 63) (hj : seqIndex? k vs.length = some j) (hx : vs[j]? = some x)
    (hs : subscripted slice false (.ref D) (.int k u) = operate [.ref D, .int k u] (getItem (.ref D) (.int k u)))
    (h : Q x s) : wpAny (model PP W.w) A (subscriptTail value slice (.ref D) (.int k u)) Q E s := by
  subst e
  have ht : IsTup s.heap D vs.toArray := ⟨_, ho, rfl, _, rfl⟩
  exact tail_gen ht.typeIs slot_tuple_getitem.lookup hs (getItem_tuple ht hlo hhi (by simpa using hj) (by simpa using hx) h)
end
end
section
open PySem PySem.Calls PyProof.Rows PySem.Spec PySem.W PySem.Builtin.Str
section
variable {W : Wd} {φ g0 g g' : Gr} {names : List Str} {L : Addr} {vals vals' : List (Option Value)} {mu pre post : List (Addr × Obj)} {s s' : Shared} {A : Around} {E : Value → Shared → Prop}
  {D D2 : Addr} {vs : List Value} {n m k : Nat} {x y v w : Value} {Q : Value → Shared → Prop} {t u : Tok}
noncomputable def Rd (g : Gr) (v : Value) (d : PyData) : Prop := ∀ h : Heap, Sub g h.get? → ∃ as, Reads h v d as
noncomputable def RdAll (g : Gr) (vs : List Value) (ds : List PyData) : Prop := ∀ h : Heap, Sub g h.get? → ∃ as, ReadsAll h vs ds as
theorem Rd.str (g : Gr) (x : Str) (t : Tok) : Rd g (.str x t) (.str x) := fun _ _ => ⟨[], .str x t⟩
theorem RdAll.nil (g : Gr) : RdAll g [] [] := fun _ _ => ⟨[], .nil⟩
theorem RdAll.cons {d : PyData} {ds : List PyData} (a : Rd g v d) (b : RdAll g vs ds) : RdAll g (v :: vs) (d :: ds) := fun h hg => by
  obtain ⟨as, ra⟩ := a h hg
  obtain ⟨bs, rb⟩ := b h hg
  exact ⟨as ++ bs, .cons ra rb⟩
theorem Rd.tup {a : Addr} {ds : List PyData} (e : g a = some (tup vs)) (r : RdAll g vs ds) : Rd g (.ref a) (.tuple ds) := fun h hg => by
  obtain ⟨as, ra⟩ := r h hg
  exact ⟨as, .tuple (hg _ _ e) rfl rfl (by rw [List.toList_toArray]; exact ra)⟩
theorem Rd.lst {a : Addr} {ds : List PyData} {n : Nat} (e : g a = some (lst vs n)) (r : RdAll g vs ds) : Rd g (.ref a) (.list ds) := fun h hg => by
  obtain ⟨as, ra⟩ := r h hg
  exact ⟨a :: as, .list (hg _ _ e) rfl rfl (by rw [List.toList_toArray]; exact ra)⟩
theorem Rd.mono {d : PyData} (r : Rd g v d) (hg : Sub g g') : Rd g' v d := fun h hh => r h (hg.trans hh)
theorem e_ne {d d' : PyData} (S : St W φ g0 names g L vals mu s) (hA : Rm k A) (ra : Rd g v d) (rb : Rd g w d') (ha : d.canLay0 = true) (hb : d'.canLay0 = true) (hd : d.depth ≤ 100)
    (h : Q (.bool (!PyData.eqv d d')) s) : wpAny (model PP W.w) A (compareOp .NotEq v w) Q E s := by
  obtain ⟨as, ra⟩ := ra _ S.gh
  obtain ⟨bs, rb⟩ := rb _ S.gh
  exact SeqAt.compareNe_reads ra rb ha hb (by have := hA.2.2; have : cLine = 9900 := rfl; walk_at "o") h
theorem e_eq {d d' : PyData} (S : St W φ g0 names g L vals mu s) (hA : Rm k A) (ra : Rd g v d) (rb : Rd g w d') (ha : d.canLay0 = true) (hb : d'.canLay0 = true) (hd : d.depth ≤ 100)
    (h : Q (.bool (PyData.eqv d d')) s) : wpAny (model PP W.w) A (compareOp .Eq v w) Q E s := by
  obtain ⟨as, ra⟩ := ra _ S.gh
  obtain ⟨bs, rb⟩ := rb _ S.gh
  exact SeqAt.compareEq_reads ra rb ha hb (by have := hA.2.2; have : cLine = 9900 := rfl; walk_at "o") h
theorem e_nil {o o' : Obj} (hA : Rm k A) (h1 : s.heap.get? D = some o) (e1 : o = lst vs n) (h2 : s.heap.get? D2 = some o') (e2 : o' = lst [] m)
    (h : Q (.bool vs.isEmpty) s) : wpAny (model PP W.w) A (compareOp .Eq (.ref D) (.ref D2)) Q E s := by
  subst e1 e2
  cases vs with
  | nil => exact SeqAt.eq_listAt (items := #[]) (items2 := #[]) (e := fun _ => true) ⟨_, h1, rfl, _, rfl⟩ ⟨_, h2, rfl, _, rfl⟩ rfl hA.units (fun j hj => nomatch hj) h
  | cons a r => exact SeqAt.eq_list_lengthsAt (items := (a :: r).toArray) (items2 := #[]) ⟨_, h1, rfl, _, rfl⟩ ⟨_, h2, rfl, _, rfl⟩ rfl hA.units h
theorem ne_nil {o o' : Obj} (hA : Rm k A) (h1 : s.heap.get? D = some o) (e1 : o = lst vs n) (h2 : s.heap.get? D2 = some o') (e2 : o' = lst [] m)
    (h : Q (.bool !vs.isEmpty) s) : wpAny (model PP W.w) A (compareOp .NotEq (.ref D) (.ref D2)) Q E s := by
  subst e1 e2
  cases vs with
  | nil => exact (SeqAt.RcNeAt.lists (e := fun _ => true) (items := #[]) (items2 := #[]) ⟨_, h1, rfl, _, rfl⟩ ⟨_, h2, rfl, _, rfl⟩ rfl hA.units (fun j hj => nomatch hj)) PP W.w E Q h
  | cons a r => exact (SeqAt.RcNeAt.lists_lengths (items := (a :: r).toArray) (items2 := #[]) ⟨_, h1, rfl, _, rfl⟩ ⟨_, h2, rfl, _, rfl⟩ rfl hA.units) PP W.w E Q h
noncomputable def Ok (l : List Nat) : Prop := ∀ c ∈ l, c < 256
theorem Ok.strOk {l : List Nat} (h : Ok l) : PyData.canLay0 (.str (T l)) = true := by
  show (T l).cps.all (· < 0x110000) = true
  rw [← Array.all_toList]
  rw [List.all_eq_true]
  intro c hc
  have := h c hc
  simp; walk_at "o"
theorem sl_from {value slice : Expr} {l : Addr} {n : Nat} (S : St W φ g0 names g L vals mu s) (hl : s.heap.get? l = some (lst vs n)) (hsz : vs.length ≤ 1000)
    (hs : subscripted slice false (.ref l) (.ref s.heap.objs.size) = operate [.ref s.heap.objs.size, .ref l] (getItem (.ref l) (.ref s.heap.objs.size)))
    (h : ∀ a g' s', Sub g g' → g' a = some (lst (vs.drop 1) 0) → St W φ g0 names g' L vals mu s' → Q (.ref a) s') :
    wpAny (model PP W.w) A (subscriptTail value slice (.ref l) (.ref s.heap.objs.size)) Q E { s with heap := s.heap.push { cls := .type "slice", data := .fields #[.int 1 u, .none, .none] } } := by
  have hl' : s.heap.IsList l vs.toArray := ⟨_, hl, rfl, _, rfl⟩
  refine tail_gen (Heap.IsList.typeIs (s := { s with heap := s.heap.push { cls := .type "slice", data := .fields #[.int 1 u, .none, .none] } }) (hl'.push _)) list_getitem_lookup hs
    (wpAny_getItem_list_slice (hl'.push _) (Heap.IsSliceOf.new ..) (.int 1 u) .none .none (by simp) ?_ (by rw [List.size_toArray, sizeLine_eq]; walk_at "o"))
  have e : slicePick vs.toArray (some 1) none none = (vs.drop 1).toArray := by rw [show (1 : Int) = ((1 : Nat) : Int) from rfl, slicePick_from']
  rw [e]
  have S1 : St W φ g0 names g L vals mu { s with heap := s.heap.push { cls := .type "slice", data := .fields #[.int 1 u, .none, .none] } } := S.ext (k := s.toks) fun b o e => Heap.get?_push_of_some _ e
  have S2 := S1.push_g (lst (vs.drop 1) 0) rfl
  have hsize : (s.heap.push { cls := .type "slice", data := .fields #[.int 1 u, .none, .none] }).objs.size = s.heap.objs.size + 1 := Heap.size_push ..
  have hn : g (s.heap.objs.size + 1) = none := by
    cases q : g (s.heap.objs.size + 1) with
    | none => rfl
    | some o => (have := Heap.lt_size (S.gh _ _ q); exact absurd this (Nat.not_lt.mpr (Nat.le_succ _)))
  rw [← hsize] at hn
  exact h _ _ _ (gset_sub hn) (gset_self _ _ _) S2
theorem sl_upto {value slice : Expr} {l : Addr} {n : Nat} (S : St W φ g0 names g L vals mu s) (hl : s.heap.get? l = some (lst vs n)) (hsz : vs.length ≤ 1000)
    (hs : subscripted slice false (.ref l) (.ref s.heap.objs.size) = operate [.ref s.heap.objs.size, .ref l] (getItem (.ref l) (.ref s.heap.objs.size)))
    (h : ∀ a g' s', Sub g g' → g' a = some (lst (vs.take 63) 0) → St W φ g0 names g' L vals mu s' → Q (.ref a) s') :
    wpAny (model PP W.w) A (subscriptTail value slice (.ref l) (.ref s.heap.objs.size)) Q E { s with heap := s.heap.push { cls := .type "slice", data := .fields #[.none, .int 63 u, .none] } } := by
  have hl' : s.heap.IsList l vs.toArray := ⟨_, hl, rfl, _, rfl⟩
  refine tail_gen (Heap.IsList.typeIs (s := { s with heap := s.heap.push { cls := .type "slice", data := .fields #[.none, .int 63 u, .none] } }) (hl'.push _)) list_getitem_lookup hs
    (wpAny_getItem_list_slice (hl'.push _) (Heap.IsSliceOf.new ..) .none (.int 63 u) .none (by simp) ?_ (by rw [List.size_toArray, sizeLine_eq]; walk_at "o"))
  have e : slicePick vs.toArray none (some 63) none = (vs.take 63).toArray := by rw [show (63 : Int) = ((63 : Nat) : Int) from rfl, slicePick_upto']
  rw [e]
  have S1 : St W φ g0 names g L vals mu { s with heap := s.heap.push { cls := .type "slice", data := .fields #[.none, .int 63 u, .none] } } := S.ext (k := s.toks) fun b o e => Heap.get?_push_of_some _ e
  have S2 := S1.push_g (lst (vs.take 63) 0) rfl
  have hsize : (s.heap.push { cls := .type "slice", data := .fields #[.none, .int 63 u, .none] }).objs.size = s.heap.objs.size + 1 := Heap.size_push ..
  have hn : g (s.heap.objs.size + 1) = none := by
    cases q : g (s.heap.objs.size + 1) with
    | none => rfl
    | some o => (have := Heap.lt_size (S.gh _ _ q); exact absurd this (Nat.not_lt.mpr (Nat.le_succ _)))
  rw [← hsize] at hn
  exact h _ _ _ (gset_sub hn) (gset_self _ _ _) S2
end
end
section
open PySem PySem.Calls PyProof.Rows PySem.Spec PySem.W PySem.Builtin.Str
section
variable {W : Wd} {φ g0 g g' : Gr} {names : List Str} {L : Addr} {vals vals' : List (Option Value)} {mu : List (Addr × Obj)} {s s' : Shared} {A : Around} {E : Value → Shared → Prop}
structure Lb (W : Wd) : Prop where
  hd : ∀ t ∈ W.tabs, CodeHd W.h0 t.c t.P ∧ W.h0.BuiltinsAt W.mg t.P ∧ mainGlobals ≠ t.P
  one : ∀ t ∈ W.tabs, ∀ t' ∈ W.tabs, t.P = t'.P → t = t'
  pos : ∀ t ∈ W.tabs, ∀ q ∈ t.codes, ∀ q' ∈ t.codes, q.1.line = q'.1.line → q.1.col = q'.1.col → q = q'
  nb : NoneBooked W.h0
noncomputable def LamAt (g : Gr) (v : Value) (qual : Str) (params : Arguments) (body : Expr) (scope : Scope) : Prop :=
  ∃ a cv ctv pm, v = .ref a ∧ g a = some { cls := .type "function", data := .func (kla_fn "<lambda>" qual params body scope [] pm cv ctv) } ∧
    ∃ c oc vs tq, cv = .ref c ∧ g c = some oc ∧ oc.data = .fields vs ∧ vs[1]? = some (.str qual tq)
theorem codeAmong_other {q pos : Pos} {c : Value} (hq : ¬ (q.line = pos.line ∧ q.col = pos.col)) (l : List Value) (h : TriplesOk l) : codeAmong q (l ++ [rawInt pos.line, rawInt pos.col, c]) = codeAmong q l := by
  fun_induction TriplesOk l with
  | case1 =>
    show (if (((pos.line : Int) == (q.line : Int)) && ((pos.col : Int) == (q.col : Int))) = true then some c else codeAmong q []) = codeAmong q []
    rw [if_neg]
    intro h
    simp only [Bool.and_eq_true, beq_iff_eq] at h
    exact hq ⟨by walk_at "o", by walk_at "o"⟩
  | case2 a t b u x rest ih =>
    simp only [List.cons_append, codeAmong]
    split
    · rfl
    · exact ih h
  | case3 l h1 h2 => exact h.elim

theorem St.lam_new {t : Tb} {ps : Array Value} {pos : Pos} {qual : Str} {c' : Addr} {h' : Heap} {fo : Obj} {k : Nat} (B : Lb W) (ht : t ∈ W.tabs) (hq : (pos, qual) ∈ t.codes)
    (S : St W φ g0 names g L vals mu s) (hps : s.heap.get? t.P = some (tabObj ps)) (hto : TriplesOk ps.toList) (hcodes : ∀ q ∈ t.codes, codeAmong q.1 ps.toList = none ∨ ∃ c o vs tk, codeAmong q.1 ps.toList = some (.ref c) ∧ g c = some o ∧ o.data = .fields vs ∧ vs[1]? = some (.str q.2 tk))
    (hnf : codeAmong pos ps.toList = none) (he : Heap.ExtBut t.P s.heap h') (hc1 : s.heap.objs.size ≤ c') (hc2 : c' < h'.objs.size) (hcr : h'.CodeRec (.ref c') qual)
    (hP' : h'.get? t.P = some (tabObj (ps ++ #[rawInt pos.line, rawInt pos.col, .ref c']))) (hf : fo.isFreed = false) :
    ∃ oc vs tq, oc.data = .fields vs ∧ vs[1]? = some (.str qual tq) ∧ Sub g (gset (gset g c' oc) h'.objs.size fo) ∧ St W φ g0 names (gset (gset g c' oc) h'.objs.size fo) L vals mu { s with heap := h'.push fo, toks := k } := by
  obtain ⟨c, oc, vs, tq, e1, hoc, hdc, hqc⟩ := hcr
  cases e1
  have nt : ∀ t' ∈ W.tabs, t'.P < s.heap.objs.size := fun t' ht' => by
    obtain ⟨⟨ps, hp, _⟩, _⟩ := S.tabs t' ht'
    exact Heap.lt_size hp
  have keep : ∀ b o, b ≠ t.P → s.heap.get? b = some o → (h'.push fo).get? b = some o := fun b o hb e => Heap.get?_push_of_some _ (he b o hb e)
  have gn : ∀ b, s.heap.objs.size ≤ b → g b = none := fun b hb => by
    cases q : g b with
    | none => rfl
    | some o => exact absurd (Heap.lt_size (S.gh _ _ q)) (Nat.not_lt.mpr hb)
  have fn' : ∀ b, s.heap.objs.size ≤ b → φ b = none := fun b hb => by
    cases q : φ b with
    | none => rfl
    | some o => exact absurd (Heap.lt_size (S.fh _ _ q)) (Nat.not_lt.mpr hb)
  obtain ⟨oL, es, ep, hL, r⟩ := id S.ns
  have hLs : L < s.heap.objs.size := Heap.lt_size hL
  have hs1 : Sub g (gset g c' oc) := gset_sub (gn _ hc1)
  have hn2 : gset g c' oc h'.objs.size = none := by
    unfold gset; rw [if_neg (Nat.ne_of_gt hc2)]; exact gn _ (Nat.le_of_lt (Nat.lt_of_le_of_lt hc1 hc2))
  have hs2 : Sub (gset g c' oc) (gset (gset g c' oc) h'.objs.size fo) := gset_sub hn2
  have hs : Sub g (gset (gset g c' oc) h'.objs.size fo) := hs1.trans hs2
  have old : ∀ b, b < s.heap.objs.size → gset (gset g c' oc) h'.objs.size fo b = g b := fun b hb => by
    unfold gset; rw [if_neg (Nat.ne_of_lt (Nat.lt_trans hb (Nat.lt_of_le_of_lt hc1 hc2))), if_neg (Nat.ne_of_lt (Nat.lt_of_lt_of_le hb hc1))]
  have gP : ∀ b o, g b = some o → b ≠ t.P := fun b o e q => by rw [q, (S.tabs t ht).2.1] at e; cases e
  have fP : ∀ b o, φ b = some o → b ≠ t.P := fun b o e q => by rw [q, (S.tabs t ht).2.2.1] at e; cases e
  refine ⟨oc, vs, tq, hdc, hqc, hs, ?_⟩
  refine ⟨S.base, S.stat, S.g0g.trans hs, fun b o e => ?_, fun b o e => keep b o (fP b o e) (S.fh b o e), ⟨oL, es, ep, keep _ _ (Ne.symm (S.tabs t ht).2.2.2.1) hL, r⟩, S.len, ?_, S.fL, fun p hp => ?_, S.nd, fun b hb hb' => ?_, fun t' ht' => ?_, S.os, S.gens⟩
  · unfold gset at e
    by_cases q1 : b = h'.objs.size
    · subst q1; rw [if_pos rfl] at e; cases e; exact Heap.get?_push_size _ hf
    · rw [if_neg q1] at e
      by_cases q2 : b = c'
      · subst q2; rw [if_pos rfl] at e; cases e; exact Heap.get?_push_of_some _ hoc
      · rw [if_neg q2] at e; exact keep b o (gP b o e) (S.gh b o e)
  · rw [old _ hLs]; exact S.gL
  · obtain ⟨a, b, c, d⟩ := S.mus p hp
    exact ⟨keep _ _ ((S.tabs t ht).2.2.2.2 p hp) a, b, by rw [old _ (Heap.lt_size a)]; exact c, d⟩
  · have hlt : b < s.heap.objs.size := by
      rcases Nat.lt_or_ge b s.heap.objs.size with h | h
      · exact h
      · exact absurd (fn' b h) hb'
    rw [old _ hlt] at hb
    exact S.sep b hb hb'
  · obtain ⟨a, b, c, d, e⟩ := S.tabs t' ht'
    refine ⟨?_, by rw [old _ (nt t' ht')]; exact b, c, d, e⟩
    by_cases q : t'.P = t.P
    · have := B.one t' ht' t ht q
      subst this
      refine ⟨_, Heap.get?_push_of_some _ hP', by rw [Array.toList_append]; exact TriplesOk_snoc _ _ _ _ hto, fun q hq' => ?_⟩
      by_cases hsame : q.1.line = pos.line ∧ q.1.col = pos.col
      · have e0 := B.pos t' ht' q hq' _ hq hsame.1 hsame.2
        subst e0
        right
        refine ⟨c', oc, vs, tq, ?_, hs2 _ _ (gset_self _ _ _), hdc, hqc⟩
        rw [Array.toList_append]; exact codeAmong_snoc _ hto hnf
      · have e1 : codeAmong q.1 (ps ++ #[rawInt pos.line, rawInt pos.col, .ref c']).toList = codeAmong q.1 ps.toList := by
          rw [Array.toList_append]; exact codeAmong_other hsame _ hto
        rw [e1]
        rcases hcodes q hq' with e | ⟨c, o, vs, tk, e2, e3, e4⟩
        · exact .inl e
        · exact .inr ⟨c, o, vs, tk, e2, hs _ _ e3, e4⟩
    · obtain ⟨ps', hp', r'⟩ := id a
      exact a.mono hs ((keep _ _ q hp').trans hp'.symm)
end
section
variable {W : Wd} {φ g0 g g' : Gr} {names : List Str} {L : Addr} {vals vals' : List (Option Value)} {mu : List (Addr × Obj)} {s s' : Shared} {A : Around} {E : Value → Shared → Prop}
theorem ev_lam {t : Tb} {args : Arguments} {body : Expr} {scope : Scope} {pos : Pos} {env : Env} {qual : Str} {Q : Value → Shared → Prop} (B : Lb W) (ht : t ∈ W.tabs) (hq : (pos, qual) ∈ t.codes) (hqe : env.qual ++ "<lambda>" = qual)
    (S : St W φ g0 names g L vals mu s) (hG : env.globals = mainGlobals) (hcode : env.code = .ref t.c) (hdef : defaultsOf args env = ([], [])) (hfree : ∀ x ∈ scope.names, x.2 ≠ .free)
    (h : ∀ v g' s', Sub g g' → LamAt g' v qual args body scope → St W φ g0 names g' L vals mu s' → Q v s') : wpAny (model PP W.w) A (eval (.Lambda args body scope pos) env) Q E s := by
  rw [arm_eval_Lambda, hdef]
  show wpAny _ _ (makeFunction "<lambda>" (env.qual ++ "<lambda>") args (.expr body) scope env [] [] [] pos pos.line) _ _ _
  rw [hqe]
  obtain ⟨C, hb, hgP⟩ := B.hd t ht
  obtain ⟨⟨ps, hps, hto, hcodes⟩, _⟩ := S.tabs t ht
  have hb' : s.heap.BuiltinsAt W.mg t.P := by
    obtain ⟨bm, o, a1, a2, a3, a4, a5, a6⟩ := hb
    exact ⟨bm, o, a1, a2, a3, a4, S.toH _ _ a5, a6⟩
  have hg := S.base.g.keeps S.toH
  rcases hcodes _ hq with e | ⟨c, o, vs, tk, e, hgc, hdc, hqc⟩
  · refine kla_makeFunction (closureFor_none hfree) hG hg hcode (C.keeps S.toH) hps hto e hgP hb' fun c' ctv h' tk he hc1 hc2 hcr hP' => ?_
    obtain ⟨oc, vs, tq, hd, hv, hs, S'⟩ := St.lam_new (k := tk) (fo := kla_obj "<lambda>" qual args body scope [] ((W.mg "__name__").getD .none) c' ctv) B ht hq S hps hto hcodes e he hc1 hc2 hcr hP' rfl
    refine h _ _ _ hs ⟨_, _, _, _, rfl, gset_self _ _ _, c', oc, vs, tq, rfl, ?_, hd, hv⟩ S'
    unfold gset
    rw [if_neg (Nat.ne_of_lt hc2), if_pos rfl]
  · refine kla_makeFunctionHit (closureFor_none hfree) hG hg hcode (C.keeps S.toH) hps hto e hb' fun ctv h' tk' hk hsz => ?_
    have S1 : St W φ g0 names g L vals mu { s with heap := h', toks := tk' } := S.ext hk
    have S2 := S1.push_g { cls := .type "function", data := .func (kla_fn "<lambda>" qual args body scope [] ((W.mg "__name__").getD .none) (.ref c) ctv) } rfl
    have hn : g h'.objs.size = none := by
      cases q : g h'.objs.size with
      | none => rfl
      | some o => exact absurd (Heap.lt_size (S1.gh _ _ q)) (Nat.lt_irrefl _)
    exact h _ _ _ (gset_sub hn) ⟨_, _, _, _, rfl, gset_self _ _ _, c, o, vs, tk, rfl, gset_sub hn _ _ hgc, hdc, hqc⟩ S2

theorem call_lam {v x : Value} {qual : Str} {params : Arguments} {body : Expr} {scope : Scope} {n : Nat} {new mu0 : List (Addr × Obj)} {nm : Str} {Q : Value → Shared → Prop}
    (hA : Rm (n + 1) A) (S : St W φ g0 names g L vals (new ++ mu0) s) (hL : LamAt g v qual params body scope)
    (hb : ∀ cv ctv pm, bindArgs (kla_fn "<lambda>" qual params body scope [] pm cv ctv) ⟨[x], []⟩ = pure [(nm, x)]) (hnm : scope.names.lookup nm = some .local)
    (hco : scope.isCoroutine = false) (hgen : scope.isGenerator = false) (hk : scope.kind = .function) (hcell : ∀ x ∈ scope.names, x.2 ≠ .cell)
    (h : ∀ φ' L' s₁ a c env, env = newEnv scope L' mainGlobals [] (qual ++ ".<locals>.") (some a) (.ref c) none builtinsNs → St W φ' g [nm] g L' [some x] new s₁ →
      wpAny (model PP W.w) (A.deeper env) (eval body env) (fun r s₂ => ∃ g' vals', St W φ' g [nm] g' L' vals' new s₂ ∧ (∀ s', Sub g g' → St W φ g0 names g' L vals (new ++ mu0) s' → Q r s')) NoE s₁) :
    wpAny (model PP W.w) A (call v [x]) Q NoE s := by
  obtain ⟨a, cv, ctv, pm, rfl, ha, c, oc, vs, tq, rfl, hgc, hdc, hqc⟩ := hL
  have hlim : s.heap.NoLimit := S.base.nolimit.keeps S.toH
  refine wpAny_call (kla_callFunE hA.room (S.gh _ _ ha) rfl hco hgen rfl ⟨c, oc, vs, tq, rfl, S.gh _ _ hgc, hdc, hqc⟩ ?_)
  rw [hb]
  refine wpAny_pure (wpAny_newFunctionEnv hcell (by intro y hy; simp at hy; subst hy; exact hnm) (fun h₁ hns hsb => ⟨hlim.fresh _ hsb, ?_⟩) hk)
  have hk₁ : ∀ b o, s.heap.get? b = some o → h₁.get? b = some o := fun b o e => hsb.extBut b o (Nat.ne_of_lt (Heap.lt_size e)) (Heap.get?_push_of_some _ e)
  have hns' : h₁.Ns s.heap.objs.size (look [nm] [some x]) := by
    have : look [nm] [some x] = fun y => ([(nm, x)] : List (Str × Value)).reverse.lookup y := by
      funext y; unfold look idx idx
      show (match if y = nm then some 0 else none with | some i => _ | none => none) = List.lookup y [(nm, x)]
      by_cases q : y = nm
      · subst q; simp
      · have : (y == nm) = false := by simp [q]
        rw [if_neg q]; simp [List.lookup_cons, this]
    rw [this]; exact hns
  have S₁ := St.sub (new := new) (mu0 := mu0) (names' := [nm]) (vals' := [some x]) (k := s.toks + ([(nm, x)] : List (Str × Value)).length) S hns' rfl hk₁
  refine kla_codeExpr (wpAny_mono (h _ _ _ _ _ _ rfl S₁) (fun r s₂ hr => ?_) fun _ _ x => x.elim)
  obtain ⟨g', vals', S₂, hq⟩ := hr
  show Q r s₂
  have S₃ := St.unsub S S₂ (List.Sublist.refl _) (fun b hb => by
    obtain ⟨p, hp, rfl⟩ := List.mem_map.mp hb
    exact (S₂.mus p hp).2.2.1) (h' := s₂.heap) (.refl ..)
  exact hq _ S₂.g0g S₃
end
end
section
open PySem PySem.Calls PyProof.Rows PySem.Spec PySem.W PySem.Builtin.Str
section
variable {W : Wd} {φ g0 g g' : Gr} {names : List Str} {L : Addr} {vals vals' : List (Option Value)} {mu : List (Addr × Obj)} {s s' : Shared} {A : Around} {E : Value → Shared → Prop}
theorem St.code_new {t : Tb} {ps : Array Value} {pos : Pos} {qual : Str} {c' : Addr} {s' : Shared} (B : Lb W) (ht : t ∈ W.tabs) (hq : (pos, qual) ∈ t.codes)
    (S : St W φ g0 names g L vals mu s) (hps : s.heap.get? t.P = some (tabObj ps)) (hto : TriplesOk ps.toList) (hcodes : ∀ q ∈ t.codes, codeAmong q.1 ps.toList = none ∨ ∃ c o vs tk, codeAmong q.1 ps.toList = some (.ref c) ∧ g c = some o ∧ o.data = .fields vs ∧ vs[1]? = some (.str q.2 tk))
    (hnf : codeAmong pos ps.toList = none) (he : Heap.ExtBut t.P s.heap s'.heap) (hc1 : s.heap.objs.size ≤ c') (hcr : s'.heap.CodeRec (.ref c') qual)
    (hP' : s'.heap.get? t.P = some (tabObj (ps ++ #[rawInt pos.line, rawInt pos.col, .ref c']))) (hos : s'.os = s.os) (hgens : AllBare s'.gens) :
    ∃ oc, Sub g (gset g c' oc) ∧ St W φ g0 names (gset g c' oc) L vals mu s' := by
  obtain ⟨c, oc, vs, tq, e1, hoc, hdc, hqc⟩ := hcr
  cases e1
  have nt : ∀ t' ∈ W.tabs, t'.P < s.heap.objs.size := fun t' ht' => by
    obtain ⟨⟨ps, hp, _⟩, _⟩ := S.tabs t' ht'
    exact Heap.lt_size hp
  have keep : ∀ b o, b ≠ t.P → s.heap.get? b = some o → s'.heap.get? b = some o := fun b o hb e => he b o hb e
  have gn : ∀ b, s.heap.objs.size ≤ b → g b = none := fun b hb => by
    cases q : g b with
    | none => rfl
    | some o => exact absurd (Heap.lt_size (S.gh _ _ q)) (Nat.not_lt.mpr hb)
  have fn' : ∀ b, s.heap.objs.size ≤ b → φ b = none := fun b hb => by
    cases q : φ b with
    | none => rfl
    | some o => exact absurd (Heap.lt_size (S.fh _ _ q)) (Nat.not_lt.mpr hb)
  obtain ⟨oL, es, ep, hL, r⟩ := id S.ns
  have hLs : L < s.heap.objs.size := Heap.lt_size hL
  have hs : Sub g (gset g c' oc) := gset_sub (gn _ hc1)
  have old : ∀ b, b < s.heap.objs.size → gset g c' oc b = g b := fun b hb => by
    unfold gset; rw [if_neg (Nat.ne_of_lt (Nat.lt_of_lt_of_le hb hc1))]
  have gP : ∀ b o, g b = some o → b ≠ t.P := fun b o e q => by rw [q, (S.tabs t ht).2.1] at e; cases e
  have fP : ∀ b o, φ b = some o → b ≠ t.P := fun b o e q => by rw [q, (S.tabs t ht).2.2.1] at e; cases e
  refine ⟨oc, hs, ?_⟩
  refine ⟨S.base, S.stat, S.g0g.trans hs, fun b o e => ?_, fun b o e => keep b o (fP b o e) (S.fh b o e), ⟨oL, es, ep, keep _ _ (Ne.symm (S.tabs t ht).2.2.2.1) hL, r⟩, S.len, ?_, S.fL, fun p hp => ?_, S.nd, fun b hb hb' => ?_, fun t' ht' => ?_, hos.trans S.os, hgens⟩
  · unfold gset at e
    by_cases q2 : b = c'
    · subst q2; rw [if_pos rfl] at e; cases e; exact hoc
    · rw [if_neg q2] at e; exact keep b o (gP b o e) (S.gh b o e)
  · rw [old _ hLs]; exact S.gL
  · obtain ⟨a, b, c, d⟩ := S.mus p hp
    exact ⟨keep _ _ ((S.tabs t ht).2.2.2.2 p hp) a, b, by rw [old _ (Heap.lt_size a)]; exact c, d⟩
  · have hlt : b < s.heap.objs.size := by
      rcases Nat.lt_or_ge b s.heap.objs.size with h | h
      · exact h
      · exact absurd (fn' b h) hb'
    rw [old _ hlt] at hb
    exact S.sep b hb hb'
  · obtain ⟨a, b, c, d, e⟩ := S.tabs t' ht'
    refine ⟨?_, by rw [old _ (nt t' ht')]; exact b, c, d, e⟩
    by_cases q : t'.P = t.P
    · have := B.one t' ht' t ht q
      subst this
      refine ⟨_, hP', by rw [Array.toList_append]; exact TriplesOk_snoc _ _ _ _ hto, fun q hq' => ?_⟩
      by_cases hsame : q.1.line = pos.line ∧ q.1.col = pos.col
      · have e0 := B.pos t' ht' q hq' _ hq hsame.1 hsame.2
        subst e0
        right
        refine ⟨c', oc, vs, tq, ?_, gset_self _ _ _, hdc, hqc⟩
        rw [Array.toList_append]; exact codeAmong_snoc _ hto hnf
      · have e1 : codeAmong q.1 (ps ++ #[rawInt pos.line, rawInt pos.col, .ref c']).toList = codeAmong q.1 ps.toList := by
          rw [Array.toList_append]; exact codeAmong_other hsame _ hto
        rw [e1]
        rcases hcodes q hq' with e | ⟨c, o, vs, tk, e2, e3, e4⟩
        · exact .inl e
        · exact .inr ⟨c, o, vs, tk, e2, hs _ _ e3, e4⟩
    · obtain ⟨ps', hp', r'⟩ := id a
      exact a.mono hs ((keep _ _ q hp').trans hp'.symm)
theorem St.extG (S : St W φ g0 names g L vals mu s) (hk : ∀ b o, s.heap.get? b = some o → s'.heap.get? b = some o) (hos : s'.os = s.os) (hg : AllBare s'.gens) : St W φ g0 names g L vals mu s' := by
  have S1 := S.ext (h' := s'.heap) (k := s'.toks) hk
  exact ⟨S1.base, S1.stat, S1.g0g, S1.gh, S1.fh, S1.ns, S1.len, S1.gL, S1.fL, S1.mus, S1.nd, S1.sep, S1.tabs, hos.trans S.os, hg⟩
theorem St.moved {wr : List Addr} (S : St W φ g0 names g L vals mu s) (hk : ∀ b o, b ∉ wr → s.heap.get? b = some o → s'.heap.get? b = some o)
    (hw : ∀ b ∈ wr, g b = none ∧ φ b = none ∧ b ≠ L ∧ (∀ p ∈ mu, p.1 ≠ b) ∧ ∀ t ∈ W.tabs, t.P ≠ b) (hos : s'.os = s.os) (hg : AllBare s'.gens) : St W φ g0 names g L vals mu s' := by
  obtain ⟨oL, es, ep, hL, r⟩ := id S.ns
  refine ⟨S.base, S.stat, S.g0g, fun b o e => hk b o (fun hb => ?_) (S.gh b o e), fun b o e => hk b o (fun hb => ?_) (S.fh b o e), ⟨oL, es, ep, hk _ _ (fun hb => (hw _ hb).2.2.1 rfl) hL, r⟩, S.len, S.gL, S.fL, fun p hp => ?_, S.nd, S.sep, fun t ht => ?_, hos.trans S.os, hg⟩
  · rw [(hw b hb).1] at e; cases e
  · rw [(hw b hb).2.1] at e; cases e
  · obtain ⟨x, y⟩ := S.mus p hp
    exact ⟨hk _ _ (fun hb => (hw _ hb).2.2.2.1 p hp rfl) x, y⟩
  · obtain ⟨x, y⟩ := S.tabs t ht
    obtain ⟨ps, hp, r⟩ := id x
    exact ⟨x.mono (.refl _) ((hk _ _ (fun hb => (hw _ hb).2.2.2.2 t ht rfl) hp).trans hp.symm), y⟩
noncomputable def GenIs (W : Wd) (A : Around) (φ g : Gr) (L : Addr) (mu : List (Addr × Obj)) (a : Addr) (n : Nat) (F : Nat → Value → Prop) (s : Shared) : Prop :=
  ∃ fp wr gi St₀, WalksS PP W.w A.in4 a fp wr (GenOnlyQ gi) n F St₀ ∧ St₀ 0 s ∧ (∀ i s', St₀ i s' → s'.TypeIs (.ref a) "generator") ∧ a ∈ fp ∧ (∀ b ∈ fp, b < s.heap.objs.size) ∧
    ∀ b ∈ wr, g b = none ∧ φ b = none ∧ b ≠ L ∧ (∀ p ∈ mu, p.1 ≠ b) ∧ ∀ t ∈ W.tabs, t.P ≠ b
theorem s_joinGen {a : Addr} {sep : List Nat} {t : Tok} {x : List Nat} {Q : Value → Shared → Prop} (S : St W φ g0 names g L vals mu s) (hsep : sep.length ≤ 10) (hx : x.length ≤ 1000)
    (X : GenIs W A φ g L mu a 1 (fun _ y => ∃ u, y = .str (T x) u) s) (h : ∀ t' s', St W φ g0 names g L vals mu s' → Q (.str (T x) t') s') :
    wpAny (model PP W.w) A (call (.builtin "str.join") [.str (T sep) t, .ref a]) Q E s := by
  obtain ⟨fp, wr, gi, St₀, Wk, hst, hT, ha, hfp, hw⟩ := X
  refine SC.joinGen Wk.in4_2 hT hst hfp ha (fun i v hv => ⟨_, hv.choose, hv.choose_spec⟩) (fun s' l hm hi => ?_) (by rw [sizeLine_eq]; walk_at "o")
  have S' := S.moved (s' := s') (fun b o hb e => hm.heap b o hb e) hw hm.os (S.gens.moved hm.gens)
  obtain ⟨p, rfl⟩ : ∃ p, l = [p] := by
    have := hi.1
    simp [strValues] at this
    exact List.length_eq_one_iff.mp this
  have hp := hi.2 0 (.str p.1 p.2) (by simp [strValues])
  obtain ⟨u, hu⟩ := hp
  injection hu with hu1 hu2
  rw [List.map_singleton, hu1]
  refine ⟨joinOk_of (by simp only [List.map_singleton, List.sum_singleton, T_len, List.length_singleton]; walk_at "o"), fun t' k => ?_⟩
  have e : Txt.join (T sep) [T x] = T x := by
    have := txtjoin_T sep [x]
    simpa [joinL] using this
  rw [e]
  exact h _ _ (S'.tk k)
theorem walksS_weaken {prog : Program} {w : World} {I : Addr} {fp wr : List Addr} {G : Array GenState → Array GenState → Prop} {n : Nat} {P P' : Nat → Value → Prop} {St : Nat → Shared → Prop}
    (X : WalksS prog w A I fp wr G n P St) (h : ∀ i v, P i v → P' i v) : WalksS prog w A I fp wr G n P' St where
  sub := X.sub
  grefl := X.grefl
  gtrans := X.gtrans
  frame := X.frame
  item := fun i s Q E hi st hQ => X.item i s Q E hi st fun v s' hP => hQ v s' (h i v hP)
  done := X.done
  self := X.self
theorem genexprCode_hit {M : Model} {env : Env} {c P : Addr} {ps : Array Value} {pos : Pos} {qualname : Str} {scope : Scope} {cv : Value} {Q : Value → Shared → Prop} (hc : env.code = .ref c) (hok : s.heap.IsCode c P ps) (hf : codeAmong pos ps.toList = some cv) (hQ : Q cv s) :
    wpAny M A (genexprCode env pos qualname scope) Q E s := by
  obtain ⟨o, vs, file, tf, flags, tg, inF, text, tt, op, ho, hd, h11, h2, h7, h9, h10, hop, hpd, htr, hne⟩ := id hok
  unfold genexprCode codeAt
  rw [hc, if_neg (show ¬ ((Value.ref c == Value.none) = true) from Bool.false_ne_true)]
  refine wpAny_bind (wpAny_fieldsOf ho hd ?_)
  rw [h11]
  refine wpAny_bind (wpAny_fieldsOf hop hpd ?_)
  rw [hf]
  exact wpAny_pure hQ
theorem isCode_of {h : Heap} {c P : Addr} {ps : Array Value} (C : CodeHd h c P) (hP : h.get? P = some (tabObj ps)) (ht : TriplesOk ps.toList) : h.IsCode c P ps ∧ h.TableAt c P ps := by
  obtain ⟨o, vs, file, tf, flags, tg, inF, text, tt, e1, e2, e3, e4, f3, f4, f5, f6, f7, f11⟩ := C
  exact ⟨⟨o, vs, file, tf, flags, tg, inF, text, tt, _, e1, e3, f3, f4, f5, f6, f7, hP, rfl, ht, f11⟩, ⟨o, vs, e1, e2, e3, e4⟩, hP⟩
set_option maxHeartbeats 1000000 in
theorem ev_gen1 {t : Tb} {elt iter : Expr} {x : Str} {px pos : Pos} {scope : Scope} {env : Env} {qual : Str} {D : Addr} {n : Nat} {v : Value} {F : Value → Prop} {Q : Value → Shared → Prop} (B : Lb W) (ht : t ∈ W.tabs)
    (hq : (pos, qual) ∈ t.codes) (hqe : env.qual ++ "<genexpr>" = qual)
    (S : St W φ g0 names g L vals mu s) (hA : Rm 1 A) (hG : env.globals = mainGlobals) (hcode : env.code = .ref t.c)
    (hco : scope.isCoroutine = false) (hclos : closureFor scope env = pure []) (hcell : ∀ y ∈ scope.names, y.2 ≠ .cell) (h0 : scope.names.lookup (".0" : Str) = some NameKind.local)
    (hx : scope.names.lookup x = some .local) (hkind : scope.kind = .function) (hs : ∀ x, genFold iter env x = pure x)
    (hit : ∀ Q : Value → Shared → Prop, Q (.ref D) s → wpAny (model PP W.w) A (eval iter env) Q E s) (hD : s.heap.get? D = some (lst [v] n))
    (helt : ∀ (C : Addr) (code : Value) (A' : Around) E' (s₂ : Shared) m₂, A'.handled = none → s₂.heap.Ns C m₂ → m₂ x = some v → NoneBooked s₂.heap →
      wpAny (model PP W.w) A' (eval elt (genEnv scope [] C code builtinsNs env)) (fun y s₃ => F y ∧ Keeps s₂ s₃) E' s₂)
    (h : ∀ a g' s', Sub g g' → St W φ g0 names g' L vals mu s' → GenIs W A φ g' L mu a 1 (fun _ y => F y) s' → Q (.ref a) s') :
    wpAny (model PP W.w) A (eval (.GeneratorExp elt [⟨.Name x px, iter, [], 0⟩] scope pos) env) Q E s := by
  obtain ⟨Cd, hb, hgP⟩ := B.hd t ht
  obtain ⟨⟨ps, hps, hto, hcodes⟩, hgtP, hftP, hLtP, hmtP⟩ := id (S.tabs t ht)
  have hlim : s.heap.NoLimit := S.base.nolimit.keeps S.toH
  have hl : s.heap.IsList D [v].toArray := ⟨_, hD, rfl, n, rfl⟩
  have hDlt := Heap.lt_size hD
  refine wpAny_GeneratorExp_walksQ hA.1 hco hclos hcell h0 hx hkind hA.room (hit _ (wpAny_pyIter_list hl ⟨hlim.push _, ?_⟩)) hs
  have hI : (s.heap.push { cls := .type "list_iterator", data := .fields #[.ref D, .int 0 0] }).objs.size = s.heap.objs.size + 1 := Heap.size_push ..
  have hPlt := Heap.lt_size hps
  have hDP : D ≠ t.P := fun e => by rw [e, hps] at hD; cases hD
  have keep1 : ∀ b o, s.heap.get? b = some o → (s.heap.push { cls := .type "list_iterator", data := .fields #[.ref D, .int 0 0] }).get? b = some o := fun b o e => Heap.get?_push_of_some _ e
  have gn : ∀ b, s.heap.objs.size ≤ b → g b = none := fun b hb => by
    cases q : g b with
    | none => rfl
    | some o => exact absurd (Heap.lt_size (S.gh _ _ q)) (Nat.not_lt.mpr hb)
  have fn' : ∀ b, s.heap.objs.size ≤ b → φ b = none := fun b hb => by
    cases q : φ b with
    | none => rfl
    | some o => exact absurd (Heap.lt_size (S.fh _ _ q)) (Nat.not_lt.mpr hb)
  have hLs : L < s.heap.objs.size := by obtain ⟨oL, es, ep, hL, r⟩ := id S.ns; exact Heap.lt_size hL
  have hcP : cStatics ≠ t.P := fun e => by
    obtain ⟨_, hns, _⟩ := hlim
    obtain ⟨o, es, ep, ho, hd, _⟩ := hns
    rw [e, hps] at ho; cases ho; cases hd
  have hclt : cStatics < s.heap.objs.size := let ⟨_, hn, _⟩ := hlim; hn.lt
  have key : ∀ (code : Value) (h₃ : Heap) (tk : Tok) (g₁ : Gr), (∀ b o, b ≠ t.P → (s.heap.push { cls := .type "list_iterator", data := .fields #[.ref D, .int 0 0] }).get? b = some o → h₃.get? b = some o) → s.heap.objs.size + 1 ≤ h₃.objs.size →
      Sub g g₁ → g₁ s.heap.objs.size = none → g₁ h₃.objs.size = none →
      (∀ s' : Shared, (∀ b o, h₃.get? b = some o → s'.heap.get? b = some o) → s'.os = s.os → AllBare s'.gens → St W φ g0 names g₁ L vals mu s') →
      wpAny (model PP W.w) A (builtinsFor env.globals env.builtins) (fun bi s₄ =>
        ∃ I fp wr n₀ P St₀ pz F, Value.ref s.heap.objs.size = .ref I ∧ (∀ A' : Around, A'.handled = none → Walks PP W.w A' I fp wr n₀ P St₀) ∧ St₀ 0 s₄.heap ∧ (∀ b ∈ fp, b < s₄.heap.objs.size) ∧ s₄.heap.NoLimit ∧ cStatics ∉ wr ∧
          (∀ href : Heap, (∀ b o, s₄.heap.get? b = some o → href.get? b = some o) →
            QuietGen PP W.w (genEnv scope [] s₄.heap.objs.size code bi env) x [] elt (List.range s₄.heap.objs.size) wr P pz F href) ∧
          (∀ a h₅ tk gs, gs.bare = true → s₄.heap.objs.size < a → h₅.objs.size = a + 1 → (∀ b o, s₄.heap.get? b = some o → h₅.get? b = some o) →
            WalksS PP W.w A.in4 a (a :: s₄.heap.objs.size :: List.range s₄.heap.objs.size) (s₄.heap.objs.size :: wr) (GenOnlyQ s₄.gens.size) (passing pz n₀ 0).length
              (fun j y => ∃ i, (passing pz n₀ 0)[j]? = some i ∧ F i y) (GenAt PP W.w A.in4 a s₄.gens.size s₄.heap.objs.size (List.range s₄.heap.objs.size) wr pz n₀ F) →
            GenAt PP W.w A.in4 a s₄.gens.size s₄.heap.objs.size (List.range s₄.heap.objs.size) wr pz n₀ F 0 { s₄ with gens := s₄.gens.push gs, toks := tk, heap := h₅ } →
            Q (.ref a) { s₄ with gens := s₄.gens.push gs, toks := tk, heap := h₅ })) E { s with heap := h₃, toks := tk } := by
    intro code h₃ tk g₁ hk₃ hsz hsub hgI hgC hSt
    obtain ⟨bm, ob, a1, a2, a3, a4, a5, a6, a7, a8⟩ := id hb
    have S3 := hSt { s with heap := h₃, toks := tk } (fun _ _ e => e) rfl S.gens
    have hl3 : h₃.NoLimit := S.base.nolimit.keeps S3.toH
    refine wpAny_builtinsFor (m := W.mg) (by rw [hG]; exact S.base.g.keeps S3.toH) a1 a2 (S3.toH _ _ a5) a6 a7 a8 ?_
    refine ⟨s.heap.objs.size, [s.heap.objs.size, D], [s.heap.objs.size], 1, fun i v' => [v].toArray[i]? = some v', fun i h => h.IsListIter s.heap.objs.size D i ∧ h.IsList D [v].toArray, fun _ => true, fun _ y => F y, rfl,
      (fun A' hA => Walks.list hA _ _ (Nat.ne_of_lt hDlt) [v].toArray), ⟨⟨_, hk₃ _ _ (Nat.ne_of_gt hPlt) (Heap.get?_push_size _ rfl), rfl, rfl⟩, _, hk₃ _ _ hDP (keep1 _ _ hD), rfl, n, rfl⟩, ?_, hl3, ?_, fun href hhref => ⟨?_, ?_⟩, ?_⟩
    · intro b hb'
      show b < h₃.objs.size
      rcases List.mem_cons.mp hb' with rfl | hb'
      · exact Nat.lt_of_lt_of_le (Nat.lt_succ_self _) hsz
      · rcases List.mem_cons.mp hb' with rfl | hb'
        · exact Nat.lt_of_lt_of_le (Nat.lt_succ_of_lt hDlt) hsz
        · cases hb'
    · intro hm
      rcases List.mem_cons.mp hm with e | hm
      · exact absurd e (Nat.ne_of_lt hclt)
      · cases hm
    · intro A' E' i v' s₂ m₂ hA' hP hn hm hkp
      exact wpAny_pure ⟨rfl, _, _, rfl, fun _ _ e => e⟩
    · intro A' E' i v' s₂ m₂ hA' hP _ hn hm hkp
      have : v' = v := by
        cases i with
        | zero => simpa using hP.symm
        | succ i => simp at hP
      subst this
      refine helt _ code A' E' s₂ m₂ hA' hn hm ?_
      obtain ⟨mc, hns, hmc⟩ := B.nb
      have hns := hns.keeps S3.toH
      refine ⟨mc, hns.at' fun o e => hkp cStatics (List.mem_range.mpr hns.lt) (fun hm => ?_) o (hhref _ _ e), hmc⟩
      rcases List.mem_cons.mp hm with e | hm
      · exact absurd e (Nat.ne_of_lt hclt)
      · cases hm
    · intro a h₅ tk₅ gs hgb hag hsz₅ hk₅ Wk hat
      have hag' : h₃.objs.size < a := hag
      refine h a g₁ _ hsub (hSt _ hk₅ rfl (S.gens.push hgb)) ⟨_, _, _, _, walksS_weaken Wk fun i v hv => hv.choose_spec.2, hat, (fun i s' st => st.1.typeIs), List.mem_cons_self, ?_, ?_⟩
      · intro b hb'
        show b < h₅.objs.size
        rw [hsz₅]
        rcases List.mem_cons.mp hb' with rfl | hb'
        · exact Nat.lt_succ_self _
        · rcases List.mem_cons.mp hb' with rfl | hb'
          · exact Nat.lt_succ_of_lt hag'
          · exact Nat.lt_succ_of_lt (Nat.lt_trans (List.mem_range.mp hb') hag')
      · have far : ∀ b, s.heap.objs.size ≤ b → g₁ b = none → g₁ b = none ∧ φ b = none ∧ b ≠ L ∧ (∀ p ∈ mu, p.1 ≠ b) ∧ ∀ t ∈ W.tabs, t.P ≠ b := fun b hb' hg => by
          refine ⟨hg, fn' b hb', Nat.ne_of_gt (Nat.lt_of_lt_of_le hLs hb'), fun p hp => Nat.ne_of_lt (Nat.lt_of_lt_of_le (Heap.lt_size (S.mus p hp).1) hb'), fun t' ht' => ?_⟩
          obtain ⟨⟨ps', hp', _⟩, _⟩ := S.tabs t' ht'
          exact Nat.ne_of_lt (Nat.lt_of_lt_of_le (Heap.lt_size hp') hb')
        intro b hb'
        rcases List.mem_cons.mp hb' with rfl | hb'
        · exact far _ (Nat.le_trans (Nat.le_succ _) hsz) hgC
        · rcases List.mem_cons.mp hb' with rfl | hb'
          · exact far _ (Nat.le_refl _) hgI
          · cases hb'
  obtain ⟨hic, hta⟩ := isCode_of ((Cd.keeps S.toH).keeps keep1) (keep1 _ _ hps) hto
  rcases hcodes _ hq with e | ⟨c, o, vs, tk, e, hgc, hdc, hqc⟩
  · refine wpAny_genexprCodeX (s := { s with heap := s.heap.push { cls := .type "list_iterator", data := .fields #[.ref D, .int 0 0] } }) hcode hic hta e fun c' h₃ tk₃ hx₃ hge hlt hcode₃ hrec htab₃ _ => ?_
    replace hge : s.heap.objs.size + 1 ≤ c' := by rw [← hI]; exact hge
    have hrec' : h₃.CodeRec (.ref c') qual := by rw [← hqe]; exact hrec
    have mk : ∀ s' : Shared, (∀ b o, h₃.get? b = some o → s'.heap.get? b = some o) → s'.os = s.os → AllBare s'.gens → ∃ oc, Sub g (gset g c' oc) ∧ St W φ g0 names (gset g c' oc) L vals mu s' := fun s' hk hos hg =>
      S.code_new B ht hq hps hto hcodes e (fun b o hb e => hk _ _ (hx₃ b o hb (keep1 _ _ e))) (by walk_at "o") (hrec'.keeps hk) (hk _ _ htab₃.2) hos hg
    obtain ⟨oc, hsub, S3⟩ := mk { s with heap := h₃, toks := tk₃ } (fun _ _ e => e) rfl S.gens
    have n1 : s.heap.objs.size ≠ c' := by walk_at "o"
    have n2 : h₃.objs.size ≠ c' := by walk_at "o"
    have n3 : s.heap.objs.size ≤ h₃.objs.size := by walk_at "o"
    refine key (.ref c') h₃ tk₃ (gset g c' oc) (fun b o hb e => hx₃ b o hb e) (by walk_at "o") hsub (by unfold gset; rw [if_neg n1]; exact gn _ (Nat.le_refl _)) (by unfold gset; rw [if_neg n2]; exact gn _ n3) fun s' hk hos hg => ?_
    obtain ⟨oc', _, S4⟩ := mk s' hk hos hg
    have e1 := hk _ _ (S3.gh c' oc (gset_self _ _ _))
    have e2 := S4.gh c' oc' (gset_self _ _ _)
    rw [e1] at e2; cases e2
    exact S4
  · refine genexprCode_hit (s := { s with heap := s.heap.push { cls := .type "list_iterator", data := .fields #[.ref D, .int 0 0] } }) hcode hic e ?_
    refine key (.ref c) _ s.toks g (fun b o _ e => e) (by rw [hI]; exact Nat.le_refl _) (.refl _) (gn _ (Nat.le_refl _)) (gn _ (by rw [hI]; walk_at "o")) fun s' hk hos hg => S.extG (fun b o e => hk _ _ (keep1 _ _ e)) hos hg
end

section
variable {W : Wd} {φ g0 g g' : Gr} {names : List Str} {L : Addr} {vals vals' : List (Option Value)} {mu : List (Addr × Obj)} {s s' : Shared} {A : Around} {E : Value → Shared → Prop}
theorem Lb.nbS (B : Lb W) (S : St W φ g0 names g L vals mu s) : NoneBooked s.heap := by
  obtain ⟨mc, hns, hmc⟩ := B.nb
  exact ⟨mc, hns.keeps S.toH, hmc⟩
theorem occ_empty (x y : Str) (n k : Nat) (hy : y.length = 1) : occurrences x y n n k = [] := by
  unfold occurrences
  simp [Id.run, hy]
  rw [if_neg (by walk_at "o")]
  rfl
theorem s_find4 {l : List Nat} {c k : Nat} {t u v w : Tok} {Q : Value → Shared → Prop} (S : St W φ g0 names g L vals mu s) (hk : k ≤ l.length) (h : ∀ t' s', St W φ g0 names g L vals mu s' → Q (.int (-1) t') s') :
    wpAny (model PP W.w) A (call (.builtin "str.find") [.str (T l) t, .str (T [c]) u, .int k v, .int k w]) Q E s := by
  refine call_gives F.slot_str_find (typeIs_str _ _ _) F.entry_str_find (F.args_str_find_4 _ _ _ _) (m := .int (-1)) ?_ (h _ _ (S.tk _))
  have e : fromIndex (T l).length (k : Int) = k := by unfold fromIndex; rw [if_neg (by walk_at "o")]; walk_at "o"
  show Gives (match occurrences (T l) (T [c]) (fromIndex (T l).length (k : Int)) (min (fromIndex (T l).length (k : Int)) (T l).length) 1 with | k :: _ => retInt k | [] => (do rule "str.find.not-found"; retInt (-1))) _
  rw [e, T_len, Nat.min_eq_left hk, occ_empty _ _ _ _ (T_len _)]
  exact .rule (.of_eq rfl)
theorem rep_no {c d : Nat} {z : Str} {t u v : Tok} {Q : Value → Shared → Prop} (hcd : ((occurrences (T [c]) (T [d]) 0 (T [c]).length ((T [c]).length + 1)).isEmpty || ((T [d]).length == 0 && z.length == 0)) = true) (hnb : NoneBooked s.heap) (h : Q (.str (T [c]) t) s) :
    wpAny (model PP W.w) A (call (.builtin "str.replace") [.str (T [c]) t, .str (T [d]) u, .str z v]) Q E s := by
  refine call_givesAt F.slot_str_replace (typeIs_str _ _ _) F.entry_str_replace (F.args_str_replace_3 _ _ _) (gives_str_replace2 (T [c]) (T [d]) z t u v fun hc => ?_) hnb ?_
  · rw [hcd] at hc; cases hc
  · rw [if_pos hcd]; exact h
theorem l_tr {D : Addr} {o : Obj} {vs : List Value} {n : Nat} {Q : Bool → Shared → Prop} (S : St W φ g0 names g L vals mu s) (hD : s.heap.get? D = some o) (e : o = lst vs n) (hsz : vs.length ≤ 100000)
    (h : ∀ s', St W φ g0 names g L vals mu s' → Q (!vs.isEmpty) s') : wpAny (model PP W.w) A (truthy (.ref D)) Q E s := by
  subst e
  refine wpAny_truthy_list (items := vs.toArray) ⟨_, hD, rfl, n, rfl⟩ (by simp; walk_at "o") ?_
  have : vs.toArray.isEmpty = vs.isEmpty := by cases vs <;> rfl
  rw [this]; exact h _ (S.tk _)
theorem meet {M : Model} {b : Bool} {t1 t2 : Sem Flow} {Q : Flow → Shared → Prop} (I : Shared → Prop) (hq : ∀ s', I s' → Q .next s') (h1 : b = true → wpAny M A t1 (fun f s' => f = .next ∧ I s') E s) (h2 : b = false → wpAny M A t2 (fun f s' => f = .next ∧ I s') E s) :
    (b = true → wpAny M A t1 Q E s) ∧ (b = false → wpAny M A t2 Q E s) :=
  ⟨fun hb => wpAny_mono (h1 hb) (fun f s' h => by obtain ⟨rfl, h⟩ := h; exact hq _ h) fun _ _ x => x, fun hb => wpAny_mono (h2 hb) (fun f s' h => by obtain ⟨rfl, h⟩ := h; exact hq _ h) fun _ _ x => x⟩
noncomputable def IOr0 (x c : Int) (_ : Nat) (o : Obj) : Prop := o = { cls := .type "range_iterator", data := .fields #[rawInt x, rawInt 0, rawInt c] }
theorem Nx.range0 (hh : A.handled = none) {x c : Int} {I : Addr} : Nx W A φ I (IOr0 x c) 0 (fun _ _ => True) (fun _ => True) where
  nx := fun {g0 names g L vals mu s i o E Q} hC hI S hs he => by
    subst hI
    obtain ⟨h1, hL, hIg, hIf⟩ := S.mus _ (List.mem_cons_self)
    exact wpAny_pyNext_range_end hh h1 (Int.le_refl 0) fun h' he' => he _ (Nat.zero_le _) (S.let_go (k := s.toks) he')
  self := fun {g0 names g L vals mu s i o E Q} hI S hQ => by
    subst hI
    obtain ⟨h1, hL, hIg, hIf⟩ := S.mus _ (List.mem_cons_self)
    exact wpAny_pyIter_rangeiter h1 hQ
theorem new_range0 {t u v : Tok} {Q : Value → Shared → Prop} (S : St W φ g0 names g L vals mu s) (h : ∀ a s', St W φ g0 names g L vals ((a, { cls := .type "range", data := .fields #[.int 0 t, .int 0 u, .int (-1) v] }) :: mu) s' → Q (.ref a) s') :
    wpAny (model PP W.w) A (call (.type "range") [.int 0 t, .int 0 u, .int (-1) v]) Q E s :=
  call_range_3 (by decide) (h _ _ (S.push_mu _ rfl))
theorem it_range0 {a : Addr} {t u v : Tok} {Q : Value → Shared → Prop} (S : St W φ g0 names g L vals ((a, { cls := .type "range", data := .fields #[.int 0 t, .int 0 u, .int (-1) v] }) :: mu) s)
    (h : ∀ I o s', IOr0 0 (-1) 0 o → St W φ g0 names g L vals ((I, o) :: (a, { cls := .type "range", data := .fields #[.int 0 t, .int 0 u, .int (-1) v] }) :: mu) s' → Q (.ref I) s') : wpAny (model PP W.w) A (pyIter (.ref a)) Q E s := by
  refine wpAny_pyIter_range (a := 0) (b := 0) (c := -1) (S.mus _ (List.mem_cons_self)).1 (by decide) ?_
  exact h _ _ _ rfl (S.push_mu _ rfl)
end
end
section
open PySem PySem.Calls PyProof.Rows PySem.Spec PySem.W PySem.Builtin.Str
noncomputable abbrev MM := Sre.M

noncomputable def Go (n : Nat) (m m' : MM) : Prop := ∀ sn, ∃ k sn', k ≤ n ∧ Nat.repeat Sre.M.step k { m with seen := sn } = { m' with seen := sn' }
theorem Go.refl (m : MM) : Go 0 m m := fun sn => ⟨0, sn, Nat.le_refl _, rfl⟩
theorem repeat_add {α : Type} (f : α → α) (a b : Nat) (x : α) : Nat.repeat f (a + b) x = Nat.repeat f b (Nat.repeat f a x) := by
  induction b with
  | zero => rfl
  | succ b ih => rw [Nat.add_succ]; show f _ = f _; rw [ih]
theorem Go.trans {a b : Nat} {m m' m'' : MM} (h : Go a m m') (h' : Go b m' m'') : Go (a + b) m m'' := fun sn => by
  obtain ⟨k, sn', hk, e⟩ := h sn
  obtain ⟨k', sn'', hk', e'⟩ := h' sn'
  exact ⟨k + k', sn'', Nat.add_le_add hk hk', by rw [repeat_add, e, e']⟩
theorem Go.mono {a b : Nat} {m m' : MM} (h : Go a m m') (l : a ≤ b) : Go b m m' := fun sn => by
  obtain ⟨k, sn', hk, e⟩ := h sn
  exact ⟨k, sn', Nat.le_trans hk l, e⟩
theorem Go.one {m m' : MM} (h : ∀ sn, ∃ sn', Sre.M.step { m with seen := sn } = { m' with seen := sn' }) : Go 1 m m' := fun sn => by
  obtain ⟨sn', e⟩ := h sn
  exact ⟨1, sn', Nat.le_refl _, e⟩

structure Rd0 (m : MM) : Prop where
  an : m.answer = none
  oc : m.outcome = none
  pc : m.pc < m.code.size

theorem step_exec {m : MM} (h : Rd0 m) (sn : Sre.Seen) : Sre.M.step { m with seen := sn } = Sre.M.exec { m with seen := sn } := by
  unfold Sre.M.step
  have h1 : ({ m with seen := sn } : MM).outcome.isSome = false := by show m.outcome.isSome = false; rw [h.oc]; rfl
  rw [h1]
  simp only [Bool.false_eq_true, if_false]
  show (match m.answer, m.frames with | some yes, [] => _ | some yes, f :: rest => _ | none, _ => _) = _
  rw [h.an]
  show (if m.pc < m.code.size then _ else _) = _
  rw [if_pos h.pc]
theorem step_pop {m : MM} {f : Sre.Frame} {rest : List Sre.Frame} {yes : Bool} (ha : m.answer = some yes) (ho : m.outcome = none) (hf : m.frames = f :: rest) (sn : Sre.Seen) :
    Sre.M.step { m with seen := sn } = Sre.M.resume { m with seen := sn, answer := none, frames := rest, weight := m.weight - (1 + f.kept.marks.size), pc := f.pc, pos := f.pos, outermost := f.outermost } f yes := by
  unfold Sre.M.step
  have h1 : ({ m with seen := sn } : MM).outcome.isSome = false := by show m.outcome.isSome = false; rw [ho]; rfl
  rw [h1]
  simp only [Bool.false_eq_true, if_false]
  show (match m.answer, m.frames with | some yes, [] => _ | some yes, f :: rest => _ | none, _ => _) = _
  rw [ha, hf]
theorem go_end {m : MM} {yes : Bool} (ha : m.answer = some yes) (ho : m.outcome = none) (hf : m.frames = []) : Go 1 m { m with outcome := some (if yes then .matched else .failed) } :=
  .one fun sn => ⟨sn, by
    unfold Sre.M.step
    have h1 : ({ m with seen := sn } : MM).outcome.isSome = false := by show m.outcome.isSome = false; rw [ho]; rfl
    rw [h1]
    simp only [Bool.false_eq_true, if_false]
    show (match m.answer, m.frames with | some yes, [] => _ | some yes, f :: rest => _ | none, _ => _) = _
    rw [ha, hf]⟩

noncomputable def Tk (C : Array Nat) (i c : Nat) (b : Bool) : Prop := ∀ sn, ∃ sn', Sre.accepts C i c sn = .ok (b, sn')

theorem run_spec {C tx : Array Nat} {i : Nat} : ∀ (N n p f : Nat) (sn : Sre.Seen), n ≤ N → (∀ j, j < n → Tk C i (tx.getD (p + j) 0) true) → (n = N ∨ Tk C i (tx.getD (p + n) 0) false) →
    ∃ sn', Sre.run C tx i N p f sn = .ok (f + n, sn')
  | 0, n, p, f, sn, hn, _, _ => by have : n = 0 := by walk_at "o"
                                   subst this; exact ⟨sn, rfl⟩
  | N + 1, 0, p, f, sn, _, _, he => by
    rcases he with he | he
    · cases he
    · obtain ⟨sn', e⟩ := he sn
      refine ⟨sn', ?_⟩
      unfold Sre.run
      rw [show p = p + 0 from rfl, e]; rfl
  | N + 1, n + 1, p, f, sn, hn, ht, he => by
    obtain ⟨sn', e⟩ := ht 0 (Nat.succ_pos _) sn
    obtain ⟨sn'', e'⟩ := run_spec N n (p + 1) (f + 1) sn' (by walk_at "o") (fun j hj => by have := ht (j + 1) (by walk_at "o"); rw [show p + 1 + j = p + (j + 1) by walk_at "o"]; exact this)
      (he.imp (by walk_at "o") (by intro h; rw [show p + 1 + n = p + (n + 1) by walk_at "o"]; exact h))
    refine ⟨sn'', ?_⟩
    unfold Sre.run
    rw [show tx.getD p 0 = tx.getD (p + 0) 0 from rfl, e]
    exact e'.trans (by rw [show f + 1 + n = f + (n + 1) by walk_at "o"])

section
variable {m : MM}
theorem exec_at (hw : m.word 0 = 6) : Sre.M.exec m = (match Sre.M.isAt { m with seen := m.seen.add 6 } (m.word 1) with
    | .error why => Sre.M.stick { m with seen := m.seen.add 6 } why
    | .ok yes => if yes then { m with seen := (m.seen.add 6).add (43 + m.word 1), pc := m.pc + 2 } else Sre.M.say { m with seen := (m.seen.add 6).add (43 + m.word 1) } false) := by
  unfold Sre.M.exec; rw [hw]; rfl
theorem go_at_yes (h : Rd0 m) (hw : m.word 0 = 6) (h1 : m.word 1 = 0) (hp : m.pos = 0) : Go 1 m { m with pc := m.pc + 2 } := by
  refine .one fun sn => ⟨(sn.add 6).add (43 + 0), ?_⟩
  rw [step_exec h, exec_at (m := { m with seen := sn }) hw, show ({ m with seen := sn } : MM).word 1 = 0 from h1]
  have e : ∀ s', Sre.M.isAt { m with seen := s' } 0 = .ok true := fun s' => by show Except.ok (m.pos == 0) = _; rw [hp]; rfl
  rw [e]; rfl
theorem go_at_no (h : Rd0 m) (hw : m.word 0 = 6) (h1 : m.word 1 = 0) (hp : m.pos ≠ 0) : Go 1 m (m.say false) := by
  refine .one fun sn => ⟨(sn.add 6).add (43 + 0), ?_⟩
  rw [step_exec h, exec_at (m := { m with seen := sn }) hw, show ({ m with seen := sn } : MM).word 1 = 0 from h1]
  have e : ∀ s', Sre.M.isAt { m with seen := s' } 0 = .ok false := fun s' => by show Except.ok (m.pos == 0) = _; rw [beq_eq_false_iff_ne.mpr hp]
  rw [e]; rfl
theorem go_mark (h : Rd0 m) (hw : m.word 0 = 17) : Go 1 m (m.mark (m.word 1)) := by
  refine .one fun sn => ⟨sn.add 17, ?_⟩
  rw [step_exec h]
  have : Sre.M.exec { m with seen := sn } = Sre.M.mark { m with seen := sn.add 17 } (m.word 1) := by
    unfold Sre.M.exec
    rw [show ({ m with seen := sn } : MM).word 0 = 17 from hw]; rfl
  rw [this]; rfl
theorem go_mark0 (h : Rd0 m) (hw : m.word 0 = 17) (h1 : m.word 1 = 0) (hl : m.lastmark = -1) : Go 1 m { m with marks := m.marks.setIfInBounds 0 (some m.pos), lastmark := 0, pc := m.pc + 2 } := by
  have := go_mark h hw
  rw [h1] at this
  unfold Sre.M.mark at this
  rw [hl] at this
  exact this
theorem go_mark1 (h : Rd0 m) (hw : m.word 0 = 17) (h1 : m.word 1 = 1) (hl : m.lastmark = 0) : Go 1 m { m with marks := m.marks.setIfInBounds 1 (some m.pos), lastmark := 1, lastindex := 1, pc := m.pc + 2 } := by
  have := go_mark h hw
  rw [h1] at this
  unfold Sre.M.mark at this
  rw [hl] at this
  exact this
theorem go_info (h : Rd0 m) (hw : m.word 0 = 14) : Go 1 m { m with pc := m.pc + 1 + m.word 1 } := by
  refine .one fun sn => ⟨sn.add 14, ?_⟩
  rw [step_exec h]
  unfold Sre.M.exec
  rw [show ({ m with seen := sn } : MM).word 0 = 14 from hw]; rfl
theorem go_success (h : Rd0 m) (hw : m.word 0 = 1) (hb : (m.outermost && ((m.wholeText && m.pos != m.lim) || (m.mustAdvance && m.pos == m.start))) = false) : Go 1 m ({ m with handed := m.pos }.say true) := by
  refine .one fun sn => ⟨sn.add 1, ?_⟩
  rw [step_exec h]
  unfold Sre.M.exec
  rw [show ({ m with seen := sn } : MM).word 0 = 1 from hw]
  show (if (m.outermost && ((m.wholeText && m.pos != m.lim) || (m.mustAdvance && m.pos == m.start))) = true then _ else _) = _
  rw [hb]; rfl
theorem go_success_no (h : Rd0 m) (hw : m.word 0 = 1) (hb : (m.outermost && ((m.wholeText && m.pos != m.lim) || (m.mustAdvance && m.pos == m.start))) = true) : Go 1 m (m.say false) := by
  refine .one fun sn => ⟨sn.add 1, ?_⟩
  rw [step_exec h]
  unfold Sre.M.exec
  rw [show ({ m with seen := sn } : MM).word 0 = 1 from hw]
  show (if (m.outermost && ((m.wholeText && m.pos != m.lim) || (m.mustAdvance && m.pos == m.start))) = true then _ else _) = _
  rw [hb]; rfl
theorem exec_one (sn : Sre.Seen) (k : Nat) (hk : k = 2 ∨ k = 13 ∨ k = 16) (hw : m.word 0 = k) : Sre.M.exec { m with seen := sn } = (if m.pos ≥ m.lim then ({ m with seen := sn.add k } : MM).say false else
    match Sre.accepts m.code m.pc (m.text.getD m.pos 0) (sn.add k) with
    | .error why => ({ m with seen := sn.add k } : MM).stick why
    | .ok (false, seen) => ({ m with seen } : MM).say false
    | .ok (true, seen) => { m with seen, pc := m.pc + Sre.itemWidth m.code m.pc, pos := m.pos + 1 }) := by
  unfold Sre.M.exec
  rw [show ({ m with seen := sn } : MM).word 0 = k from hw]
  rcases hk with rfl | rfl | rfl <;> rfl
theorem go_one_yes (h : Rd0 m) (k : Nat) (hk : k = 2 ∨ k = 13 ∨ k = 16) (hw : m.word 0 = k) (hp : m.pos < m.lim) (ht : Tk m.code m.pc (m.text.getD m.pos 0) true) :
    Go 1 m { m with pc := m.pc + Sre.itemWidth m.code m.pc, pos := m.pos + 1 } := by
  refine .one fun sn => ?_
  obtain ⟨sn', e⟩ := ht (sn.add k)
  refine ⟨sn', ?_⟩
  rw [step_exec h, exec_one sn k hk hw, if_neg (by walk_at "o"), e]
theorem go_one_no (h : Rd0 m) (k : Nat) (hk : k = 2 ∨ k = 13 ∨ k = 16) (hw : m.word 0 = k) (ht : m.lim ≤ m.pos ∨ Tk m.code m.pc (m.text.getD m.pos 0) false) : Go 1 m (m.say false) := by
  refine .one fun sn => ?_
  by_cases hp : m.pos ≥ m.lim
  · exact ⟨sn.add k, by rw [step_exec h, exec_one sn k hk hw, if_pos hp]; rfl⟩
  · obtain ⟨sn', e⟩ := (ht.resolve_left hp) (sn.add k)
    exact ⟨sn', by rw [step_exec h, exec_one sn k hk hw, if_neg hp, e]; rfl⟩
theorem exec_rep (sn : Sre.Seen) (hw : m.word 0 = 24) : Sre.M.exec { m with seen := sn } = (if (m.word 2 : Int) > (m.lim : Int) - m.pos then ({ m with seen := sn.add 24 } : MM).say false else
    match Sre.run m.code m.text (m.pc + 4) (min (m.word 3) ((m.lim : Int) - m.pos).toNat) m.pos 0 ((sn.add 24).add (m.word 4)) with
    | .error why => ({ m with seen := sn.add 24 } : MM).stick why
    | .ok (n, seen) => if n < m.word 2 then ({ m with seen } : MM).say false else
      ({ m with seen, pos := m.pos + n } : MM).afterRun .giveBack n (({ m with seen, pos := m.pos + n } : MM).keep m.inner.isSome)) := by
  unfold Sre.M.exec
  rw [show ({ m with seen := sn } : MM).word 0 = 24 from hw]; rfl
theorem attempt_ok {f : Sre.Frame} {target fr : Nat} {om : Bool} (h : m.weight + 1 + f.kept.marks.size ≤ 16777216) :
    m.attempt f target fr om = { m with frames := f :: m.frames, weight := m.weight + 1 + f.kept.marks.size, pc := target, pos := fr, handed := fr, outermost := om } := if_neg (by walk_at "o")
theorem keep_size (b : Bool) : (m.keep b).marks.size ≤ m.marks.size := by
  unfold Sre.M.keep
  cases b
  · exact Nat.zero_le _
  · show (m.marks.extract 0 _).size ≤ _
    rw [Array.size_extract]; walk_at "o"
noncomputable def rp (m : MM) (n : Nat) : MM := { m with pos := m.pos + n, handed := m.pos + n, pc := m.pc + 1 + m.word 1, weight := m.weight + 1 + (m.keep m.inner.isSome).marks.size, frames := { wait := .giveBack, pc := m.pc, pos := m.pos + n, outermost := m.outermost, count := n, kept := m.keep m.inner.isSome } :: m.frames }
theorem go_rep (h : Rd0 m) (hw : m.word 0 = 24) (n : Nat) (hn : m.pos + n ≤ m.lim) (hmax : m.word 3 = 4294967295) (hL : m.lim ≤ 1000000) (hmin : m.word 2 ≤ n)
    (ht : ∀ j, j < n → Tk m.code (m.pc + 4) (m.text.getD (m.pos + j) 0) true) (he : m.pos + n = m.lim ∨ Tk m.code (m.pc + 4) (m.text.getD (m.pos + n) 0) false)
    (hwt : m.weight + 1 + m.marks.size ≤ 16777216) : Go 1 m (rp m n) := by
  refine .one fun sn => ?_
  have hN : min (m.word 3) ((m.lim : Int) - m.pos).toNat = m.lim - m.pos := by walk_at "o"
  obtain ⟨sn', e⟩ := run_spec (C := m.code) (tx := m.text) (i := m.pc + 4) (m.lim - m.pos) n m.pos 0 ((sn.add 24).add (m.word 4)) (by walk_at "o") ht (he.imp (by walk_at "o") id)
  refine ⟨sn', ?_⟩
  rw [step_exec h, exec_rep sn hw, if_neg (by walk_at "o"), hN, e, Nat.zero_add]
  show (if n < m.word 2 then _ else _) = _
  rw [if_neg (by walk_at "o")]
  unfold Sre.M.afterRun
  have := keep_size (m := m) m.inner.isSome
  refine (attempt_ok (Nat.le_trans (Nat.add_le_add_left this _) hwt)).trans ?_
  rfl
theorem go_rep_no (h : Rd0 m) (hw : m.word 0 = 24) (n : Nat) (hn : m.pos + n ≤ m.lim) (hmax : m.word 3 = 4294967295) (hL : m.lim ≤ 1000000) (hmin : n < m.word 2)
    (ht : ∀ j, j < n → Tk m.code (m.pc + 4) (m.text.getD (m.pos + j) 0) true) (he : m.pos + n = m.lim ∨ Tk m.code (m.pc + 4) (m.text.getD (m.pos + n) 0) false) :
    Go 1 m (m.say false) := by
  refine .one fun sn => ?_
  by_cases hr : (m.word 2 : Int) > (m.lim : Int) - m.pos
  · exact ⟨sn.add 24, by rw [step_exec h, exec_rep sn hw, if_pos hr]; rfl⟩
  have hN : min (m.word 3) ((m.lim : Int) - m.pos).toNat = m.lim - m.pos := by walk_at "o"
  obtain ⟨sn', e⟩ := run_spec (C := m.code) (tx := m.text) (i := m.pc + 4) (m.lim - m.pos) n m.pos 0 ((sn.add 24).add (m.word 4)) (by walk_at "o") ht (he.imp (by walk_at "o") id)
  refine ⟨sn', ?_⟩
  rw [step_exec h, exec_rep sn hw, if_neg hr, hN, e, Nat.zero_add]
  show (if n < m.word 2 then _ else _) = _
  rw [if_pos hmin]; rfl

theorem go_pop {f : Sre.Frame} {rest : List Sre.Frame} {yes : Bool} {m' : MM} (ha : m.answer = some yes) (ho : m.outcome = none) (hf : m.frames = f :: rest)
    (hr : ∀ sn, ∃ sn', Sre.M.resume { m with seen := sn, answer := none, frames := rest, weight := m.weight - (1 + f.kept.marks.size), pc := f.pc, pos := f.pos, outermost := f.outermost } f yes = { m' with seen := sn' }) : Go 1 m m' :=
  .one fun sn => by rw [step_pop ha ho hf]; exact hr sn
theorem go_pop_yes {f : Sre.Frame} {rest : List Sre.Frame} (ha : m.answer = some true) (ho : m.outcome = none) (hf : m.frames = f :: rest) (hw : f.wait = .giveBack ∨ f.wait = .nextStart) :
    Go 1 m { m with answer := some true, frames := rest, weight := m.weight - (1 + f.kept.marks.size), pc := f.pc, pos := f.pos, outermost := f.outermost } :=
  go_pop ha ho hf fun sn => ⟨sn, by unfold Sre.M.resume; rcases hw with e | e <;> rw [e] <;> rfl⟩
theorem go_pop_no {f : Sre.Frame} {rest : List Sre.Frame} (ha : m.answer = some false) (ho : m.outcome = none) (hf : m.frames = f :: rest) (hw : f.wait = .giveBack) (hk : f.kept.whole = false)
    (hc : f.count - 1 < (m.code.getD (f.pc + 2) 0 : Int)) :
    Go 1 m { m with answer := some false, frames := rest, weight := m.weight - (1 + f.kept.marks.size), pc := f.pc, pos := f.pos, outermost := f.outermost, lastmark := f.kept.lastmark, lastindex := f.kept.lastindex } :=
  go_pop ha ho hf fun sn => ⟨sn, by
    unfold Sre.M.resume
    rw [hw]
    show (if false = true then _ else if f.count - 1 < (m.code.getD (f.pc + 2) 0 : Int) then _ else _) = _
    rw [if_neg (by decide), if_pos hc]
    unfold Sre.M.putBack
    rw [hk]; rfl⟩
end
end
section
open PySem PySem.Calls PyProof.Rows PySem.Spec PySem.W PySem.Builtin.Str
noncomputable def Ends (n : Nat) (m : MM) (P : MM → Prop) : Prop := ∀ sn, ∃ k, k ≤ n ∧ P (Nat.repeat Sre.M.step k { m with seen := sn })
theorem Go.ends {a b : Nat} {m m' : MM} {P : MM → Prop} (h : Go a m m') (h' : Ends b m' P) : Ends (a + b) m P := fun sn => by
  obtain ⟨k, sn', hk, e⟩ := h sn
  obtain ⟨k', hk', hp⟩ := h' sn'
  exact ⟨k + k', Nat.add_le_add hk hk', by rw [repeat_add, e]; exact hp⟩
theorem Ends.here {m : MM} {P : MM → Prop} (h : ∀ sn, P { m with seen := sn }) : Ends 0 m P := fun sn => ⟨0, Nat.le_refl _, h sn⟩
theorem Ends.mono {a b : Nat} {m : MM} {P : MM → Prop} (h : Ends a m P) (l : a ≤ b) : Ends b m P := fun sn => by
  obtain ⟨k, hk, hp⟩ := h sn
  exact ⟨k, Nat.le_trans hk l, hp⟩

noncomputable def Failed (m : MM) : Prop := m.outcome = some .failed
noncomputable def Matched (st hd : Nat) (marks : List (Option Nat)) (lm li : Int) (m : MM) : Prop := m.outcome = some .matched ∧ m.start = st ∧ m.handed = hd ∧ m.marks.toList = marks ∧ m.lastmark = lm ∧ m.lastindex = li

theorem runFor_eq : ∀ (n : Nat) (m : MM), Sre.M.runFor n m = Nat.repeat Sre.M.step n m
  | 0, m => rfl
  | n + 1, m => by
    have key : ∀ (n : Nat) (m : MM), Nat.repeat Sre.M.step (n + 1) m = Nat.repeat Sre.M.step n m.step := by
      intro n
      induction n with
      | zero => intro m; rfl
      | succ n ih => intro m; show Sre.M.step (Nat.repeat Sre.M.step (n + 1) m) = _; rw [ih]; rfl
    rw [key]
    unfold Sre.M.runFor
    cases h : m.outcome.isSome
    · rw [if_neg (by decide)]; exact runFor_eq n _
    · rw [if_pos rfl]
      have hs : m.step = m := by unfold Sre.M.step; rw [if_pos h]
      rw [hs]
      clear key
      induction n with
      | zero => rfl
      | succ n ih => show m = Sre.M.step (Nat.repeat Sre.M.step n m); rw [← ih, hs]
theorem repeat_over {m : MM} (h : m.outcome.isSome = true) : ∀ n, Nat.repeat Sre.M.step n m = m
  | 0 => rfl
  | n + 1 => by show Sre.M.step (Nat.repeat Sre.M.step n m) = m; rw [repeat_over h n]; unfold Sre.M.step; rw [if_pos h]

section
variable {W : Wd} {s : Shared} {A : Around} {E : Value → Shared → Prop}
open PySem.Builtin.Re
theorem drive {Q : MM → Shared → Prop} : ∀ (turns : Nat) (m : MM) (k : Nat), (Nat.repeat Sre.M.step k m).outcome.isSome = true → k ≤ 4 * turns → Q (Nat.repeat Sre.M.step k m) s → turns ≠ 0 → wpAny (model PP W.w) A (reDrive turns m) Q E s
  | 0, _, _, _, _, _, h => absurd rfl h
  | t + 1, m, k, ho, hk, hq, _ => by
    unfold reDrive
    show wpAny _ _ (if (Sre.M.runFor reTurnSteps m).outcome.isSome then pure (Sre.M.runFor reTurnSteps m) else (rule "sre.turn" >>= fun _ => reDrive t (Sre.M.runFor reTurnSteps m))) _ _ _
    rw [show Sre.M.runFor reTurnSteps m = Nat.repeat Sre.M.step 4 m from runFor_eq 4 m]
    cases h : (Nat.repeat Sre.M.step 4 m).outcome.isSome
    · rw [if_neg (by decide)]
      have h4 : 4 < k := by
        rcases Nat.lt_or_ge 4 k with h' | h'
        · exact h'
        · exfalso
          have e : Nat.repeat Sre.M.step 4 m = Nat.repeat Sre.M.step k m := by
            rw [show (4 : Nat) = k + (4 - k) by walk_at "o", repeat_add]; exact repeat_over ho _
          rw [e, ho] at h; cases h
      have ek : Nat.repeat Sre.M.step k m = Nat.repeat Sre.M.step (k - 4) (Nat.repeat Sre.M.step 4 m) := by
        conv => lhs; rw [show k = 4 + (k - 4) by walk_at "o", repeat_add]
      refine wpAny_bind (wpAny_rule (drive t _ (k - 4) ?_ (by walk_at "o") ?_ (by walk_at "o")))
      · rw [← ek]; exact ho
      · rw [← ek]; exact hq
    · rw [if_pos rfl]
      have e : Nat.repeat Sre.M.step 4 m = Nat.repeat Sre.M.step k m := by
        rcases Nat.lt_or_ge 4 k with h' | h'
        · rw [show k = 4 + (k - 4) by walk_at "o", repeat_add]; exact (repeat_over h _).symm
        · rw [show (4 : Nat) = k + (4 - k) by walk_at "o", repeat_add]; exact repeat_over ho _
      rw [e]; exact wpAny_pure hq
theorem told {m : MM} {Q : Unit → Shared → Prop} (h : Q () s) : ∀ l : List Nat,
    wpAny (model PP W.w) A (forIn l () fun i (_ : Unit) => ((if m.seen.has i then rule (Sre.names.getD i "") >>= fun _ => pure (ForInStep.yield ()) else pure (ForInStep.yield ())) : Sem (ForInStep Unit))) Q E s
  | [] => wpAny_pure h
  | i :: r => by
    rw [List.forIn_cons]
    refine wpAny_bind ?_
    cases hh : m.seen.has i
    · rw [if_neg (by decide)]; exact wpAny_pure (told h r)
    · rw [if_pos rfl]; exact wpAny_bind (wpAny_rule (wpAny_pure (told h r)))
theorem re_end {m : MM} {n : Nat} {P : MM → Prop} {Q : Option MM → Shared → Prop} (h : Ends n m P) (hn : n ≤ 4000000000000) (ho : ∀ m', P m' → m'.outcome = some .failed ∨ m'.outcome = some .matched)
    (hf : ∀ m', P m' → m'.outcome = some .failed → Q none s) (hm : ∀ m', P m' → m'.outcome = some .matched → Q (some m') s) : wpAny (model PP W.w) A (reRunToEnd m) Q E s := by
  unfold reRunToEnd
  obtain ⟨k, hk, hp⟩ := h m.seen
  have hp : P (Nat.repeat Sre.M.step k m) := hp
  have hs : (Nat.repeat Sre.M.step k m).outcome.isSome = true := by rcases ho _ hp with e | e <;> rw [e] <;> rfl
  refine wpAny_bind (drive (2 ^ 64) m k hs (by walk_at "o") ?_ (by decide))
  generalize Nat.repeat Sre.M.step k m = m' at hp hs
  refine wpAny_bind (told ?_ _)
  rcases ho _ hp with e | e
  · rw [e]; exact wpAny_pure (hf _ hp e)
  · rw [e]; exact wpAny_pure (hm _ hp e)
end
end
section
open PySem PySem.Calls PyProof.Rows PySem.Spec PySem.W PySem.Builtin.Str
noncomputable def cTOK : Array Nat := #[14, 4, 0, 1, 4294967295, 6, 0, 24, 9, 0, 4294967295, 13, 4, 8, 12, 0, 1, 17, 0, 24, 19, 1, 4294967295, 13, 14, 21, 9, 0, 671092736, 0, 0, 0, 0, 0, 0, 8, 12, 0, 1, 17, 1, 1]
noncomputable def cQUO : Array Nat := #[14, 4, 0, 3, 4294967295, 6, 0, 24, 9, 0, 4294967295, 13, 4, 8, 12, 0, 1, 16, 61, 24, 9, 0, 4294967295, 13, 4, 8, 12, 0, 1, 16, 34, 17, 0, 24, 12, 0, 4294967295, 13, 7, 21, 16, 34, 16, 92, 0, 1, 23, 19, 0, 4294967295, 16, 92, 2, 24, 12, 0, 4294967295, 13, 7, 21, 16, 34, 16, 92, 0, 1, 18, 17, 1, 16, 34, 1]
noncomputable def cVAL : Array Nat := #[14, 4, 0, 1, 4294967295, 6, 0, 24, 9, 0, 4294967295, 13, 4, 8, 12, 0, 1, 16, 61, 24, 9, 0, 4294967295, 13, 4, 8, 12, 0, 1, 17, 0, 24, 14, 0, 4294967295, 13, 9, 21, 8, 12, 16, 59, 16, 44, 0, 1, 17, 1, 1]
noncomputable def cESC : Array Nat := #[14, 8, 1, 2, 2, 1, 1, 92, 0, 16, 92, 17, 0, 2, 17, 1, 1]
noncomputable def cSEP : Array Nat := #[14, 4, 0, 0, 4294967295, 6, 0, 24, 13, 0, 4294967295, 13, 8, 16, 61, 8, 12, 16, 59, 0, 1, 1]
noncomputable def cJTK : Array Nat := #[14, 4, 0, 1, 4294967295, 24, 16, 1, 4294967295, 13, 11, 9, 0, 67071226, 3355443198, 1476395007, 0, 0, 0, 0, 0, 1, 1]
noncomputable def cJES : Array Nat := #[14, 9, 4, 1, 1, 16, 34, 16, 92, 0, 17, 0, 13, 6, 16, 34, 16, 92, 0, 17, 1, 1]
noncomputable def cTW1 : Array Nat := #[14, 14, 4, 1, 1, 9, 0, 64, 0, 1342177280, 0, 0, 0, 0, 0, 17, 0, 13, 11, 9, 0, 64, 0, 1342177280, 0, 0, 0, 0, 0, 17, 1, 1]

noncomputable def mk (C tx : Array Nat) (L st ls : Nat) (wt ma : Bool) (pc pos hd : Nat) (om : Bool) (marks : Array (Option Nat)) (lm li : Int) (fr : List Sre.Frame) (w : Nat) (an : Option Bool) : MM :=
  { code := C, text := tx, lim := L, start := st, lastStart := ls, wholeText := wt, mustAdvance := ma, pc := pc, pos := pos, handed := hd, outermost := om, marks := marks, lastmark := lm, lastindex := li,
    loops := #[], inner := none, frames := fr, weight := w, answer := an, seen := {}, outcome := none }
noncomputable def ns (pc s : Nat) (first : Bool) : Sre.Frame := { wait := .nextStart, pc := pc, pos := s, outermost := first }
noncomputable def gb (pc p n : Nat) (om : Bool) (lm li : Int) : Sre.Frame := { wait := .giveBack, pc := pc, pos := p, outermost := om, count := n, kept := { lastmark := lm, lastindex := li, whole := false, marks := #[] } }

theorem tkS_tok (c : Nat) : Tk cTOK 11 c (Unicode.isSpace c) := fun sn => by
  show ∃ sn', (if (Unicode.isSpace c != false) = true then _ else _) = _
  cases Unicode.isSpace c <;> exact ⟨_, rfl⟩
theorem tkS_val (c : Nat) : Tk cVAL 11 c (Unicode.isSpace c) := fun sn => by
  show ∃ sn', (if (Unicode.isSpace c != false) = true then _ else _) = _
  cases Unicode.isSpace c <;> exact ⟨_, rfl⟩
theorem tkS_val2 (c : Nat) : Tk cVAL 23 c (Unicode.isSpace c) := fun sn => by
  show ∃ sn', (if (Unicode.isSpace c != false) = true then _ else _) = _
  cases Unicode.isSpace c <;> exact ⟨_, rfl⟩
theorem tkS_quo (c : Nat) : Tk cQUO 11 c (Unicode.isSpace c) := fun sn => by
  show ∃ sn', (if (Unicode.isSpace c != false) = true then _ else _) = _
  cases Unicode.isSpace c <;> exact ⟨_, rfl⟩
theorem tkS_quo2 (c : Nat) : Tk cQUO 23 c (Unicode.isSpace c) := fun sn => by
  show ∃ sn', (if (Unicode.isSpace c != false) = true then _ else _) = _
  cases Unicode.isSpace c <;> exact ⟨_, rfl⟩
theorem toArray_getD (l : List Nat) (i : Nat) : l.toArray.getD i 0 = l.getD i 0 := by simp [Array.getD_eq_getD_getElem?, List.getD_eq_getElem?_getD]
theorem getD_mid {a b : List Nat} {j : Nat} (h : j < b.length) (c : List Nat) : (a ++ b ++ c).getD (a.length + j) 0 = b[j] := by
  rw [List.append_assoc, List.getD_eq_getElem?_getD, List.getElem?_append_right (by walk_at "o"), Nat.add_sub_cancel_left, List.getElem?_append_left h, List.getElem?_eq_getElem h]; rfl

theorem Ends.seen {n : Nat} {m : MM} {P : MM → Prop} (h : Ends n m P) (sn : Sre.Seen) : Ends n { m with seen := sn } P := fun sn' => h sn'
theorem start_tok {tx : Array Nat} {L : Nat} (h : 1 ≤ L) : Sre.forSearch cTOK tx 1 0 L false = { (mk cTOK tx L 0 L false false 5 0 0 true #[none, none] (-1) (-1) [ns 5 0 true] 1 none) with seen := ({} : Sre.Seen).add 14 } := by
  unfold Sre.forSearch
  have e : (decide (0 > L) || decide (L - 0 < 1)) = false := by simp; walk_at "o"
  show (if (decide (0 > L) || decide (L - 0 < 1)) = true then _ else _) = _
  rw [e]; rfl
theorem tok_match {ws key rest : List Nat} (hws : ∀ c ∈ ws, Unicode.isSpace c = true) (hk : key ≠ []) (hk1 : ∀ c ∈ key, Unicode.isSpace c = false) (hkey : ∀ c ∈ key, Tk cTOK 23 c true)
    (hr : rest = [] ∨ ∃ c r, rest = c :: r ∧ Tk cTOK 23 c false) (hL : (ws ++ key ++ rest).length ≤ 1000000) :
    Ends 11 (Sre.forSearch cTOK (ws ++ key ++ rest).toArray 1 0 (ws ++ key ++ rest).length false) (Matched 0 (ws.length + key.length) [some ws.length, some (ws.length + key.length)] 1 1) := by
  have hkl : 0 < key.length := List.length_pos_iff.mpr hk
  have hLl : (ws ++ key ++ rest).length = ws.length + key.length + rest.length := by simp; walk_at "o"
  rw [start_tok (by walk_at "o")]
  refine Ends.seen ?_ _
  generalize hl : (ws ++ key ++ rest).length = L at *
  generalize hx : (ws ++ key ++ rest).toArray = tx
  have gx : ∀ i, tx.getD i 0 = (ws ++ key ++ rest).getD i 0 := fun i => by rw [← hx]; exact toArray_getD _ _
  refine Go.ends (m' := mk cTOK tx L 0 L false false 7 0 0 true #[none, none] (-1) (-1) [ns 5 0 true] 1 none) (go_at_yes ⟨rfl, rfl, Nat.le_of_ble_eq_true rfl⟩ rfl rfl rfl) (b := 10) ?_
  refine Go.ends (m' := mk cTOK tx L 0 L false false 17 (0 + ws.length) (0 + ws.length) true #[none, none] (-1) (-1) [gb 7 (0 + ws.length) ws.length true (-1) (-1), ns 5 0 true] 2 none) (go_rep ⟨rfl, rfl, Nat.le_of_ble_eq_true rfl⟩ rfl ws.length ?_ rfl hL (Nat.zero_le _) ?_ ?_ (Nat.le_of_ble_eq_true rfl)) (b := 9) ?_
  · show 0 + ws.length ≤ L; walk_at "o"
  · intro j hj
    show Tk cTOK 11 (tx.getD (0 + j) 0) true
    have : tx.getD (0 + j) 0 = ws[j] := by
      rw [gx]; have := getD_mid (a := []) hj (key ++ rest); simpa using this
    rw [this]
    have := tkS_tok ws[j]
    rw [hws _ (List.getElem_mem hj)] at this; exact this
  · right
    show Tk cTOK 11 (tx.getD (0 + ws.length) 0) false
    have : tx.getD (0 + ws.length) 0 = key[0] := by
      rw [gx, Nat.zero_add]; have := getD_mid (a := ws) hkl rest; simpa using this
    rw [this]
    have := tkS_tok key[0]
    rw [hk1 _ (List.getElem_mem hkl)] at this; exact this
  rw [Nat.zero_add]
  refine Go.ends (m' := mk cTOK tx L 0 L false false 19 ws.length ws.length true #[some ws.length, none] 0 (-1) [gb 7 ws.length ws.length true (-1) (-1), ns 5 0 true] 2 none) (go_mark ⟨rfl, rfl, Nat.le_of_ble_eq_true rfl⟩ rfl) (b := 8) ?_
  refine Go.ends (m' := mk cTOK tx L 0 L false false 39 (ws.length + key.length) (ws.length + key.length) true #[some ws.length, none] 0 (-1) [gb 19 (ws.length + key.length) key.length true 0 (-1), gb 7 ws.length ws.length true (-1) (-1), ns 5 0 true] 3 none) (go_rep ⟨rfl, rfl, Nat.le_of_ble_eq_true rfl⟩ rfl key.length ?_ rfl hL ?_ ?_ ?_ (Nat.le_of_ble_eq_true rfl)) (b := 7) ?_
  · show ws.length + key.length ≤ L; walk_at "o"
  · exact hkl
  · intro j hj
    show Tk cTOK 23 (tx.getD (ws.length + j) 0) true
    rw [gx, getD_mid hj]; exact hkey _ (List.getElem_mem hj)
  · rcases hr with rfl | ⟨c, r, rfl, hc⟩
    · left; show ws.length + key.length = L; simp at hLl; walk_at "o"
    · right
      show Tk cTOK 23 (tx.getD (ws.length + key.length) 0) false
      have : tx.getD (ws.length + key.length) 0 = c := by
        rw [gx]
        have := getD_mid (a := ws ++ key) (b := c :: r) (j := 0) (by simp) []
        simpa using this
      rw [this]; exact hc
  refine Go.ends (m' := mk cTOK tx L 0 L false false 41 (ws.length + key.length) (ws.length + key.length) true #[some ws.length, some (ws.length + key.length)] 1 1 [gb 19 (ws.length + key.length) key.length true 0 (-1), gb 7 ws.length ws.length true (-1) (-1), ns 5 0 true] 3 none) (go_mark1 ⟨rfl, rfl, Nat.le_of_ble_eq_true rfl⟩ rfl rfl rfl) (b := 6) ?_
  refine Go.ends (m' := mk cTOK tx L 0 L false false 41 (ws.length + key.length) (ws.length + key.length) true #[some ws.length, some (ws.length + key.length)] 1 1 [gb 19 (ws.length + key.length) key.length true 0 (-1), gb 7 ws.length ws.length true (-1) (-1), ns 5 0 true] 3 (some true)) (go_success ⟨rfl, rfl, Nat.le_of_ble_eq_true rfl⟩ rfl rfl) (b := 5) ?_
  refine Go.ends (m' := mk cTOK tx L 0 L false false 19 (ws.length + key.length) (ws.length + key.length) true #[some ws.length, some (ws.length + key.length)] 1 1 [gb 7 ws.length ws.length true (-1) (-1), ns 5 0 true] 2 (some true)) (go_pop_yes (f := gb 19 (ws.length + key.length) key.length true 0 (-1)) rfl rfl rfl (.inl rfl)) (b := 4) ?_
  refine Go.ends (m' := mk cTOK tx L 0 L false false 7 ws.length (ws.length + key.length) true #[some ws.length, some (ws.length + key.length)] 1 1 [ns 5 0 true] 1 (some true)) (go_pop_yes (f := gb 7 ws.length ws.length true (-1) (-1)) rfl rfl rfl (.inl rfl)) (b := 3) ?_
  refine Go.ends (m' := mk cTOK tx L 0 L false false 5 0 (ws.length + key.length) true #[some ws.length, some (ws.length + key.length)] 1 1 [] 0 (some true)) (go_pop_yes (f := ns 5 0 true) rfl rfl rfl (.inr rfl)) (b := 2) ?_
  refine Go.ends (go_end (yes := true) rfl rfl rfl) (b := 1) ?_
  exact (Ends.here fun sn => ⟨rfl, rfl, rfl, rfl, rfl, rfl⟩).mono (Nat.zero_le _)
end
section
open PySem PySem.Calls PyProof.Rows PySem.Spec PySem.W PySem.Builtin.Str
structure Anch (C : Array Nat) : Prop where
  c0 : C.getD 0 0 = 14
  c2 : C.getD 2 0 = 0
  c5 : C.getD 5 0 = 6
  c6 : C.getD 6 0 = 0
  sz : 7 ≤ C.size
theorem first_none {m : MM} (h : Anch m.code) : m.hasFirstSet = false := by
  unfold Sre.M.hasFirstSet
  rw [h.c0, h.c2]; rfl
theorem anch_fail : ∀ (d : Nat) (m : MM) (s : Nat) (first : Bool), Anch m.code → m.answer = some false → m.outcome = none → m.frames = [ns 5 s first] → m.lastStart = s + d → m.weight ≤ 1000 → Ends (2 * d + 2) m Failed
  | 0, m, s, first, hC, ha, ho, hf, hl, hw => by
    refine Go.ends (m' := { m with answer := some false, frames := [], weight := m.weight - (1 + 0), pc := 5, pos := s, outermost := first }) (go_pop ha ho hf fun sn => ⟨sn, ?_⟩) (b := 1) ?_
    · unfold Sre.M.resume
      show (if false = true then _ else if s < m.lastStart then _ else _) = _
      rw [if_neg (by decide), if_neg (by walk_at "o")]; rfl
    · exact (Go.ends (go_end (yes := false) rfl ho rfl) (b := 0) (Ends.here fun sn => rfl))
  | d + 1, m, s, first, hC, ha, ho, hf, hl, hw => by
    have hm2 : Go 1 m { m with answer := none, mustAdvance := false, start := s + 1, pos := s + 1, handed := s + 1, lastmark := -1, lastindex := -1, frames := [ns 5 (s + 1) false], weight := m.weight - (1 + 0) + 1 + 0, pc := 5, outermost := false } := by
      refine go_pop ha ho hf fun sn => ⟨sn, ?_⟩
      unfold Sre.M.resume
      show (if false = true then _ else if s < m.lastStart then _ else _) = _
      rw [if_neg (by decide), if_pos (by walk_at "o")]
      unfold Sre.M.attemptFrom
      rw [first_none (by exact hC)]
      show Sre.M.attemptAt _ _ _ = _
      unfold Sre.M.attemptAt
      refine (attempt_ok ?_).trans ?_
      · show m.weight - (1 + 0) + 1 + 0 ≤ 16777216; walk_at "o"
      · rfl
    have hno := go_at_no (m := { m with answer := none, mustAdvance := false, start := s + 1, pos := s + 1, handed := s + 1, lastmark := -1, lastindex := -1, frames := [ns 5 (s + 1) false], weight := m.weight - (1 + 0) + 1 + 0, pc := 5, outermost := false }) ⟨rfl, ho, (show 5 < m.code.size by have := hC.sz; walk_at "o")⟩ hC.c5 hC.c6 (by show s + 1 ≠ 0; walk_at "o")
    have := anch_fail d (Sre.M.say { m with answer := none, mustAdvance := false, start := s + 1, pos := s + 1, handed := s + 1, lastmark := -1, lastindex := -1, frames := [ns 5 (s + 1) false], weight := m.weight - (1 + 0) + 1 + 0, pc := 5, outermost := false } false) (s + 1) false hC rfl ho rfl (by show m.lastStart = _; walk_at "o") (by show m.weight - (1 + 0) + 1 + 0 ≤ 1000; walk_at "o")
    exact (hm2.ends (hno.ends this)).mono (by walk_at "o")

theorem tok_fail {c : Nat} {rest : List Nat} (hc1 : Unicode.isSpace c = false) (hc2 : Tk cTOK 23 c false) (hL : (c :: rest).length ≤ 1000000) :
    Ends 3000000 (Sre.forSearch cTOK (c :: rest).toArray 1 0 (c :: rest).length false) Failed := by
  rw [start_tok (by simp)]
  refine Ends.seen ?_ _
  have hLp : 1 ≤ (c :: rest).length := by simp
  generalize hl : (c :: rest).length = L at *
  have g0 : (c :: rest).toArray.getD (0 + 0) 0 = c := by simp
  generalize hx : (c :: rest).toArray = tx at *
  have hk := tkS_tok c
  rw [hc1] at hk
  refine Ends.mono (a := 1 + (1 + (1 + (1 + (1 + (2 * L + 2)))))) ?_ (by walk_at "o")
  refine Go.ends (m' := mk cTOK tx L 0 L false false 7 0 0 true #[none, none] (-1) (-1) [ns 5 0 true] 1 none) (go_at_yes ⟨rfl, rfl, Nat.le_of_ble_eq_true rfl⟩ rfl rfl rfl) ?_
  refine Go.ends (m' := mk cTOK tx L 0 L false false 17 (0 + 0) (0 + 0) true #[none, none] (-1) (-1) [gb 7 (0 + 0) 0 true (-1) (-1), ns 5 0 true] 2 none)
    (go_rep ⟨rfl, rfl, Nat.le_of_ble_eq_true rfl⟩ rfl 0 (Nat.zero_le _) rfl hL (Nat.zero_le _) (fun j hj => absurd hj (Nat.not_lt_zero _)) (.inr (by show Tk cTOK 11 (tx.getD (0 + 0) 0) false; rw [g0]; exact hk)) (Nat.le_of_ble_eq_true rfl)) ?_
  refine Go.ends (m' := mk cTOK tx L 0 L false false 19 0 0 true #[some 0, none] 0 (-1) [gb 7 0 0 true (-1) (-1), ns 5 0 true] 2 none) (go_mark0 ⟨rfl, rfl, Nat.le_of_ble_eq_true rfl⟩ rfl rfl rfl) ?_
  refine Go.ends (m' := mk cTOK tx L 0 L false false 19 0 0 true #[some 0, none] 0 (-1) [gb 7 0 0 true (-1) (-1), ns 5 0 true] 2 (some false))
    (go_rep_no ⟨rfl, rfl, Nat.le_of_ble_eq_true rfl⟩ rfl 0 (Nat.zero_le _) rfl hL (by show (0 : Nat) < 1; decide) (fun j hj => absurd hj (Nat.not_lt_zero _)) (.inr (by show Tk cTOK 23 (tx.getD (0 + 0) 0) false; rw [g0]; exact hc2))) ?_
  refine Go.ends (m' := mk cTOK tx L 0 L false false 7 0 0 true #[some 0, none] (-1) (-1) [ns 5 0 true] 1 (some false)) (go_pop_no (f := gb 7 0 0 true (-1) (-1)) rfl rfl rfl rfl rfl (by show (0 : Int) - 1 < ((0 : Nat) : Int); decide)) ?_
  exact anch_fail L _ 0 true ⟨rfl, rfl, rfl, rfl, Nat.le_of_ble_eq_true rfl⟩ rfl rfl rfl (by show L = 0 + L; walk_at "o") (by show (1 : Nat) ≤ 1000; walk_at "o")

theorem start_val {tx : Array Nat} {L : Nat} (h : 1 ≤ L) : Sre.forSearch cVAL tx 1 0 L false = { (mk cVAL tx L 0 L false false 5 0 0 true #[none, none] (-1) (-1) [ns 5 0 true] 1 none) with seen := ({} : Sre.Seen).add 14 } := by
  unfold Sre.forSearch
  have e : (decide (0 > L) || decide (L - 0 < 1)) = false := by simp; walk_at "o"
  show (if (decide (0 > L) || decide (L - 0 < 1)) = true then _ else _) = _
  rw [e]; rfl
theorem tk_lit (C : Array Nat) (i c : Nat) (b : Bool) (h0 : C.getD i 0 = 16) (hb : (c == C.getD (i + 1) 0) = b) : Tk C i c b := fun sn => by
  unfold Sre.accepts
  rw [h0]
  show ∃ sn', Except.ok (c == C.getD (i + 1) 0, sn) = _
  rw [hb]; exact ⟨sn, rfl⟩
theorem tk_val (c : Nat) : Tk cVAL 35 c (!(Unicode.isSpace c || c == 59 || c == 44)) := fun sn => by
  show ∃ sn', (if (Unicode.isSpace c != false) = true then _ else _) = _
  cases Unicode.isSpace c
  · show ∃ sn', (if (c == 59) = true then _ else _) = _
    cases (c == 59)
    · show ∃ sn', (if (c == 44) = true then _ else _) = _
      cases (c == 44) <;> exact ⟨_, rfl⟩
    · exact ⟨_, rfl⟩
  · exact ⟨_, rfl⟩
end
section
open PySem PySem.Calls PyProof.Rows PySem.Spec PySem.W PySem.Builtin.Str
theorem val_match {v rest : List Nat} (hv : v ≠ []) (hv1 : ∀ c ∈ v, (Unicode.isSpace c || c == 59 || c == 44) = false) (hr : rest = [] ∨ ∃ c r, rest = c :: r ∧ (c = 59 ∨ c = 44)) (hL : (61 :: v ++ rest).length ≤ 1000000) :
    Ends 20 (Sre.forSearch cVAL (61 :: v ++ rest).toArray 1 0 (61 :: v ++ rest).length false) (Matched 0 (1 + v.length) [some 1, some (1 + v.length)] 1 1) := by
  have hvl : 0 < v.length := List.length_pos_iff.mpr hv
  have hLl : (61 :: v ++ rest).length = 1 + v.length + rest.length := by simp; walk_at "o"
  rw [start_val (by walk_at "o")]
  refine Ends.seen ?_ _
  have gx : ∀ i, (61 :: v ++ rest).toArray.getD i 0 = (61 :: v ++ rest).getD i 0 := fun i => toArray_getD _ _
  have gv : ∀ j (hj : j < v.length), (61 :: v ++ rest).toArray.getD (1 + j) 0 = v[j] := fun j hj => by
    rw [gx]; exact getD_mid (a := [61]) hj rest
  have g0 : (61 :: v ++ rest).toArray.getD 0 0 = 61 := by rw [gx]; rfl
  have ge : ∀ c r, rest = c :: r → (61 :: v ++ rest).toArray.getD (1 + v.length) 0 = c := fun c r e => by
    rw [gx, e]
    have := getD_mid (a := 61 :: v) (b := c :: r) (j := 0) (by simp) []
    rw [List.append_nil] at this
    rw [show 1 + v.length = (61 :: v).length + 0 by simp; walk_at "o"]; exact this
  generalize (61 :: v ++ rest).toArray = tx at *
  generalize hl : (61 :: v ++ rest).length = L at *
  refine Ends.mono (a := 1 + (1 + (1 + (1 + (1 + (1 + (1 + (1 + (1 + (1 + (1 + (1 + (1 + 0))))))))))))) ?_ (by decide)
  refine Go.ends (m' := mk cVAL tx L 0 L false false 7 0 0 true #[none, none] (-1) (-1) [ns 5 0 true] 1 none) (go_at_yes ⟨rfl, rfl, Nat.le_of_ble_eq_true rfl⟩ rfl rfl rfl) ?_
  refine Go.ends (m' := mk cVAL tx L 0 L false false 17 0 0 true #[none, none] (-1) (-1) [gb 7 0 0 true (-1) (-1), ns 5 0 true] 2 none)
    (go_rep ⟨rfl, rfl, Nat.le_of_ble_eq_true rfl⟩ rfl 0 (Nat.zero_le _) rfl hL (Nat.zero_le _) (fun j hj => absurd hj (Nat.not_lt_zero _)) (.inr (by
      show Tk cVAL 11 (tx.getD (0 + 0) 0) false
      rw [Nat.add_zero, g0]; exact tkS_val 61)) (Nat.le_of_ble_eq_true rfl)) ?_
  refine Go.ends (m' := mk cVAL tx L 0 L false false 19 1 0 true #[none, none] (-1) (-1) [gb 7 0 0 true (-1) (-1), ns 5 0 true] 2 none)
    (go_one_yes ⟨rfl, rfl, Nat.le_of_ble_eq_true rfl⟩ 16 (.inr (.inr rfl)) rfl (by show 0 < L; walk_at "o") (by show Tk cVAL 17 (tx.getD 0 0) true; rw [g0]; exact tk_lit cVAL 17 61 true rfl rfl)) ?_
  refine Go.ends (m' := mk cVAL tx L 0 L false false 29 1 1 true #[none, none] (-1) (-1) [gb 19 1 0 true (-1) (-1), gb 7 0 0 true (-1) (-1), ns 5 0 true] 3 none)
    (go_rep ⟨rfl, rfl, Nat.le_of_ble_eq_true rfl⟩ rfl 0 (by show 1 + 0 ≤ L; walk_at "o") rfl hL (Nat.zero_le _) (fun j hj => absurd hj (Nat.not_lt_zero _)) (.inr (by
      show Tk cVAL 23 (tx.getD (1 + 0) 0) false
      rw [gv 0 hvl]
      have := tkS_val2 v[0]
      have h0 := hv1 _ (List.getElem_mem hvl)
      simp only [Bool.or_eq_false_iff] at h0
      rw [h0.1.1] at this; exact this)) (Nat.le_of_ble_eq_true rfl)) ?_
  refine Go.ends (m' := mk cVAL tx L 0 L false false 31 1 1 true #[some 1, none] 0 (-1) [gb 19 1 0 true (-1) (-1), gb 7 0 0 true (-1) (-1), ns 5 0 true] 3 none) (go_mark0 ⟨rfl, rfl, Nat.le_of_ble_eq_true rfl⟩ rfl rfl rfl) ?_
  refine Go.ends (m' := mk cVAL tx L 0 L false false 46 (1 + v.length) (1 + v.length) true #[some 1, none] 0 (-1) [gb 31 (1 + v.length) v.length true 0 (-1), gb 19 1 0 true (-1) (-1), gb 7 0 0 true (-1) (-1), ns 5 0 true] 4 none)
    (go_rep ⟨rfl, rfl, Nat.le_of_ble_eq_true rfl⟩ rfl v.length (by show 1 + v.length ≤ L; walk_at "o") rfl hL (Nat.zero_le _) (fun j hj => by
      show Tk cVAL 35 (tx.getD (1 + j) 0) true
      rw [gv j hj]
      have := tk_val v[j]
      rw [hv1 _ (List.getElem_mem hj)] at this; exact this) (by
      rcases hr with rfl | ⟨c, r, e, hc⟩
      · left; show 1 + v.length = L; simp at hLl; walk_at "o"
      · right
        show Tk cVAL 35 (tx.getD (1 + v.length) 0) false
        rw [ge c r e]
        have := tk_val c
        rcases hc with rfl | rfl
        · rw [show (!(Unicode.isSpace 59 || (59 : Nat) == 59 || (59 : Nat) == 44)) = false by simp] at this; exact this
        · rw [show (!(Unicode.isSpace 44 || (44 : Nat) == 59 || (44 : Nat) == 44)) = false by simp] at this; exact this) (Nat.le_of_ble_eq_true rfl)) ?_
  refine Go.ends (m' := mk cVAL tx L 0 L false false 48 (1 + v.length) (1 + v.length) true #[some 1, some (1 + v.length)] 1 1 [gb 31 (1 + v.length) v.length true 0 (-1), gb 19 1 0 true (-1) (-1), gb 7 0 0 true (-1) (-1), ns 5 0 true] 4 none)
    (go_mark1 ⟨rfl, rfl, Nat.le_of_ble_eq_true rfl⟩ rfl rfl rfl) ?_
  refine Go.ends (m' := mk cVAL tx L 0 L false false 48 (1 + v.length) (1 + v.length) true #[some 1, some (1 + v.length)] 1 1 [gb 31 (1 + v.length) v.length true 0 (-1), gb 19 1 0 true (-1) (-1), gb 7 0 0 true (-1) (-1), ns 5 0 true] 4 (some true))
    (go_success ⟨rfl, rfl, Nat.le_of_ble_eq_true rfl⟩ rfl rfl) ?_
  refine Go.ends (m' := mk cVAL tx L 0 L false false 31 (1 + v.length) (1 + v.length) true #[some 1, some (1 + v.length)] 1 1 [gb 19 1 0 true (-1) (-1), gb 7 0 0 true (-1) (-1), ns 5 0 true] 3 (some true))
    (go_pop_yes (f := gb 31 (1 + v.length) v.length true 0 (-1)) rfl rfl rfl (.inl rfl)) ?_
  refine Go.ends (m' := mk cVAL tx L 0 L false false 19 1 (1 + v.length) true #[some 1, some (1 + v.length)] 1 1 [gb 7 0 0 true (-1) (-1), ns 5 0 true] 2 (some true)) (go_pop_yes (f := gb 19 1 0 true (-1) (-1)) rfl rfl rfl (.inl rfl)) ?_
  refine Go.ends (m' := mk cVAL tx L 0 L false false 7 0 (1 + v.length) true #[some 1, some (1 + v.length)] 1 1 [ns 5 0 true] 1 (some true)) (go_pop_yes (f := gb 7 0 0 true (-1) (-1)) rfl rfl rfl (.inl rfl)) ?_
  refine Go.ends (m' := mk cVAL tx L 0 L false false 5 0 (1 + v.length) true #[some 1, some (1 + v.length)] 1 1 [] 0 (some true)) (go_pop_yes (f := ns 5 0 true) rfl rfl rfl (.inr rfl)) ?_
  refine Go.ends (go_end (yes := true) rfl rfl rfl) ?_
  exact Ends.here fun sn => ⟨rfl, rfl, rfl, rfl, rfl, rfl⟩

theorem start_quo {tx : Array Nat} {L : Nat} (h : 3 ≤ L) : Sre.forSearch cQUO tx 1 0 L false = { (mk cQUO tx L 0 (L - 2) false false 5 0 0 true #[none, none] (-1) (-1) [ns 5 0 true] 1 none) with seen := ({} : Sre.Seen).add 14 } := by
  unfold Sre.forSearch
  have e : (decide (0 > L) || decide (L - 0 < 3)) = false := by simp; walk_at "o"
  show (if (decide (0 > L) || decide (L - 0 < 3)) = true then _ else _) = _
  rw [e]
  have e2 : max 0 (L - (3 - 1)) = L - 2 := by walk_at "o"
  show Sre.M.attemptFrom { (mk cQUO tx L 0 (max 0 (L - (3 - 1))) false false 5 0 0 true #[none, none] (-1) (-1) [] 0 none) with seen := ({} : Sre.Seen).add 14 } 0 true = _
  rw [e2]; rfl
theorem quo_none {y : Nat} {rest : List Nat} (hy : Unicode.isSpace y = false) (hy2 : y ≠ 34) (hL : (61 :: y :: rest).length ≤ 1000000) :
    Ends 3000000 (Sre.forSearch cQUO (61 :: y :: rest).toArray 1 0 (61 :: y :: rest).length false) Failed := by
  have gx : ∀ i, (61 :: y :: rest).toArray.getD i 0 = (61 :: y :: rest).getD i 0 := fun i => toArray_getD _ _
  have g0 : (61 :: y :: rest).toArray.getD 0 0 = 61 := by rw [gx]; rfl
  have g1 : (61 :: y :: rest).toArray.getD 1 0 = y := by rw [gx]; rfl
  have hL2 : 2 ≤ (61 :: y :: rest).length := by simp
  generalize (61 :: y :: rest).toArray = tx at *
  generalize (61 :: y :: rest).length = L at *
  by_cases h3 : 3 ≤ L
  · rw [start_quo h3]
    refine Ends.seen ?_ _
    refine Ends.mono (a := 1 + (1 + (1 + (1 + (1 + (1 + (1 + (2 * (L - 2) + 2)))))))) ?_ (by walk_at "o")
    refine Go.ends (m' := mk cQUO tx L 0 (L - 2) false false 7 0 0 true #[none, none] (-1) (-1) [ns 5 0 true] 1 none) (go_at_yes ⟨rfl, rfl, Nat.le_of_ble_eq_true rfl⟩ rfl rfl rfl) ?_
    refine Go.ends (m' := mk cQUO tx L 0 (L - 2) false false 17 0 0 true #[none, none] (-1) (-1) [gb 7 0 0 true (-1) (-1), ns 5 0 true] 2 none)
      (go_rep ⟨rfl, rfl, Nat.le_of_ble_eq_true rfl⟩ rfl 0 (Nat.zero_le _) rfl hL (Nat.zero_le _) (fun j hj => absurd hj (Nat.not_lt_zero _)) (.inr (by
        show Tk cQUO 11 (tx.getD (0 + 0) 0) false
        rw [Nat.add_zero, g0]; exact tkS_quo 61)) (Nat.le_of_ble_eq_true rfl)) ?_
    refine Go.ends (m' := mk cQUO tx L 0 (L - 2) false false 19 1 0 true #[none, none] (-1) (-1) [gb 7 0 0 true (-1) (-1), ns 5 0 true] 2 none)
      (go_one_yes ⟨rfl, rfl, Nat.le_of_ble_eq_true rfl⟩ 16 (.inr (.inr rfl)) rfl (by show 0 < L; walk_at "o") (by show Tk cQUO 17 (tx.getD 0 0) true; rw [g0]; exact tk_lit cQUO 17 61 true rfl rfl)) ?_
    refine Go.ends (m' := mk cQUO tx L 0 (L - 2) false false 29 1 1 true #[none, none] (-1) (-1) [gb 19 1 0 true (-1) (-1), gb 7 0 0 true (-1) (-1), ns 5 0 true] 3 none)
      (go_rep ⟨rfl, rfl, Nat.le_of_ble_eq_true rfl⟩ rfl 0 (by show 1 + 0 ≤ L; walk_at "o") rfl hL (Nat.zero_le _) (fun j hj => absurd hj (Nat.not_lt_zero _)) (.inr (by
        show Tk cQUO 23 (tx.getD (1 + 0) 0) false
        rw [g1]
        have := tkS_quo2 y
        rw [hy] at this; exact this)) (Nat.le_of_ble_eq_true rfl)) ?_
    refine Go.ends (m' := mk cQUO tx L 0 (L - 2) false false 29 1 1 true #[none, none] (-1) (-1) [gb 19 1 0 true (-1) (-1), gb 7 0 0 true (-1) (-1), ns 5 0 true] 3 (some false))
      (go_one_no ⟨rfl, rfl, Nat.le_of_ble_eq_true rfl⟩ 16 (.inr (.inr rfl)) rfl (.inr (by show Tk cQUO 29 (tx.getD 1 0) false; rw [g1]; exact tk_lit cQUO 29 y false rfl (beq_eq_false_iff_ne.mpr hy2)))) ?_
    refine Go.ends (m' := mk cQUO tx L 0 (L - 2) false false 19 1 1 true #[none, none] (-1) (-1) [gb 7 0 0 true (-1) (-1), ns 5 0 true] 2 (some false)) (go_pop_no (f := gb 19 1 0 true (-1) (-1)) rfl rfl rfl rfl rfl (by show (0 : Int) - 1 < ((0 : Nat) : Int); decide)) ?_
    refine Go.ends (m' := mk cQUO tx L 0 (L - 2) false false 7 0 1 true #[none, none] (-1) (-1) [ns 5 0 true] 1 (some false)) (go_pop_no (f := gb 7 0 0 true (-1) (-1)) rfl rfl rfl rfl rfl (by show (0 : Int) - 1 < ((0 : Nat) : Int); decide)) ?_
    exact anch_fail (L - 2) _ 0 true ⟨rfl, rfl, rfl, rfl, Nat.le_of_ble_eq_true rfl⟩ rfl rfl rfl (by show L - 2 = 0 + (L - 2); walk_at "o") (by show (1 : Nat) ≤ 1000; walk_at "o")
  · have : L = 2 := by walk_at "o"
    subst this
    refine Ends.mono (a := 1 + 0) ?_ (by decide)
    exact Go.ends (m := Sre.forSearch cQUO tx 1 0 2 false) (go_end (yes := false) rfl rfl rfl) (Ends.here fun sn => rfl)
end
section
open PySem PySem.Calls PyProof.Rows PySem.Spec PySem.W PySem.Builtin.Str
theorem start_sep {tx : Array Nat} {L st : Nat} (h : st ≤ L) : Sre.forSearch cSEP tx 0 st L false = { (mk cSEP tx L st L false false 5 st st true #[] (-1) (-1) [ns 5 st true] 1 none) with seen := ({} : Sre.Seen).add 14 } := by
  unfold Sre.forSearch
  have e : (decide (st > L) || decide (L - st < 0)) = false := by simp; walk_at "o"
  show (if (decide (st > L) || decide (L - st < 0)) = true then _ else _) = _
  rw [e]; rfl
theorem sep_fail {tx : Array Nat} {L st : Nat} (h : st ≤ L) (h1 : st ≠ 0) (hL : L ≤ 1000000) : Ends 3000000 (Sre.forSearch cSEP tx 0 st L false) Failed := by
  rw [start_sep h]
  refine Ends.seen ?_ _
  refine Ends.mono (a := 1 + (2 * (L - st) + 2)) ?_ (by walk_at "o")
  refine Go.ends (m' := mk cSEP tx L st L false false 5 st st true #[] (-1) (-1) [ns 5 st true] 1 (some false)) (go_at_no ⟨rfl, rfl, Nat.le_of_ble_eq_true rfl⟩ rfl rfl h1) ?_
  exact anch_fail (L - st) _ st true ⟨rfl, rfl, rfl, rfl, Nat.le_of_ble_eq_true rfl⟩ rfl rfl rfl (by show L = st + (L - st); walk_at "o") (by show (1 : Nat) ≤ 1000; walk_at "o")
theorem tk_sep (c : Nat) : Tk cSEP 11 c (c == 61 || Unicode.isSpace c || c == 59) := fun sn => by
  show ∃ sn', (if (c == 61) = true then _ else _) = _
  cases (c == 61)
  · show ∃ sn', (if (Unicode.isSpace c != false) = true then _ else _) = _
    cases Unicode.isSpace c
    · show ∃ sn', (if (c == 59) = true then _ else _) = _
      cases (c == 59) <;> exact ⟨_, rfl⟩
    · exact ⟨_, rfl⟩
  · exact ⟨_, rfl⟩
theorem sep_match {c : Nat} {rest : List Nat} (hc : (c == 61 || Unicode.isSpace c || c == 59) = false) (hL : (59 :: 32 :: c :: rest).length ≤ 1000000) :
    Ends 20 (Sre.forSearch cSEP (59 :: 32 :: c :: rest).toArray 0 0 (59 :: 32 :: c :: rest).length false) (Matched 0 2 [] (-1) (-1)) := by
  have gx : ∀ i, (59 :: 32 :: c :: rest).toArray.getD i 0 = (59 :: 32 :: c :: rest).getD i 0 := fun i => toArray_getD _ _
  have hL3 : 3 ≤ (59 :: 32 :: c :: rest).length := by simp
  rw [start_sep (Nat.zero_le _)]
  refine Ends.seen ?_ _
  generalize (59 :: 32 :: c :: rest).toArray = tx at *
  generalize (59 :: 32 :: c :: rest).length = L at *
  refine Ends.mono (a := 1 + (1 + (1 + (1 + (1 + (1 + 0)))))) ?_ (by decide)
  refine Go.ends (m' := mk cSEP tx L 0 L false false 7 0 0 true #[] (-1) (-1) [ns 5 0 true] 1 none) (go_at_yes ⟨rfl, rfl, Nat.le_of_ble_eq_true rfl⟩ rfl rfl rfl) ?_
  refine Go.ends (m' := mk cSEP tx L 0 L false false 21 2 2 true #[] (-1) (-1) [gb 7 2 2 true (-1) (-1), ns 5 0 true] 2 none)
    (go_rep ⟨rfl, rfl, Nat.le_of_ble_eq_true rfl⟩ rfl 2 (by show 0 + 2 ≤ L; walk_at "o") rfl hL (Nat.zero_le _) (fun j hj => by
      show Tk cSEP 11 (tx.getD (0 + j) 0) true
      rw [gx]
      rcases j with _ | _ | j
      · exact tk_sep 59
      · have := tk_sep 32
        rw [show ((32 : Nat) == 61 || Unicode.isSpace 32 || (32 : Nat) == 59) = true by decide] at this; exact this
      · walk_at "o") (.inr (by
      show Tk cSEP 11 (tx.getD (0 + 2) 0) false
      rw [gx]
      have := tk_sep c
      rw [hc] at this; exact this)) (Nat.le_of_ble_eq_true rfl)) ?_
  refine Go.ends (m' := mk cSEP tx L 0 L false false 21 2 2 true #[] (-1) (-1) [gb 7 2 2 true (-1) (-1), ns 5 0 true] 2 (some true)) (go_success ⟨rfl, rfl, Nat.le_of_ble_eq_true rfl⟩ rfl rfl) ?_
  refine Go.ends (m' := mk cSEP tx L 0 L false false 7 2 2 true #[] (-1) (-1) [ns 5 0 true] 1 (some true)) (go_pop_yes (f := gb 7 2 2 true (-1) (-1)) rfl rfl rfl (.inl rfl)) ?_
  refine Go.ends (m' := mk cSEP tx L 0 L false false 5 0 2 true #[] (-1) (-1) [] 0 (some true)) (go_pop_yes (f := ns 5 0 true) rfl rfl rfl (.inr rfl)) ?_
  refine Go.ends (go_end (yes := true) rfl rfl rfl) ?_
  exact Ends.here fun sn => ⟨rfl, rfl, rfl, rfl, rfl, rfl⟩

noncomputable def tokB (c : Nat) : Bool := decide (c < 256) && (cJTK.getD (12 + c / 32) 0).testBit (c % 32)
theorem tk_jtk (c : Nat) : Tk cJTK 9 c (tokB c) := fun sn => by
  show ∃ sn', (if (decide (c < 256) && (cJTK.getD (11 + (1 + c / 32)) 0).testBit (c % 32)) = true then _ else _) = _
  have e : (decide (c < 256) && (cJTK.getD (11 + (1 + c / 32)) 0).testBit (c % 32)) = tokB c := by unfold tokB; rw [← Nat.add_assoc]
  rw [e]
  cases tokB c <;> exact ⟨_, rfl⟩
theorem start_jtk {tx : Array Nat} {L : Nat} (h : 1 ≤ L) : Sre.forMatch cJTK tx 0 0 L true false = { (mk cJTK tx L 0 0 true false 5 0 0 true #[] (-1) (-1) [] 0 none) with seen := ({} : Sre.Seen).add 14 } := by
  unfold Sre.forMatch
  have e : ((1 : Nat) != 0 && decide (0 ≤ L) && decide (L - 0 < 1)) = false := by simp; walk_at "o"
  show (if ((1 : Nat) != 0 && decide (0 ≤ L) && decide (L - 0 < 1)) = true then _ else _) = _
  rw [e]; rfl
theorem jtk_match {l : List Nat} (hne : l ≠ []) (ha : ∀ c ∈ l, tokB c = true) (hL : l.length ≤ 1000000) : Ends 20 (Sre.forMatch cJTK l.toArray 0 0 l.length true false) (Matched 0 l.length [] (-1) (-1)) := by
  have hl0 : 0 < l.length := List.length_pos_iff.mpr hne
  have gx : ∀ i, l.toArray.getD i 0 = l.getD i 0 := fun i => toArray_getD _ _
  have gl : ∀ j, j < l.length → tokB (l.getD j 0) = true := fun j hj => by rw [List.getD_eq_getElem?_getD, List.getElem?_eq_getElem hj]; exact ha _ (List.getElem_mem hj)
  rw [start_jtk hl0]
  refine Ends.seen ?_ _
  generalize l.toArray = tx at *
  generalize l.length = L at *
  refine Ends.mono (a := 1 + (1 + (1 + (1 + 0)))) ?_ (by decide)
  refine Go.ends (m' := mk cJTK tx L 0 0 true false 22 (0 + L) (0 + L) true #[] (-1) (-1) [gb 5 (0 + L) L true (-1) (-1)] 1 none)
    (go_rep ⟨rfl, rfl, Nat.le_of_ble_eq_true rfl⟩ rfl L (by show 0 + L ≤ L; walk_at "o") rfl hL hl0 (fun j hj => by
      show Tk cJTK 9 (tx.getD (0 + j) 0) true
      rw [gx, Nat.zero_add]
      have := tk_jtk (l.getD j 0)
      rw [gl j hj] at this; exact this) (.inl (by show 0 + L = L; walk_at "o")) (Nat.le_of_ble_eq_true rfl)) ?_
  rw [Nat.zero_add]
  refine Go.ends (m' := mk cJTK tx L 0 0 true false 22 L L true #[] (-1) (-1) [gb 5 L L true (-1) (-1)] 1 (some true)) (go_success ⟨rfl, rfl, Nat.le_of_ble_eq_true rfl⟩ rfl (by show (true && ((true && L != L) || (false && L == 0))) = false; simp)) ?_
  refine Go.ends (m' := mk cJTK tx L 0 0 true false 5 L L true #[] (-1) (-1) [] 0 (some true)) (go_pop_yes (f := gb 5 L L true (-1) (-1)) rfl rfl rfl (.inl rfl)) ?_
  refine Go.ends (go_end (yes := true) rfl rfl rfl) ?_
  exact Ends.here fun sn => ⟨rfl, rfl, rfl, rfl, rfl, rfl⟩
theorem jtk_back {tx : Array Nat} {L : Nat} (n : Nat) : n + 1 < L → Ends (2 * (n + 1) + 2) (mk cJTK tx L 0 0 true false 22 (n + 1) (n + 1) true #[] (-1) (-1) [gb 5 (n + 1) (n + 1) true (-1) (-1)] 1 none) Failed := by
  induction n with
  | zero =>
    intro hn
    have h1 : Go 1 (mk cJTK tx L 0 0 true false 22 1 1 true #[] (-1) (-1) [gb 5 1 1 true (-1) (-1)] 1 none) (mk cJTK tx L 0 0 true false 22 1 1 true #[] (-1) (-1) [gb 5 1 1 true (-1) (-1)] 1 (some false)) :=
      go_success_no ⟨rfl, rfl, Nat.le_of_ble_eq_true rfl⟩ rfl (by
        show (true && ((true && 1 != L) || (false && 1 == 0))) = true
        have : (1 != L) = true := by simp; walk_at "o"
        rw [this]; rfl)
    have h2 : Go 1 (mk cJTK tx L 0 0 true false 22 1 1 true #[] (-1) (-1) [gb 5 1 1 true (-1) (-1)] 1 (some false)) (mk cJTK tx L 0 0 true false 5 1 1 true #[] (-1) (-1) [] 0 (some false)) :=
      go_pop_no (f := gb 5 1 1 true (-1) (-1)) rfl rfl rfl rfl rfl (by show ((1 : Nat) : Int) - 1 < ((1 : Nat) : Int); decide)
    exact (h1.ends (h2.ends (Go.ends (go_end (yes := false) rfl rfl rfl) (b := 0) (Ends.here fun sn => rfl)))).mono (by walk_at "o")
  | succ n ih =>
    intro hn
    have h1 : Go 1 (mk cJTK tx L 0 0 true false 22 (n + 2) (n + 2) true #[] (-1) (-1) [gb 5 (n + 2) (n + 2) true (-1) (-1)] 1 none) (mk cJTK tx L 0 0 true false 22 (n + 2) (n + 2) true #[] (-1) (-1) [gb 5 (n + 2) (n + 2) true (-1) (-1)] 1 (some false)) :=
      go_success_no ⟨rfl, rfl, Nat.le_of_ble_eq_true rfl⟩ rfl (by
        show (true && ((true && (n + 2) != L) || (false && (n + 2) == 0))) = true
        have : ((n + 2) != L) = true := by simp; walk_at "o"
        rw [this]; rfl)
    have h2 : Go 1 (mk cJTK tx L 0 0 true false 22 (n + 2) (n + 2) true #[] (-1) (-1) [gb 5 (n + 2) (n + 2) true (-1) (-1)] 1 (some false)) (mk cJTK tx L 0 0 true false 22 (n + 1) (n + 1) true #[] (-1) (-1) [gb 5 (n + 1) (n + 1) true (-1) (-1)] 1 none) := by
      refine go_pop (f := gb 5 (n + 2) (n + 2) true (-1) (-1)) rfl rfl rfl fun sn => ⟨sn, ?_⟩
      unfold Sre.M.resume
      show (if false = true then _ else if ((n + 2 : Nat) : Int) - 1 < ((1 : Nat) : Int) then _ else _) = _
      rw [if_neg (by decide), if_neg (by walk_at "o")]
      have e : ((n + 2 : Nat) : Int) - 1 = ((n + 1 : Nat) : Int) := by walk_at "o"
      show Sre.M.afterRun _ _ (((n + 2 : Nat) : Int) - 1) _ = _
      rw [e]
      unfold Sre.M.afterRun
      exact (attempt_ok (by show (0 : Nat) + 1 + 0 ≤ 16777216; decide)).trans rfl
    exact (h1.ends (h2.ends (ih (by walk_at "o")))).mono (by walk_at "o")
theorem jtk_none {a : List Nat} {c : Nat} {r : List Nat} (ha : ∀ x ∈ a, tokB x = true) (hc : tokB c = false) (hL : (a ++ c :: r).length ≤ 1000000) :
    Ends 3000000 (Sre.forMatch cJTK (a ++ c :: r).toArray 0 0 (a ++ c :: r).length true false) Failed := by
  have gx : ∀ i, (a ++ c :: r).toArray.getD i 0 = (a ++ c :: r).getD i 0 := fun i => toArray_getD _ _
  have hal : a.length < (a ++ c :: r).length := by simp
  rw [start_jtk (by walk_at "o")]
  refine Ends.seen ?_ _
  generalize (a ++ c :: r).toArray = tx at *
  generalize (a ++ c :: r).length = L at *
  have ht : ∀ j, j < a.length → Tk cJTK 9 (tx.getD (0 + j) 0) true := fun j hj => by
    rw [gx, Nat.zero_add]
    have := getD_mid (a := []) hj (c :: r)
    rw [List.nil_append, List.length_nil, Nat.zero_add] at this
    rw [this]
    have := tk_jtk a[j]
    rw [ha _ (List.getElem_mem hj)] at this; exact this
  have he : Tk cJTK 9 (tx.getD (0 + a.length) 0) false := by
    rw [gx, Nat.zero_add]
    have := getD_mid (a := a) (b := c :: r) (j := 0) (by simp) []
    rw [List.append_nil, Nat.add_zero] at this
    rw [this]
    have := tk_jtk c
    rw [hc] at this; exact this
  by_cases h0 : a.length = 0
  · refine Ends.mono (a := 1 + (1 + 0)) ?_ (by decide)
    refine Go.ends (m' := mk cJTK tx L 0 0 true false 5 0 0 true #[] (-1) (-1) [] 0 (some false)) (go_rep_no ⟨rfl, rfl, Nat.le_of_ble_eq_true rfl⟩ rfl a.length (by show 0 + a.length ≤ L; walk_at "o") rfl hL (by rw [h0]; show (0 : Nat) < 1; decide) ht (.inr he)) ?_
    exact Go.ends (go_end (yes := false) rfl rfl rfl) (Ends.here fun sn => rfl)
  · refine Ends.mono (a := 1 + (2 * a.length + 2)) ?_ (by walk_at "o")
    refine Go.ends (m' := mk cJTK tx L 0 0 true false 22 (0 + a.length) (0 + a.length) true #[] (-1) (-1) [gb 5 (0 + a.length) a.length true (-1) (-1)] 1 none)
      (go_rep ⟨rfl, rfl, Nat.le_of_ble_eq_true rfl⟩ rfl a.length (by show 0 + a.length ≤ L; walk_at "o") rfl hL (by show 1 ≤ a.length; walk_at "o") ht (.inr he) (Nat.le_of_ble_eq_true rfl)) ?_
    rw [Nat.zero_add]
    obtain ⟨n, hn⟩ : ∃ n, a.length = n + 1 := ⟨a.length - 1, by walk_at "o"⟩
    rw [hn] at hal ⊢
    exact jtk_back n hal
theorem jtk_empty : Ends 10 (Sre.forMatch cJTK #[] 0 0 0 true false) Failed := by
  refine Ends.mono (a := 1 + 0) ?_ (by decide)
  exact Go.ends (m := Sre.forMatch cJTK #[] 0 0 0 true false) (go_end (yes := false) rfl rfl rfl) (Ends.here fun sn => rfl)
end
section
open PySem PySem.Calls PyProof.Rows PySem.Spec PySem.W PySem.Builtin.Str
noncomputable def xE (tx : Array Nat) (L s : Nat) (first : Bool) : MM := mk cESC tx L s L false false 9 s s first #[none, none] (-1) (-1) [ns 9 s first] 1 none
theorem start_esc {tx : Array Nat} {L st : Nat} (h : st + 2 ≤ L) : Sre.forSearch cESC tx 1 st L false = { xE tx L st true with seen := ({} : Sre.Seen).add 14 } := by
  unfold Sre.forSearch
  have e : (decide (st > L) || decide (L - st < 2)) = false := by simp; walk_at "o"
  show (if (decide (st > L) || decide (L - st < 2)) = true then _ else _) = _
  rw [e]; rfl
theorem esc_next {tx : Array Nat} {L s : Nat} {first : Bool} (hs : s < L) (hc : tx.getD s 0 ≠ 92) : Go 2 (xE tx L s first) (xE tx L (s + 1) false) := by
  refine Go.trans (m' := mk cESC tx L s L false false 9 s s first #[none, none] (-1) (-1) [ns 9 s first] 1 (some false))
    (go_one_no ⟨rfl, rfl, Nat.le_of_ble_eq_true rfl⟩ 16 (.inr (.inr rfl)) rfl (.inr (by show Tk cESC 9 (tx.getD s 0) false; exact tk_lit cESC 9 _ false rfl (beq_eq_false_iff_ne.mpr hc)))) (a := 1) (b := 1) ?_
  refine go_pop (f := ns 9 s first) rfl rfl rfl fun sn => ⟨sn, ?_⟩
  unfold Sre.M.resume
  show (if false = true then _ else if s < L then _ else _) = _
  rw [if_neg (by decide), if_pos hs]
  rfl
theorem esc_scan {tx : Array Nat} {L : Nat} : ∀ (d s : Nat) (first : Bool), s + d ≤ L → (∀ j, j < d → tx.getD (s + j) 0 ≠ 92) → ∃ f', Go (2 * d) (xE tx L s first) (xE tx L (s + d) f')
  | 0, s, first, _, _ => ⟨first, .refl _⟩
  | d + 1, s, first, h, hc => by
    obtain ⟨f', g⟩ := esc_scan (tx := tx) (L := L) d (s + 1) false (by walk_at "o") fun j hj => by have := hc (j + 1) (by walk_at "o"); rw [show s + (j + 1) = s + 1 + j by walk_at "o"] at this; exact this
    refine ⟨f', ?_⟩
    have e1 : Go 2 (xE tx L s first) (xE tx L (s + 1) false) := esc_next (by walk_at "o") (hc 0 (Nat.succ_pos _))
    have e2 : Go (2 + 2 * d) (xE tx L s first) (xE tx L (s + 1 + d) f') := e1.trans g
    rw [show s + 1 + d = s + (d + 1) by walk_at "o"] at e2
    exact e2.mono (by walk_at "o")
theorem esc_hit {tx : Array Nat} {L s : Nat} {first : Bool} (hs : s + 2 ≤ L) (hc : tx.getD s 0 = 92) (hx : tx.getD (s + 1) 0 ≠ 10) : Ends 20 (xE tx L s first) (Matched s (s + 2) [some (s + 1), some (s + 2)] 1 1) := by
  refine Ends.mono (a := 1 + (1 + (1 + (1 + (1 + (1 + (1 + 0))))))) ?_ (by decide)
  refine Go.ends (m' := mk cESC tx L s L false false 11 (s + 1) s first #[none, none] (-1) (-1) [ns 9 s first] 1 none)
    (go_one_yes ⟨rfl, rfl, Nat.le_of_ble_eq_true rfl⟩ 16 (.inr (.inr rfl)) rfl (by show s < L; walk_at "o") (by show Tk cESC 9 (tx.getD s 0) true; rw [hc]; exact tk_lit cESC 9 92 true rfl rfl)) ?_
  refine Go.ends (m' := mk cESC tx L s L false false 13 (s + 1) s first #[some (s + 1), none] 0 (-1) [ns 9 s first] 1 none) (go_mark0 ⟨rfl, rfl, Nat.le_of_ble_eq_true rfl⟩ rfl rfl rfl) ?_
  refine Go.ends (m' := mk cESC tx L s L false false 14 (s + 1 + 1) s first #[some (s + 1), none] 0 (-1) [ns 9 s first] 1 none)
    (go_one_yes ⟨rfl, rfl, Nat.le_of_ble_eq_true rfl⟩ 2 (.inl rfl) rfl (by show s + 1 < L; walk_at "o") (by
      show Tk cESC 13 (tx.getD (s + 1) 0) true
      intro sn
      refine ⟨sn, ?_⟩
      show Except.ok (tx.getD (s + 1) 0 != 10, sn) = _
      rw [bne_iff_ne.mpr hx])) ?_
  refine Go.ends (m' := mk cESC tx L s L false false 16 (s + 2) s first #[some (s + 1), some (s + 2)] 1 1 [ns 9 s first] 1 none) (go_mark1 ⟨rfl, rfl, Nat.le_of_ble_eq_true rfl⟩ rfl rfl rfl) ?_
  refine Go.ends (m' := mk cESC tx L s L false false 16 (s + 2) (s + 2) first #[some (s + 1), some (s + 2)] 1 1 [ns 9 s first] 1 (some true)) (go_success ⟨rfl, rfl, Nat.le_of_ble_eq_true rfl⟩ rfl (by show (first && ((false && _) || (false && _))) = false; simp)) ?_
  refine Go.ends (m' := mk cESC tx L s L false false 9 s (s + 2) first #[some (s + 1), some (s + 2)] 1 1 [] 0 (some true)) (go_pop_yes (f := ns 9 s first) rfl rfl rfl (.inr rfl)) ?_
  refine Go.ends (go_end (yes := true) rfl rfl rfl) ?_
  exact Ends.here fun sn => ⟨rfl, rfl, rfl, rfl, rfl, rfl⟩
theorem esc_end {tx : Array Nat} {L : Nat} {first : Bool} : Ends 10 (xE tx L L first) Failed := by
  refine Ends.mono (a := 1 + (1 + (1 + 0))) ?_ (by decide)
  refine Go.ends (m' := mk cESC tx L L L false false 9 L L first #[none, none] (-1) (-1) [ns 9 L first] 1 (some false)) (go_one_no ⟨rfl, rfl, Nat.le_of_ble_eq_true rfl⟩ 16 (.inr (.inr rfl)) rfl (.inl (Nat.le_refl _))) ?_
  refine Go.ends (m' := mk cESC tx L L L false false 9 L L first #[none, none] (-1) (-1) [] 0 (some false)) (go_pop (f := ns 9 L first) rfl rfl rfl fun sn => ⟨sn, ?_⟩) ?_
  · unfold Sre.M.resume
    show (if false = true then _ else if L < L then _ else _) = _
    rw [if_neg (by decide), if_neg (Nat.lt_irrefl _)]; rfl
  · exact Go.ends (go_end (yes := false) rfl rfl rfl) (Ends.here fun sn => rfl)
theorem esc_found {a b : List Nat} {x st : Nat} (hst : st ≤ a.length) (ha : ∀ j, st ≤ j → j < a.length → a.getD j 0 ≠ 92) (hx : x ≠ 10) (hL : (a ++ 92 :: x :: b).length ≤ 1000000) :
    Ends 3000000 (Sre.forSearch cESC (a ++ 92 :: x :: b).toArray 1 st (a ++ 92 :: x :: b).length false) (Matched a.length (a.length + 2) [some (a.length + 1), some (a.length + 2)] 1 1) := by
  have gx : ∀ i, (a ++ 92 :: x :: b).toArray.getD i 0 = (a ++ 92 :: x :: b).getD i 0 := fun i => toArray_getD _ _
  have g0 : (a ++ 92 :: x :: b).toArray.getD a.length 0 = 92 := by rw [gx, List.getD_eq_getElem?_getD, List.getElem?_append_right (by walk_at "o")]; simp
  have g1 : (a ++ 92 :: x :: b).toArray.getD (a.length + 1) 0 = x := by rw [gx, List.getD_eq_getElem?_getD, List.getElem?_append_right (by walk_at "o")]; simp
  have ga : ∀ j, j < a.length → (a ++ 92 :: x :: b).toArray.getD j 0 = a.getD j 0 := fun j hj => by rw [gx, List.getD_eq_getElem?_getD, List.getElem?_append_left hj, List.getD_eq_getElem?_getD]
  have hLl : a.length + 2 ≤ (a ++ 92 :: x :: b).length := by simp
  rw [start_esc (by walk_at "o")]
  refine Ends.seen ?_ _
  generalize (a ++ 92 :: x :: b).toArray = tx at *
  generalize (a ++ 92 :: x :: b).length = L at *
  obtain ⟨f', g⟩ := esc_scan (tx := tx) (L := L) (a.length - st) st true (by walk_at "o") fun j hj => by rw [ga _ (by walk_at "o")]; exact ha _ (by walk_at "o") (by walk_at "o")
  rw [show st + (a.length - st) = a.length by walk_at "o"] at g
  exact (g.ends (esc_hit hLl g0 (by rw [g1]; exact hx))).mono (by walk_at "o")
theorem esc_none {l : List Nat} {st : Nat} (hst : st ≤ l.length) (ha : ∀ j, st ≤ j → j < l.length → l.getD j 0 ≠ 92) (hL : l.length ≤ 1000000) :
    Ends 3000000 (Sre.forSearch cESC l.toArray 1 st l.length false) Failed := by
  have gx : ∀ i, l.toArray.getD i 0 = l.getD i 0 := fun i => toArray_getD _ _
  by_cases h2 : st + 2 ≤ l.length
  · rw [start_esc h2]
    refine Ends.seen ?_ _
    obtain ⟨f', g⟩ := esc_scan (tx := l.toArray) (L := l.length) (l.length - st) st true (by walk_at "o") fun j hj => by rw [gx]; exact ha _ (by walk_at "o") (by walk_at "o")
    rw [show st + (l.length - st) = l.length by walk_at "o"] at g
    exact (g.ends esc_end).mono (by walk_at "o")
  · have e : Sre.forSearch cESC l.toArray 1 st l.length false = { (mk cESC l.toArray l.length st 0 false false 9 st st true #[none, none] (-1) (-1) [] 0 (some false)) with seen := ({} : Sre.Seen).add 14 } := by
      unfold Sre.forSearch
      have e : (decide (st > l.length) || decide (l.length - st < 2)) = true := by simp; walk_at "o"
      show (if (decide (st > l.length) || decide (l.length - st < 2)) = true then _ else _) = _
      rw [e]; rfl
    rw [e]
    refine Ends.seen ?_ _
    exact Ends.mono (Go.ends (go_end (yes := false) rfl rfl rfl) (Ends.here fun sn => rfl) (b := 0)) (by decide)
end
section
open PySem PySem.Calls PyProof.Rows PySem.Spec PySem.W PySem.Builtin.Str
noncomputable def BJ (c : Nat) : Bool := c == 34 || c == 92
theorem inJ (c : Nat) (sn : Sre.Seen) : ∃ sn', Sre.inSet cJES c cJES.size 5 true sn = .ok (BJ c, sn') := by
  show ∃ sn', (if (c == 34) = true then _ else _) = _
  unfold BJ
  cases (c == 34)
  · show ∃ sn', (if (c == 92) = true then _ else _) = _
    cases (c == 92) <;> exact ⟨_, rfl⟩
  · exact ⟨_, rfl⟩
theorem tkJ (c : Nat) : Tk cJES 12 c (BJ c) := fun sn => by
  show ∃ sn', (if (c == 34) = true then _ else _) = _
  unfold BJ
  cases (c == 34)
  · show ∃ sn', (if (c == 92) = true then _ else _) = _
    cases (c == 92) <;> exact ⟨_, rfl⟩
  · exact ⟨_, rfl⟩
noncomputable def BT (c : Nat) : Bool := decide (c < 256) && (cTW1.getD (6 + c / 32) 0).testBit (c % 32)
theorem inT (c : Nat) (sn : Sre.Seen) : ∃ sn', Sre.inSet cTW1 c cTW1.size 5 true sn = .ok (BT c, sn') := by
  show ∃ sn', (if (decide (c < 256) && (cTW1.getD (5 + (1 + c / 32)) 0).testBit (c % 32)) = true then _ else _) = _
  rw [show (decide (c < 256) && (cTW1.getD (5 + (1 + c / 32)) 0).testBit (c % 32)) = BT c by unfold BT; rw [← Nat.add_assoc]]
  cases BT c <;> exact ⟨_, rfl⟩
theorem cTW1_same : ∀ i < 8, cTW1.getD (20 + i) 0 = cTW1.getD (6 + i) 0 := by decide
theorem tkT (c : Nat) : Tk cTW1 17 c (BT c) := fun sn => by
  show ∃ sn', (if (decide (c < 256) && (cTW1.getD (19 + (1 + c / 32)) 0).testBit (c % 32)) = true then _ else _) = _
  have e : (decide (c < 256) && (cTW1.getD (19 + (1 + c / 32)) 0).testBit (c % 32)) = BT c := by
    unfold BT
    rw [← Nat.add_assoc]
    by_cases h : c < 256
    · rw [cTW1_same _ (Nat.div_lt_of_lt_mul h)]
    · rw [decide_eq_false h]; rfl
  rw [e]
  cases BT c <;> exact ⟨_, rfl⟩

noncomputable def xJ (tx : Array Nat) (L s : Nat) : MM := mk cJES tx L s L false false 10 s s true #[none, none] (-1) (-1) [ns 10 s true] 1 none
theorem J_adm {tx : Array Nat} {L : Nat} : ∀ (d s : Nat) (m : MM) (fuel : Nat) (sn : Sre.Seen), m.code = cJES → m.text = tx → m.lim = L → s + d < L → (∀ j, j < d → BJ (tx.getD (s + j) 0) = false) → BJ (tx.getD (s + d) 0) = true → d < fuel →
    ∃ sn', Sre.M.admitted m fuel s sn = .ok (some (s + d), sn')
  | _, _, _, 0, _, _, _, _, _, _, _, h => absurd h (Nat.not_lt_zero _)
  | 0, s, m, fuel + 1, sn, hc, ht, hl, hs, _, hb, _ => by
    unfold Sre.M.admitted
    rw [if_neg (by rw [hl]; walk_at "o"), hc, ht]
    obtain ⟨sn', e⟩ := inJ (tx.getD s 0) sn
    rw [e, show BJ (tx.getD s 0) = true from hb]
    exact ⟨sn', rfl⟩
  | d + 1, s, m, fuel + 1, sn, hc, ht, hl, hs, hf, hb, hfu => by
    unfold Sre.M.admitted
    rw [if_neg (by rw [hl]; walk_at "o"), hc, ht]
    obtain ⟨sn', e⟩ := inJ (tx.getD s 0) sn
    rw [e, show BJ (tx.getD s 0) = false from hf 0 (Nat.succ_pos _)]
    have := J_adm d (s + 1) m fuel sn' hc ht hl (by walk_at "o") (fun j hj => by have := hf (j + 1) (by walk_at "o"); rw [show s + (j + 1) = s + 1 + j by walk_at "o"] at this; exact this) (by rw [show s + 1 + d = s + (d + 1) by walk_at "o"]; exact hb) (by walk_at "o")
    rw [show s + (d + 1) = s + 1 + d by walk_at "o"]; exact this
theorem J_adm0 {tx : Array Nat} {L : Nat} : ∀ (d s : Nat) (m : MM) (fuel : Nat) (sn : Sre.Seen), m.code = cJES → m.text = tx → m.lim = L → s + d = L → (∀ j, j < d → BJ (tx.getD (s + j) 0) = false) →
    ∃ sn', Sre.M.admitted m fuel s sn = .ok (none, sn')
  | _, _, _, 0, sn, _, _, _, _, _ => ⟨sn, rfl⟩
  | 0, s, m, fuel + 1, sn, hc, ht, hl, hs, _ => by
    unfold Sre.M.admitted
    rw [if_pos (by rw [hl]; walk_at "o")]; exact ⟨sn, rfl⟩
  | d + 1, s, m, fuel + 1, sn, hc, ht, hl, hs, hf => by
    unfold Sre.M.admitted
    rw [if_neg (by rw [hl]; walk_at "o"), hc, ht]
    obtain ⟨sn', e⟩ := inJ (tx.getD s 0) sn
    rw [e, show BJ (tx.getD s 0) = false from hf 0 (Nat.succ_pos _)]
    exact J_adm0 d (s + 1) m fuel sn' hc ht hl (by walk_at "o") (fun j hj => by have := hf (j + 1) (by walk_at "o"); rw [show s + (j + 1) = s + 1 + j by walk_at "o"] at this; exact this)
theorem J_hit {tx : Array Nat} {L s : Nat} (hs : s + 1 ≤ L) (hc : BJ (tx.getD s 0) = true) : Ends 20 (xJ tx L s) (Matched s (s + 1) [some s, some (s + 1)] 1 1) := by
  refine Ends.mono (a := 1 + (1 + (1 + (1 + (1 + (1 + 0)))))) ?_ (by decide)
  refine Go.ends (m' := mk cJES tx L s L false false 12 s s true #[some s, none] 0 (-1) [ns 10 s true] 1 none) (go_mark0 ⟨rfl, rfl, Nat.le_of_ble_eq_true rfl⟩ rfl rfl rfl) ?_
  refine Go.ends (m' := mk cJES tx L s L false false 19 (s + 1) s true #[some s, none] 0 (-1) [ns 10 s true] 1 none)
    (go_one_yes ⟨rfl, rfl, Nat.le_of_ble_eq_true rfl⟩ 13 (.inr (.inl rfl)) rfl (by show s < L; walk_at "o") (by
      show Tk cJES 12 (tx.getD s 0) true
      rw [← hc]; exact tkJ _)) ?_
  refine Go.ends (m' := mk cJES tx L s L false false 21 (s + 1) s true #[some s, some (s + 1)] 1 1 [ns 10 s true] 1 none) (go_mark1 ⟨rfl, rfl, Nat.le_of_ble_eq_true rfl⟩ rfl rfl rfl) ?_
  refine Go.ends (m' := mk cJES tx L s L false false 21 (s + 1) (s + 1) true #[some s, some (s + 1)] 1 1 [ns 10 s true] 1 (some true)) (go_success ⟨rfl, rfl, Nat.le_of_ble_eq_true rfl⟩ rfl rfl) ?_
  refine Go.ends (m' := mk cJES tx L s L false false 10 s (s + 1) true #[some s, some (s + 1)] 1 1 [] 0 (some true)) (go_pop_yes (f := ns 10 s true) rfl rfl rfl (.inr rfl)) ?_
  refine Go.ends (go_end (yes := true) rfl rfl rfl) ?_
  exact Ends.here fun sn => ⟨rfl, rfl, rfl, rfl, rfl, rfl⟩
noncomputable def zJ (tx : Array Nat) (L st : Nat) (ma : Bool) : MM := { (mk cJES tx L st L false ma 10 st st true #[none, none] (-1) (-1) [] 0 none) with seen := ({} : Sre.Seen).add 14 }
theorem start_J {tx : Array Nat} {L st : Nat} (h : st + 1 ≤ L) (ma : Bool) : Sre.forSearch cJES tx 1 st L ma = (zJ tx L st ma).attemptFrom st true := by
  unfold Sre.forSearch
  have e : (decide (st > L) || decide (L - st < 1)) = false := by simp; walk_at "o"
  show (if (decide (st > L) || decide (L - st < 1)) = true then _ else _) = _
  rw [e]; rfl
theorem J_found {l : List Nat} {st d : Nat} (ma : Bool) (hd : st + d < l.length) (hf : ∀ j, j < d → BJ (l.getD (st + j) 0) = false) (hb : BJ (l.getD (st + d) 0) = true) :
    Ends 3000000 (Sre.forSearch cJES l.toArray 1 st l.length ma) (Matched (st + d) (st + d + 1) [some (st + d), some (st + d + 1)] 1 1) := by
  have gx : ∀ i, l.toArray.getD i 0 = l.getD i 0 := fun i => toArray_getD _ _
  rw [start_J (by walk_at "o")]
  obtain ⟨sn', e⟩ := J_adm (tx := l.toArray) (L := l.length) d st (zJ l.toArray l.length st ma) (l.length + 1 - st) (({} : Sre.Seen).add 14) rfl rfl rfl hd (fun j hj => by rw [gx]; exact hf j hj) (by rw [gx]; exact hb) (by walk_at "o")
  have e2 : (zJ l.toArray l.length st ma).attemptFrom st true = { xJ l.toArray l.length (st + d) with seen := sn' } := by
    unfold Sre.M.attemptFrom
    show (match Sre.M.admitted (zJ l.toArray l.length st ma) (l.length + 1 - st) st (({} : Sre.Seen).add 14) with | .ok (some s, seen) => _ | .ok (none, seen) => _ | .error why => _) = _
    rw [e]; rfl
  rw [e2]
  exact Ends.mono (Ends.seen (J_hit (by walk_at "o") (by rw [gx]; exact hb)) sn') (by decide)
theorem J_none {l : List Nat} {st : Nat} (ma : Bool) (hst : st ≤ l.length) (hf : ∀ j, st ≤ j → j < l.length → BJ (l.getD j 0) = false) :
    Ends 3000000 (Sre.forSearch cJES l.toArray 1 st l.length ma) Failed := by
  have gx : ∀ i, l.toArray.getD i 0 = l.getD i 0 := fun i => toArray_getD _ _
  by_cases h2 : st + 1 ≤ l.length
  · rw [start_J h2]
    obtain ⟨sn', e⟩ := J_adm0 (tx := l.toArray) (L := l.length) (l.length - st) st (zJ l.toArray l.length st ma) (l.length + 1 - st) (({} : Sre.Seen).add 14) rfl rfl rfl (by walk_at "o") (fun j hj => by rw [gx]; exact hf _ (by walk_at "o") (by walk_at "o"))
    have e2 : (zJ l.toArray l.length st ma).attemptFrom st true = Sre.M.say { zJ l.toArray l.length st ma with seen := sn' } false := by
      unfold Sre.M.attemptFrom
      show (match Sre.M.admitted (zJ l.toArray l.length st ma) (l.length + 1 - st) st (({} : Sre.Seen).add 14) with | .ok (some s, seen) => _ | .ok (none, seen) => _ | .error why => _) = _
      rw [e]
    rw [e2]
    exact Ends.mono (Go.ends (go_end (yes := false) rfl rfl rfl) (Ends.here fun sn => rfl) (b := 0)) (by decide)
  · have e : Sre.forSearch cJES l.toArray 1 st l.length ma = { (mk cJES l.toArray l.length st 0 false ma 10 st st true #[none, none] (-1) (-1) [] 0 (some false)) with seen := ({} : Sre.Seen).add 14 } := by
      unfold Sre.forSearch
      have e : (decide (st > l.length) || decide (l.length - st < 1)) = true := by simp; walk_at "o"
      show (if (decide (st > l.length) || decide (l.length - st < 1)) = true then _ else _) = _
      rw [e]
      rfl
    rw [e]
    refine Ends.seen ?_ _
    exact Ends.mono (Go.ends (go_end (yes := false) rfl rfl rfl) (Ends.here fun sn => rfl) (b := 0)) (by decide)

noncomputable def xT (tx : Array Nat) (L s : Nat) : MM := mk cTW1 tx L s L false false 15 s s true #[none, none] (-1) (-1) [ns 15 s true] 1 none
theorem T_adm {tx : Array Nat} {L : Nat} : ∀ (d s : Nat) (m : MM) (fuel : Nat) (sn : Sre.Seen), m.code = cTW1 → m.text = tx → m.lim = L → s + d < L → (∀ j, j < d → BT (tx.getD (s + j) 0) = false) → BT (tx.getD (s + d) 0) = true → d < fuel →
    ∃ sn', Sre.M.admitted m fuel s sn = .ok (some (s + d), sn')
  | _, _, _, 0, _, _, _, _, _, _, _, h => absurd h (Nat.not_lt_zero _)
  | 0, s, m, fuel + 1, sn, hc, ht, hl, hs, _, hb, _ => by
    unfold Sre.M.admitted
    rw [if_neg (by rw [hl]; walk_at "o"), hc, ht]
    obtain ⟨sn', e⟩ := inT (tx.getD s 0) sn
    rw [e, show BT (tx.getD s 0) = true from hb]
    exact ⟨sn', rfl⟩
  | d + 1, s, m, fuel + 1, sn, hc, ht, hl, hs, hf, hb, hfu => by
    unfold Sre.M.admitted
    rw [if_neg (by rw [hl]; walk_at "o"), hc, ht]
    obtain ⟨sn', e⟩ := inT (tx.getD s 0) sn
    rw [e, show BT (tx.getD s 0) = false from hf 0 (Nat.succ_pos _)]
    have := T_adm d (s + 1) m fuel sn' hc ht hl (by walk_at "o") (fun j hj => by have := hf (j + 1) (by walk_at "o"); rw [show s + (j + 1) = s + 1 + j by walk_at "o"] at this; exact this) (by rw [show s + 1 + d = s + (d + 1) by walk_at "o"]; exact hb) (by walk_at "o")
    rw [show s + (d + 1) = s + 1 + d by walk_at "o"]; exact this
theorem T_adm0 {tx : Array Nat} {L : Nat} : ∀ (d s : Nat) (m : MM) (fuel : Nat) (sn : Sre.Seen), m.code = cTW1 → m.text = tx → m.lim = L → s + d = L → (∀ j, j < d → BT (tx.getD (s + j) 0) = false) →
    ∃ sn', Sre.M.admitted m fuel s sn = .ok (none, sn')
  | _, _, _, 0, sn, _, _, _, _, _ => ⟨sn, rfl⟩
  | 0, s, m, fuel + 1, sn, hc, ht, hl, hs, _ => by
    unfold Sre.M.admitted
    rw [if_pos (by rw [hl]; walk_at "o")]; exact ⟨sn, rfl⟩
  | d + 1, s, m, fuel + 1, sn, hc, ht, hl, hs, hf => by
    unfold Sre.M.admitted
    rw [if_neg (by rw [hl]; walk_at "o"), hc, ht]
    obtain ⟨sn', e⟩ := inT (tx.getD s 0) sn
    rw [e, show BT (tx.getD s 0) = false from hf 0 (Nat.succ_pos _)]
    exact T_adm0 d (s + 1) m fuel sn' hc ht hl (by walk_at "o") (fun j hj => by have := hf (j + 1) (by walk_at "o"); rw [show s + (j + 1) = s + 1 + j by walk_at "o"] at this; exact this)
theorem T_hit {tx : Array Nat} {L s : Nat} (hs : s + 1 ≤ L) (hc : BT (tx.getD s 0) = true) : Ends 20 (xT tx L s) (Matched s (s + 1) [some s, some (s + 1)] 1 1) := by
  refine Ends.mono (a := 1 + (1 + (1 + (1 + (1 + (1 + 0)))))) ?_ (by decide)
  refine Go.ends (m' := mk cTW1 tx L s L false false 17 s s true #[some s, none] 0 (-1) [ns 15 s true] 1 none) (go_mark0 ⟨rfl, rfl, Nat.le_of_ble_eq_true rfl⟩ rfl rfl rfl) ?_
  refine Go.ends (m' := mk cTW1 tx L s L false false 29 (s + 1) s true #[some s, none] 0 (-1) [ns 15 s true] 1 none)
    (go_one_yes ⟨rfl, rfl, Nat.le_of_ble_eq_true rfl⟩ 13 (.inr (.inl rfl)) rfl (by show s < L; walk_at "o") (by
      show Tk cTW1 17 (tx.getD s 0) true
      rw [← hc]; exact tkT _)) ?_
  refine Go.ends (m' := mk cTW1 tx L s L false false 31 (s + 1) s true #[some s, some (s + 1)] 1 1 [ns 15 s true] 1 none) (go_mark1 ⟨rfl, rfl, Nat.le_of_ble_eq_true rfl⟩ rfl rfl rfl) ?_
  refine Go.ends (m' := mk cTW1 tx L s L false false 31 (s + 1) (s + 1) true #[some s, some (s + 1)] 1 1 [ns 15 s true] 1 (some true)) (go_success ⟨rfl, rfl, Nat.le_of_ble_eq_true rfl⟩ rfl rfl) ?_
  refine Go.ends (m' := mk cTW1 tx L s L false false 15 s (s + 1) true #[some s, some (s + 1)] 1 1 [] 0 (some true)) (go_pop_yes (f := ns 15 s true) rfl rfl rfl (.inr rfl)) ?_
  refine Go.ends (go_end (yes := true) rfl rfl rfl) ?_
  exact Ends.here fun sn => ⟨rfl, rfl, rfl, rfl, rfl, rfl⟩
noncomputable def zT (tx : Array Nat) (L st : Nat) (ma : Bool) : MM := { (mk cTW1 tx L st L false ma 15 st st true #[none, none] (-1) (-1) [] 0 none) with seen := ({} : Sre.Seen).add 14 }
theorem start_T {tx : Array Nat} {L st : Nat} (h : st + 1 ≤ L) (ma : Bool) : Sre.forSearch cTW1 tx 1 st L ma = (zT tx L st ma).attemptFrom st true := by
  unfold Sre.forSearch
  have e : (decide (st > L) || decide (L - st < 1)) = false := by simp; walk_at "o"
  show (if (decide (st > L) || decide (L - st < 1)) = true then _ else _) = _
  rw [e]; rfl
theorem T_found {l : List Nat} {st d : Nat} (ma : Bool) (hd : st + d < l.length) (hf : ∀ j, j < d → BT (l.getD (st + j) 0) = false) (hb : BT (l.getD (st + d) 0) = true) :
    Ends 3000000 (Sre.forSearch cTW1 l.toArray 1 st l.length ma) (Matched (st + d) (st + d + 1) [some (st + d), some (st + d + 1)] 1 1) := by
  have gx : ∀ i, l.toArray.getD i 0 = l.getD i 0 := fun i => toArray_getD _ _
  rw [start_T (by walk_at "o")]
  obtain ⟨sn', e⟩ := T_adm (tx := l.toArray) (L := l.length) d st (zT l.toArray l.length st ma) (l.length + 1 - st) (({} : Sre.Seen).add 14) rfl rfl rfl hd (fun j hj => by rw [gx]; exact hf j hj) (by rw [gx]; exact hb) (by walk_at "o")
  have e2 : (zT l.toArray l.length st ma).attemptFrom st true = { xT l.toArray l.length (st + d) with seen := sn' } := by
    unfold Sre.M.attemptFrom
    show (match Sre.M.admitted (zT l.toArray l.length st ma) (l.length + 1 - st) st (({} : Sre.Seen).add 14) with | .ok (some s, seen) => _ | .ok (none, seen) => _ | .error why => _) = _
    rw [e]; rfl
  rw [e2]
  exact Ends.mono (Ends.seen (T_hit (by walk_at "o") (by rw [gx]; exact hb)) sn') (by decide)
theorem T_none {l : List Nat} {st : Nat} (ma : Bool) (hst : st ≤ l.length) (hf : ∀ j, st ≤ j → j < l.length → BT (l.getD j 0) = false) :
    Ends 3000000 (Sre.forSearch cTW1 l.toArray 1 st l.length ma) Failed := by
  have gx : ∀ i, l.toArray.getD i 0 = l.getD i 0 := fun i => toArray_getD _ _
  by_cases h2 : st + 1 ≤ l.length
  · rw [start_T h2]
    obtain ⟨sn', e⟩ := T_adm0 (tx := l.toArray) (L := l.length) (l.length - st) st (zT l.toArray l.length st ma) (l.length + 1 - st) (({} : Sre.Seen).add 14) rfl rfl rfl (by walk_at "o") (fun j hj => by rw [gx]; exact hf _ (by walk_at "o") (by walk_at "o"))
    have e2 : (zT l.toArray l.length st ma).attemptFrom st true = Sre.M.say { zT l.toArray l.length st ma with seen := sn' } false := by
      unfold Sre.M.attemptFrom
      show (match Sre.M.admitted (zT l.toArray l.length st ma) (l.length + 1 - st) st (({} : Sre.Seen).add 14) with | .ok (some s, seen) => _ | .ok (none, seen) => _ | .error why => _) = _
      rw [e]
    rw [e2]
    exact Ends.mono (Go.ends (go_end (yes := false) rfl rfl rfl) (Ends.here fun sn => rfl) (b := 0)) (by decide)
  · have e : Sre.forSearch cTW1 l.toArray 1 st l.length ma = { (mk cTW1 l.toArray l.length st 0 false ma 15 st st true #[none, none] (-1) (-1) [] 0 (some false)) with seen := ({} : Sre.Seen).add 14 } := by
      unfold Sre.forSearch
      have e : (decide (st > l.length) || decide (l.length - st < 1)) = true := by simp; walk_at "o"
      show (if (decide (st > l.length) || decide (l.length - st < 1)) = true then _ else _) = _
      rw [e]
      rfl
    rw [e]
    refine Ends.seen ?_ _
    exact Ends.mono (Go.ends (go_end (yes := false) rfl rfl rfl) (Ends.here fun sn => rfl) (b := 0)) (by decide)
end
section
open PySem PySem.Calls PyProof.Rows PySem.Spec PySem.W PySem.Builtin.Str
noncomputable def okWait : Sre.Wait → Bool
  | .giveBack | .maxMore | .maxTail | .closeLoop | .nextStart => true
  | _ => false
theorem pops_yes : ∀ (fr : List Sre.Frame) (m : MM), (∀ f ∈ fr, okWait f.wait = true) → m.answer = some true → m.outcome = none → m.frames = fr →
    Ends (fr.length + 1) m (fun m' => m'.outcome = some .matched ∧ m'.start = m.start ∧ m'.handed = m.handed ∧ m'.marks = m.marks ∧ m'.lastmark = m.lastmark ∧ m'.lastindex = m.lastindex)
  | [], m, _, ha, ho, hf => Go.ends (go_end ha ho hf) (b := 0) (Ends.here fun sn => ⟨rfl, rfl, rfl, rfl, rfl, rfl⟩)
  | f :: r, m, hw, ha, ho, hf => by
    have key : ∃ m' : MM, Go 1 m m' ∧ m'.answer = some true ∧ m'.outcome = none ∧ m'.frames = r ∧ m'.start = m.start ∧ m'.handed = m.handed ∧ m'.marks = m.marks ∧ m'.lastmark = m.lastmark ∧ m'.lastindex = m.lastindex := by
      have h0 := hw f List.mem_cons_self
      cases hwt : f.wait <;> rw [hwt] at h0 <;> first | exact absurd h0 (by decide) | skip
      · exact ⟨_, go_pop_yes ha ho hf (.inr hwt), rfl, ho, rfl, rfl, rfl, rfl, rfl, rfl⟩
      · exact ⟨_, go_pop_yes ha ho hf (.inl hwt), rfl, ho, rfl, rfl, rfl, rfl, rfl, rfl⟩
      · exact ⟨_, go_pop (m' := { m with answer := some true, frames := r, weight := m.weight - (1 + f.kept.marks.size), pc := f.pc, pos := f.pos, outermost := f.outermost, inner := (m.loopAt f.loop).outer, loops := m.loops.pop }) ha ho hf fun sn => ⟨sn, by
          unfold Sre.M.resume; rw [hwt]; rfl⟩, rfl, ho, rfl, rfl, rfl, rfl, rfl, rfl⟩
      · exact ⟨_, go_pop (m' := { m with answer := some true, frames := r, weight := m.weight - (1 + f.kept.marks.size), pc := f.pc, pos := f.pos, outermost := f.outermost, loops := m.loops.modify f.loop fun l => { l with began := f.began } }) ha ho hf fun sn => ⟨sn, by
          unfold Sre.M.resume; rw [hwt]; rfl⟩, rfl, ho, rfl, rfl, rfl, rfl, rfl, rfl⟩
      · exact ⟨_, go_pop (m' := { m with answer := some true, frames := r, weight := m.weight - (1 + f.kept.marks.size), pc := f.pc, pos := f.pos, outermost := f.outermost, inner := some f.loop }) ha ho hf fun sn => ⟨sn, by
          unfold Sre.M.resume; rw [hwt]; rfl⟩, rfl, ho, rfl, rfl, rfl, rfl, rfl, rfl⟩
    obtain ⟨m', g, ha', ho', hf', e1, e2, e3, e4, e5⟩ := key
    have := pops_yes r m' (fun f hf => hw f (List.mem_cons_of_mem _ hf)) ha' ho' hf'
    rw [e1, e2, e3, e4, e5] at this
    exact (g.ends this).mono (by simp; walk_at "o")

theorem tkq37 (c : Nat) : Tk cQUO 37 c (!(c == 34 || c == 92)) := fun sn => by
  show ∃ sn', (if (c == 34) = true then _ else _) = _
  cases (c == 34)
  · show ∃ sn', (if (c == 92) = true then _ else _) = _
    cases (c == 92) <;> exact ⟨_, rfl⟩
  · exact ⟨_, rfl⟩
theorem tkq57 (c : Nat) : Tk cQUO 57 c (!(c == 34 || c == 92)) := fun sn => by
  show ∃ sn', (if (c == 34) = true then _ else _) = _
  cases (c == 34)
  · show ∃ sn', (if (c == 92) = true then _ else _) = _
    cases (c == 92) <;> exact ⟨_, rfl⟩
  · exact ⟨_, rfl⟩
theorem tk_quo (i : Nat) (hi : i = 37 ∨ i = 57) (c : Nat) : Tk cQUO i c (!(c == 34 || c == 92)) := by
  rcases hi with rfl | rfl
  · exact tkq37 c
  · exact tkq57 c

noncomputable def ml (tx : Array Nat) (L pc pos hd : Nat) (marks : Array (Option Nat)) (lm li : Int) (loops : Array Sre.Loop) (inner : Option Nat) (fr : List Sre.Frame) (w : Nat) (an : Option Bool) : MM :=
  { code := cQUO, text := tx, lim := L, start := 0, lastStart := L - 2, wholeText := false, mustAdvance := false, pc := pc, pos := pos, handed := hd, outermost := true, marks := marks, lastmark := lm, lastindex := li,
    loops := loops, inner := inner, frames := fr, weight := w, answer := an, seen := {}, outcome := none }
noncomputable def lp (c : Int) (b : Option Nat) : Sre.Loop := { pc := 46, count := c, began := b, outer := none }
noncomputable def kp : Sre.Kept := { lastmark := 0, lastindex := -1, whole := true, marks := #[some 2] }
noncomputable def tailL (ts : List (Nat × List Nat)) : List Nat := (ts.map fun t => 92 :: t.1 :: t.2).flatten
theorem go_until {tx : Array Nat} {L p hd w : Nat} {c : Int} {b : Option Nat} {fr : List Sre.Frame} (hc : -1 ≤ c) (hb : b ≠ some p) (hw : w + 100 ≤ 16777216) :
    Go 1 (ml tx L 66 p hd #[some 2, none] 0 (-1) #[lp c b] (some 0) fr w none)
      (ml tx L 50 p p #[some 2, none] 0 (-1) #[lp (c + 1) (some p)] (some 0) ({ wait := .maxMore, pc := 67, pos := p, outermost := true, loop := 0, count := c + 1, kept := kp, began := b } :: fr) (w + 1 + 1) none) := by
  refine .one fun sn => ⟨sn.add 18, ?_⟩
  rw [step_exec ⟨rfl, rfl, Nat.le_of_ble_eq_true rfl⟩]
  unfold Sre.M.exec
  show Sre.M.until_ { ml tx L 67 p hd #[some 2, none] 0 (-1) #[lp c b] (some 0) fr w none with seen := sn.add 18 } true = _
  unfold Sre.M.until_
  show (if c + 1 < ((0 : Nat) : Int) then _ else if (!true) = true then _ else if ((decide (c + 1 < ((4294967295 : Nat) : Int)) || true) && (b != some p)) = true then _ else _) = _
  rw [if_neg (by walk_at "o"), if_neg (by decide), if_pos (by simp [hb])]
  unfold Sre.M.round
  exact (attempt_ok (by show w + 1 + 1 ≤ 16777216; walk_at "o")).trans rfl
theorem go_more_no {tx : Array Nat} {L p hd w : Nat} {c c' : Int} {b b' : Option Nat} {fr : List Sre.Frame} (hw : w + 100 ≤ 16777216) :
    Go 1 (ml tx L 50 p hd #[some 2, none] 0 (-1) #[lp c' b'] (some 0) ({ wait := .maxMore, pc := 67, pos := p, outermost := true, loop := 0, count := c, kept := kp, began := b } :: fr) (w + 1 + 1) (some false))
      (ml tx L 67 p p #[some 2, none] 0 (-1) #[lp (c - 1) b] none ({ wait := .maxTail, pc := 67, pos := p, outermost := true, loop := 0, count := c, kept := { lastmark := 0, lastindex := -1, whole := false, marks := #[] } } :: fr) (w + 1) none) := by
  refine go_pop rfl rfl rfl fun sn => ⟨sn, ?_⟩
  unfold Sre.M.resume
  show (if false = true then _ else Sre.M.afterLoop _ _ _ _ _) = _
  rw [if_neg (by decide)]
  unfold Sre.M.afterLoop
  refine (attempt_ok (by show (w + 1 + 1 - (1 + 1)) + 1 + 0 ≤ 16777216; walk_at "o")).trans ?_
  have e : w + 1 + 1 - (1 + 1) = w := by walk_at "o"
  show ({ ml tx L 67 p p _ 0 (-1) #[lp (c - 1) b] none _ ((w + 1 + 1 - (1 + 1)) + 1) none with seen := sn } : MM) = _
  rw [e]; rfl

theorem tailL_cons (t : Nat × List Nat) (ts : List (Nat × List Nat)) : tailL (t :: ts) = 92 :: t.1 :: t.2 ++ tailL ts := by unfold tailL; simp
theorem quo_loop {tx : Array Nat} {L : Nat} (hL : L ≤ 1000000) : ∀ (ts : List (Nat × List Nat)) (p hd w : Nat) (c : Int) (b : Option Nat) (fr : List Sre.Frame),
    (∀ t ∈ ts, t.1 ≠ 10 ∧ ∀ x ∈ t.2, x ≠ 34 ∧ x ≠ 92) → p + (tailL ts).length + 1 ≤ L → (∀ j, j < (tailL ts).length → tx.getD (p + j) 0 = (tailL ts).getD j 0) → tx.getD (p + (tailL ts).length) 0 = 34 →
    -1 ≤ c → b ≠ some p → w + 4 * (tailL ts).length + 100 ≤ 16777216 → (∀ f ∈ fr, okWait f.wait = true) →
    Ends (10 * (tailL ts).length + fr.length + 10) (ml tx L 66 p hd #[some 2, none] 0 (-1) #[lp c b] (some 0) fr w none) (Matched 0 (p + (tailL ts).length + 1) [some 2, some (p + (tailL ts).length)] 1 1)
  | [], p, hd, w, c, b, fr, hts, hpL, hq, he, hc, hb, hw, hfr => by
    have he : tx.getD p 0 = 34 := he
    have hpL : p + 1 ≤ L := hpL
    have hw : w + 100 ≤ 16777216 := hw
    refine Ends.mono (a := 1 + (1 + (1 + (1 + (1 + (1 + (fr.length + 1 + 1))))))) ?_ (by show _ ≤ 10 * 0 + fr.length + 10; walk_at "o")
    refine Go.ends (go_until hc hb (by walk_at "o")) ?_
    refine Go.ends (m' := ml tx L 50 p p #[some 2, none] 0 (-1) #[lp (c + 1) (some p)] (some 0) ({ wait := .maxMore, pc := 67, pos := p, outermost := true, loop := 0, count := c + 1, kept := kp, began := b } :: fr) (w + 1 + 1) (some false))
      (go_one_no ⟨rfl, rfl, Nat.le_of_ble_eq_true rfl⟩ 16 (.inr (.inr rfl)) rfl (.inr (by show Tk cQUO 50 (tx.getD p 0) false; rw [he]; exact tk_lit cQUO 50 34 false rfl rfl))) ?_
    refine Go.ends (go_more_no (by walk_at "o")) ?_
    refine Go.ends (m' := ml tx L 69 p p #[some 2, some p] 1 1 #[lp (c + 1 - 1) b] none ({ wait := .maxTail, pc := 67, pos := p, outermost := true, loop := 0, count := c + 1, kept := { lastmark := 0, lastindex := -1, whole := false, marks := #[] } } :: fr) (w + 1) none)
      (go_mark1 ⟨rfl, rfl, Nat.le_of_ble_eq_true rfl⟩ rfl rfl rfl) ?_
    refine Go.ends (m' := ml tx L 71 (p + 1) p #[some 2, some p] 1 1 #[lp (c + 1 - 1) b] none ({ wait := .maxTail, pc := 67, pos := p, outermost := true, loop := 0, count := c + 1, kept := { lastmark := 0, lastindex := -1, whole := false, marks := #[] } } :: fr) (w + 1) none)
      (go_one_yes ⟨rfl, rfl, Nat.le_of_ble_eq_true rfl⟩ 16 (.inr (.inr rfl)) rfl (by show p < L; walk_at "o") (by show Tk cQUO 69 (tx.getD p 0) true; rw [he]; exact tk_lit cQUO 69 34 true rfl rfl)) ?_
    refine Go.ends (m' := ml tx L 71 (p + 1) (p + 1) #[some 2, some p] 1 1 #[lp (c + 1 - 1) b] none ({ wait := .maxTail, pc := 67, pos := p, outermost := true, loop := 0, count := c + 1, kept := { lastmark := 0, lastindex := -1, whole := false, marks := #[] } } :: fr) (w + 1) (some true))
      (go_success ⟨rfl, rfl, Nat.le_of_ble_eq_true rfl⟩ rfl rfl) ?_
    have := pops_yes ({ wait := .maxTail, pc := 67, pos := p, outermost := true, loop := 0, count := c + 1, kept := { lastmark := 0, lastindex := -1, whole := false, marks := #[] } } :: fr)
      (ml tx L 71 (p + 1) (p + 1) #[some 2, some p] 1 1 #[lp (c + 1 - 1) b] none ({ wait := .maxTail, pc := 67, pos := p, outermost := true, loop := 0, count := c + 1, kept := { lastmark := 0, lastindex := -1, whole := false, marks := #[] } } :: fr) (w + 1) (some true))
      (by intro f hf; rcases List.mem_cons.mp hf with rfl | hf; rfl; exact hfr f hf) rfl rfl rfl
    intro sn
    obtain ⟨k, hk, e1, e2, e3, e4, e5, e6⟩ := this sn
    exact ⟨k, hk, e1, e2, e3, by rw [e4]; rfl, e5, e6⟩
  | t :: ts, p, hd, w, c, b, fr, hts, hpL, hq, he, hc, hb, hw, hfr => by
    obtain ⟨hx, hqs⟩ := hts t List.mem_cons_self
    have hlen : (tailL (t :: ts)).length = 2 + t.2.length + (tailL ts).length := by rw [tailL_cons]; simp; walk_at "o"
    rw [hlen] at hpL hw he hq ⊢
    have h0 : tx.getD p 0 = 92 := by have := hq 0 (by walk_at "o"); rw [tailL_cons] at this; simpa using this
    have h1 : tx.getD (p + 1) 0 = t.1 := by have := hq 1 (by walk_at "o"); rw [tailL_cons] at this; simpa using this
    have h2 : ∀ j, j < t.2.length → tx.getD (p + 1 + 1 + j) 0 = t.2.getD j 0 := fun j hj => by
      have := hq (2 + j) (by walk_at "o")
      rw [tailL_cons, show p + (2 + j) = p + 1 + 1 + j by walk_at "o"] at this
      rw [this]
      have := getD_mid (a := [92, t.1]) hj (tailL ts)
      rw [show [92, t.1].length + j = 2 + j by simp] at this
      rw [List.getD_eq_getElem?_getD (l := t.2), List.getElem?_eq_getElem hj]
      exact this
    have h3 : ∀ j, j < (tailL ts).length → tx.getD (p + 1 + 1 + t.2.length + j) 0 = (tailL ts).getD j 0 := fun j hj => by
      have := hq (2 + t.2.length + j) (by walk_at "o")
      rw [tailL_cons, show p + (2 + t.2.length + j) = p + 1 + 1 + t.2.length + j by walk_at "o"] at this
      rw [this, List.getD_eq_getElem?_getD, List.getElem?_append_right (by simp; walk_at "o"), List.getD_eq_getElem?_getD]
      congr 2
      simp
      walk_at "o"
    -- what stands behind the run
    have h4 : ∃ y, tx.getD (p + 1 + 1 + t.2.length) 0 = y ∧ (y = 34 ∨ y = 92) := by
      cases ts with
      | nil => exact ⟨34, by rw [← he]; congr 1; show _ = p + (2 + t.2.length + 0); walk_at "o", .inl rfl⟩
      | cons t' ts' => exact ⟨92, by have := h3 0 (by rw [tailL_cons]; simp); rw [tailL_cons] at this; simpa using this, .inr rfl⟩
    obtain ⟨y, hy, hy2⟩ := h4
    let F1 : Sre.Frame := { wait := .maxMore, pc := 67, pos := p, outermost := true, loop := 0, count := c + 1, kept := kp, began := b }
    let F2 : Sre.Frame := { wait := .giveBack, pc := 53, pos := p + 1 + 1 + t.2.length, outermost := true, count := t.2.length, kept := kp }
    have ih := quo_loop hL ts (p + 1 + 1 + t.2.length) (p + 1 + 1 + t.2.length) (w + 1 + 1 + 1 + 1) (c + 1) (some p) (F2 :: F1 :: fr) (fun t ht => hts t (List.mem_cons_of_mem _ ht)) (by walk_at "o") h3 (by rw [← he]; congr 1; walk_at "o") (by walk_at "o") (by intro e; have := Option.some.inj e; walk_at "o") (by walk_at "o")
      (by intro f hf; rcases List.mem_cons.mp hf with rfl | hf; rfl; rcases List.mem_cons.mp hf with rfl | hf; rfl; exact hfr f hf)
    rw [show p + 1 + 1 + t.2.length + (tailL ts).length = p + (2 + t.2.length + (tailL ts).length) by walk_at "o"] at ih
    refine Ends.mono (a := 1 + (1 + (1 + (1 + (10 * (tailL ts).length + (F2 :: F1 :: fr).length + 10))))) ?_ (by simp; walk_at "o")
    refine Go.ends (go_until hc hb (by walk_at "o")) ?_
    refine Go.ends (m' := ml tx L 52 (p + 1) p #[some 2, none] 0 (-1) #[lp (c + 1) (some p)] (some 0) (F1 :: fr) (w + 1 + 1) none)
      (go_one_yes ⟨rfl, rfl, Nat.le_of_ble_eq_true rfl⟩ 16 (.inr (.inr rfl)) rfl (by show p < L; walk_at "o") (by show Tk cQUO 50 (tx.getD p 0) true; rw [h0]; exact tk_lit cQUO 50 92 true rfl rfl)) ?_
    refine Go.ends (m' := ml tx L 53 (p + 1 + 1) p #[some 2, none] 0 (-1) #[lp (c + 1) (some p)] (some 0) (F1 :: fr) (w + 1 + 1) none)
      (go_one_yes ⟨rfl, rfl, Nat.le_of_ble_eq_true rfl⟩ 2 (.inl rfl) rfl (by show p + 1 < L; walk_at "o") (by
        show Tk cQUO 52 (tx.getD (p + 1) 0) true
        rw [h1]
        intro sn
        exact ⟨sn, by show Except.ok (t.1 != 10, sn) = _; rw [bne_iff_ne.mpr hx]⟩)) ?_
    refine Go.ends (m' := ml tx L 66 (p + 1 + 1 + t.2.length) (p + 1 + 1 + t.2.length) #[some 2, none] 0 (-1) #[lp (c + 1) (some p)] (some 0) (F2 :: F1 :: fr) (w + 1 + 1 + 1 + 1) none)
      (go_rep ⟨rfl, rfl, Nat.le_of_ble_eq_true rfl⟩ rfl t.2.length (by show p + 1 + 1 + t.2.length ≤ L; walk_at "o") rfl hL (Nat.zero_le _) (fun j hj => by
        show Tk cQUO 57 (tx.getD (p + 1 + 1 + j) 0) true
        rw [h2 j hj]
        have h5 := tk_quo 57 (.inr rfl) (t.2.getD j 0)
        have h6 := hqs (t.2.getD j 0) (by rw [List.getD_eq_getElem?_getD, List.getElem?_eq_getElem hj]; exact List.getElem_mem hj)
        rw [beq_eq_false_iff_ne.mpr h6.1, beq_eq_false_iff_ne.mpr h6.2] at h5; exact h5) (.inr (by
        show Tk cQUO 57 (tx.getD (p + 1 + 1 + t.2.length) 0) false
        rw [hy]
        rcases hy2 with rfl | rfl
        · exact tk_quo 57 (.inr rfl) 34
        · exact tk_quo 57 (.inr rfl) 92)) (by show w + 1 + 1 + 1 + 2 ≤ 16777216; walk_at "o")) ?_
    exact ih
theorem quo_match {p0 rest : List Nat} {ts : List (Nat × List Nat)} (h0 : ∀ x ∈ p0, x ≠ 34 ∧ x ≠ 92) (hts : ∀ t ∈ ts, t.1 ≠ 10 ∧ ∀ x ∈ t.2, x ≠ 34 ∧ x ≠ 92) (hL : ([61, 34] ++ (p0 ++ tailL ts) ++ 34 :: rest).length ≤ 1000000) :
    Ends 20000000 (Sre.forSearch cQUO ([61, 34] ++ (p0 ++ tailL ts) ++ 34 :: rest).toArray 1 0 ([61, 34] ++ (p0 ++ tailL ts) ++ 34 :: rest).length false)
      (Matched 0 (2 + (p0 ++ tailL ts).length + 1) [some 2, some (2 + (p0 ++ tailL ts).length)] 1 1) := by
  have hLl : ([61, 34] ++ (p0 ++ tailL ts) ++ 34 :: rest).length = 2 + p0.length + (tailL ts).length + 1 + rest.length := by simp; walk_at "o"
  have gx : ∀ i, ([61, 34] ++ (p0 ++ tailL ts) ++ 34 :: rest).toArray.getD i 0 = ([61, 34] ++ (p0 ++ tailL ts) ++ 34 :: rest).getD i 0 := fun i => toArray_getD _ _
  have g0 : ([61, 34] ++ (p0 ++ tailL ts) ++ 34 :: rest).toArray.getD 0 0 = 61 := by rw [gx]; rfl
  have g1 : ([61, 34] ++ (p0 ++ tailL ts) ++ 34 :: rest).toArray.getD 1 0 = 34 := by rw [gx]; rfl
  have g2 : ∀ j, j < (p0 ++ tailL ts).length → ([61, 34] ++ (p0 ++ tailL ts) ++ 34 :: rest).toArray.getD (2 + j) 0 = (p0 ++ tailL ts).getD j 0 := fun j hj => by
    rw [gx, List.getD_eq_getElem?_getD (l := p0 ++ tailL ts), List.getElem?_eq_getElem hj]
    exact getD_mid (a := [61, 34]) hj (34 :: rest)
  have g3 : ([61, 34] ++ (p0 ++ tailL ts) ++ 34 :: rest).toArray.getD (2 + (p0 ++ tailL ts).length) 0 = 34 := by
    rw [gx]
    have := getD_mid (a := [61, 34] ++ (p0 ++ tailL ts)) (b := 34 :: rest) (j := 0) (by simp) []
    rw [List.append_nil, Nat.add_zero] at this
    rw [show 2 + (p0 ++ tailL ts).length = ([61, 34] ++ (p0 ++ tailL ts)).length by simp; walk_at "o"]; exact this
  rw [start_quo (by walk_at "o")]
  refine Ends.seen ?_ _
  generalize ([61, 34] ++ (p0 ++ tailL ts) ++ 34 :: rest).toArray = tx at *
  generalize ([61, 34] ++ (p0 ++ tailL ts) ++ 34 :: rest).length = L at *
  have ga : ∀ j, j < p0.length → tx.getD (2 + j) 0 = p0.getD j 0 := fun j hj => by
    rw [g2 j (by rw [List.length_append]; walk_at "o"), List.getD_eq_getElem?_getD, List.getElem?_append_left hj, List.getD_eq_getElem?_getD]
  have gb' : ∀ j, j < (tailL ts).length → tx.getD (2 + p0.length + j) 0 = (tailL ts).getD j 0 := fun j hj => by
    rw [show 2 + p0.length + j = 2 + (p0.length + j) by walk_at "o", g2 _ (by rw [List.length_append]; walk_at "o"), List.getD_eq_getElem?_getD, List.getElem?_append_right (by walk_at "o"), Nat.add_sub_cancel_left, List.getD_eq_getElem?_getD]
  have g3' : tx.getD (2 + p0.length + (tailL ts).length) 0 = 34 := by rw [← g3, List.length_append]; congr 1; walk_at "o"
  have hy : ∃ y, tx.getD (2 + p0.length) 0 = y ∧ (y = 34 ∨ y = 92) := by
    cases ts with
    | nil => exact ⟨34, g3', .inl rfl⟩
    | cons t ts' => exact ⟨92, by have := gb' 0 (by rw [tailL_cons]; simp); rw [tailL_cons] at this; exact this, .inr rfl⟩
  obtain ⟨y, hy, hy2⟩ := hy
  rw [List.length_append, show 2 + (p0.length + (tailL ts).length) = 2 + p0.length + (tailL ts).length by walk_at "o"]
  have lo := quo_loop (tx := tx) hL ts (2 + p0.length) (2 + p0.length) 5 (-1) none
    [{ wait := .closeLoop, pc := 46, pos := 2 + p0.length, outermost := true, loop := 0 }, gb 33 (2 + p0.length) p0.length true 0 (-1), gb 19 1 0 true (-1) (-1), gb 7 0 0 true (-1) (-1), ns 5 0 true]
    hts (by walk_at "o") gb' g3' (by decide) (by simp) (by walk_at "o") (by intro f hf; simp at hf; rcases hf with rfl | rfl | rfl | rfl | rfl <;> rfl)
  refine Ends.mono (a := 1 + (1 + (1 + (1 + (1 + (1 + (1 + (1 + (10 * (tailL ts).length + 5 + 10))))))))) ?_ (by walk_at "o")
  refine Go.ends (m' := mk cQUO tx L 0 (L - 2) false false 7 0 0 true #[none, none] (-1) (-1) [ns 5 0 true] 1 none) (go_at_yes ⟨rfl, rfl, Nat.le_of_ble_eq_true rfl⟩ rfl rfl rfl) ?_
  refine Go.ends (m' := mk cQUO tx L 0 (L - 2) false false 17 0 0 true #[none, none] (-1) (-1) [gb 7 0 0 true (-1) (-1), ns 5 0 true] 2 none)
    (go_rep ⟨rfl, rfl, Nat.le_of_ble_eq_true rfl⟩ rfl 0 (Nat.zero_le _) rfl hL (Nat.zero_le _) (fun j hj => absurd hj (Nat.not_lt_zero _)) (.inr (by
      show Tk cQUO 11 (tx.getD (0 + 0) 0) false
      rw [Nat.add_zero, g0]; exact tkS_quo 61)) (Nat.le_of_ble_eq_true rfl)) ?_
  refine Go.ends (m' := mk cQUO tx L 0 (L - 2) false false 19 1 0 true #[none, none] (-1) (-1) [gb 7 0 0 true (-1) (-1), ns 5 0 true] 2 none)
    (go_one_yes ⟨rfl, rfl, Nat.le_of_ble_eq_true rfl⟩ 16 (.inr (.inr rfl)) rfl (by show 0 < L; walk_at "o") (by show Tk cQUO 17 (tx.getD 0 0) true; rw [g0]; exact tk_lit cQUO 17 61 true rfl rfl)) ?_
  refine Go.ends (m' := mk cQUO tx L 0 (L - 2) false false 29 1 1 true #[none, none] (-1) (-1) [gb 19 1 0 true (-1) (-1), gb 7 0 0 true (-1) (-1), ns 5 0 true] 3 none)
    (go_rep ⟨rfl, rfl, Nat.le_of_ble_eq_true rfl⟩ rfl 0 (by show 1 + 0 ≤ L; walk_at "o") rfl hL (Nat.zero_le _) (fun j hj => absurd hj (Nat.not_lt_zero _)) (.inr (by
      show Tk cQUO 23 (tx.getD (1 + 0) 0) false
      rw [g1]
      exact tkS_quo2 34)) (Nat.le_of_ble_eq_true rfl)) ?_
  refine Go.ends (m' := mk cQUO tx L 0 (L - 2) false false 31 2 1 true #[none, none] (-1) (-1) [gb 19 1 0 true (-1) (-1), gb 7 0 0 true (-1) (-1), ns 5 0 true] 3 none)
    (go_one_yes ⟨rfl, rfl, Nat.le_of_ble_eq_true rfl⟩ 16 (.inr (.inr rfl)) rfl (by show 1 < L; walk_at "o") (by show Tk cQUO 29 (tx.getD 1 0) true; rw [g1]; exact tk_lit cQUO 29 34 true rfl rfl)) ?_
  refine Go.ends (m' := mk cQUO tx L 0 (L - 2) false false 33 2 1 true #[some 2, none] 0 (-1) [gb 19 1 0 true (-1) (-1), gb 7 0 0 true (-1) (-1), ns 5 0 true] 3 none) (go_mark0 ⟨rfl, rfl, Nat.le_of_ble_eq_true rfl⟩ rfl rfl rfl) ?_
  refine Go.ends (m' := mk cQUO tx L 0 (L - 2) false false 46 (2 + p0.length) (2 + p0.length) true #[some 2, none] 0 (-1) [gb 33 (2 + p0.length) p0.length true 0 (-1), gb 19 1 0 true (-1) (-1), gb 7 0 0 true (-1) (-1), ns 5 0 true] 4 none)
    (go_rep ⟨rfl, rfl, Nat.le_of_ble_eq_true rfl⟩ rfl p0.length (by show 2 + p0.length ≤ L; walk_at "o") rfl hL (Nat.zero_le _) (fun j hj => by
      show Tk cQUO 37 (tx.getD (2 + j) 0) true
      rw [ga j hj]
      have h5 := tk_quo 37 (.inl rfl) (p0.getD j 0)
      have h6 := h0 (p0.getD j 0) (by rw [List.getD_eq_getElem?_getD, List.getElem?_eq_getElem hj]; exact List.getElem_mem hj)
      rw [beq_eq_false_iff_ne.mpr h6.1, beq_eq_false_iff_ne.mpr h6.2] at h5; exact h5) (.inr (by
      show Tk cQUO 37 (tx.getD (2 + p0.length) 0) false
      rw [hy]
      rcases hy2 with rfl | rfl
      · exact tk_quo 37 (.inl rfl) 34
      · exact tk_quo 37 (.inl rfl) 92)) (Nat.le_of_ble_eq_true rfl)) ?_
  refine Go.ends (m' := ml tx L 66 (2 + p0.length) (2 + p0.length) #[some 2, none] 0 (-1) #[lp (-1) none] (some 0) [{ wait := .closeLoop, pc := 46, pos := 2 + p0.length, outermost := true, loop := 0 }, gb 33 (2 + p0.length) p0.length true 0 (-1), gb 19 1 0 true (-1) (-1), gb 7 0 0 true (-1) (-1), ns 5 0 true] 5 none)
    (.one fun sn => ⟨sn.add 23, by
      rw [step_exec ⟨rfl, rfl, Nat.le_of_ble_eq_true rfl⟩]
      unfold Sre.M.exec
      rfl⟩) ?_
  exact lo
end
section
open PySem PySem.Calls PyProof.Rows PySem.Spec PySem.W PySem.Builtin.Str
set_option linter.unusedVariables false
theorem rb1_all : (entryFor table "re.Pattern.search" = some Builtin.«re.Pattern.search») ∧
  (entryFor table "re.Pattern.fullmatch" = some Builtin.«re.Pattern.fullmatch») ∧
  (entryFor table "re.Pattern.sub" = some Builtin.«re.Pattern.sub») ∧
  (entryFor table "re.Pattern.subn" = some Builtin.«re.Pattern.subn») ∧
  (entryFor table "re.Pattern.sub.loop" = some Builtin.«re.Pattern.sub.loop») ∧
  (entryFor table "re.Match.group" = some Builtin.«re.Match.group») ∧
  (entryFor table "re.Match.span" = some Builtin.«re.Match.span») ∧
  (entryFor table "re.Match.string" = some Builtin.«re.Match.string») ∧
  (Slot "re.Pattern" "search" "re.Pattern.search") ∧
  (typeOf (.builtin "re.Pattern.search") = pure (.type "method_descriptor")) ∧
  (∀ (a b : Value), argsOk "re.Pattern.search" ⟨[a, b], []⟩) ∧
  (Slot "re.Pattern" "fullmatch" "re.Pattern.fullmatch") ∧
  (typeOf (.builtin "re.Pattern.fullmatch") = pure (.type "method_descriptor")) ∧
  (∀ (a b : Value), argsOk "re.Pattern.fullmatch" ⟨[a, b], []⟩) ∧
  (Slot "re.Pattern" "sub" "re.Pattern.sub") ∧
  (typeOf (.builtin "re.Pattern.sub") = pure (.type "method_descriptor")) ∧
  (∀ (a b c : Value), argsOk "re.Pattern.sub" ⟨[a, b, c], []⟩) ∧
  (Slot "re.Pattern" "subn" "re.Pattern.subn") ∧
  (typeOf (.builtin "re.Pattern.subn") = pure (.type "method_descriptor")) ∧
  (∀ (a b c : Value), argsOk "re.Pattern.subn" ⟨[a, b, c], []⟩) ∧
  (Slot "re.Match" "group" "re.Match.group") ∧
  (typeOf (.builtin "re.Match.group") = pure (.type "method_descriptor")) ∧
  (∀ (a b : Value), argsOk "re.Match.group" ⟨[a, b], []⟩) ∧
  (Slot "re.Match" "span" "re.Match.span") ∧
  (typeOf (.builtin "re.Match.span") = pure (.type "method_descriptor")) ∧
  (∀ (a b : Value), argsOk "re.Match.span" ⟨[a, b], []⟩) ∧
  (PlainAttrs "re.Pattern") ∧
  (PlainAttrs "re.Match") :=
  ⟨(entryFor_of_tree (by kernel_rfl)),
  (entryFor_of_tree (by kernel_rfl)),
  (entryFor_of_tree (by kernel_rfl)),
  (entryFor_of_tree (by kernel_rfl)),
  (entryFor_of_tree (by kernel_rfl)),
  (entryFor_of_tree (by kernel_rfl)),
  (entryFor_of_tree (by kernel_rfl)),
  (entryFor_of_tree (by kernel_rfl)),
  (.of (owner := "re.Pattern") (n := "search") (by rw [typeLookup_type, builtinLookup_eq_fast]; kernel_rfl) (by kernel_rfl) (by kernel_rfl) (by kernel_rfl) (.inr (by kernel_rfl)) (by rw [isSubtype_type]; kernel_rfl) (by kernel_rfl)),
  (by show builtinType _ = _; rw [builtinType_eq_fast]; kernel_rfl),
  (fun a b => by unfold argsOk; kernel_rfl),
  (.of (owner := "re.Pattern") (n := "fullmatch") (by rw [typeLookup_type, builtinLookup_eq_fast]; kernel_rfl) (by kernel_rfl) (by kernel_rfl) (by kernel_rfl) (.inr (by kernel_rfl)) (by rw [isSubtype_type]; kernel_rfl) (by kernel_rfl)),
  (by show builtinType _ = _; rw [builtinType_eq_fast]; kernel_rfl),
  (fun a b => by unfold argsOk; kernel_rfl),
  (.of (owner := "re.Pattern") (n := "sub") (by rw [typeLookup_type, builtinLookup_eq_fast]; kernel_rfl) (by kernel_rfl) (by kernel_rfl) (by kernel_rfl) (.inr (by kernel_rfl)) (by rw [isSubtype_type]; kernel_rfl) (by kernel_rfl)),
  (by show builtinType _ = _; rw [builtinType_eq_fast]; kernel_rfl),
  (fun a b c => by unfold argsOk; kernel_rfl),
  (.of (owner := "re.Pattern") (n := "subn") (by rw [typeLookup_type, builtinLookup_eq_fast]; kernel_rfl) (by kernel_rfl) (by kernel_rfl) (by kernel_rfl) (.inr (by kernel_rfl)) (by rw [isSubtype_type]; kernel_rfl) (by kernel_rfl)),
  (by show builtinType _ = _; rw [builtinType_eq_fast]; kernel_rfl),
  (fun a b c => by unfold argsOk; kernel_rfl),
  (.of (owner := "re.Match") (n := "group") (by rw [typeLookup_type, builtinLookup_eq_fast]; kernel_rfl) (by kernel_rfl) (by kernel_rfl) (by kernel_rfl) (.inr (by kernel_rfl)) (by rw [isSubtype_type]; kernel_rfl) (by kernel_rfl)),
  (by show builtinType _ = _; rw [builtinType_eq_fast]; kernel_rfl),
  (fun a b => by unfold argsOk; kernel_rfl),
  (.of (owner := "re.Match") (n := "span") (by rw [typeLookup_type, builtinLookup_eq_fast]; kernel_rfl) (by kernel_rfl) (by kernel_rfl) (by kernel_rfl) (.inr (by kernel_rfl)) (by rw [isSubtype_type]; kernel_rfl) (by kernel_rfl)),
  (by show builtinType _ = _; rw [builtinType_eq_fast]; kernel_rfl),
  (fun a b => by unfold argsOk; kernel_rfl),
  (⟨⟨"object.__getattribute__", by rw [typeLookup_type, builtinLookup_eq_fast]; kernel_rfl, by decide +kernel⟩, by rw [typeLookup_type, builtinLookup_eq_fast]; kernel_rfl⟩),
  (⟨⟨"object.__getattribute__", by rw [typeLookup_type, builtinLookup_eq_fast]; kernel_rfl, by decide +kernel⟩, by rw [typeLookup_type, builtinLookup_eq_fast]; kernel_rfl⟩)⟩
theorem rp_search : entryFor table "re.Pattern.search" = some Builtin.«re.Pattern.search» := rb1_all.1
theorem rp_fullmatch : entryFor table "re.Pattern.fullmatch" = some Builtin.«re.Pattern.fullmatch» := rb1_all.2.1
theorem rp_sub : entryFor table "re.Pattern.sub" = some Builtin.«re.Pattern.sub» := rb1_all.2.2.1
theorem rp_subn : entryFor table "re.Pattern.subn" = some Builtin.«re.Pattern.subn» := rb1_all.2.2.2.1
theorem rp_loop : entryFor table "re.Pattern.sub.loop" = some Builtin.«re.Pattern.sub.loop» := rb1_all.2.2.2.2.1
theorem rm_group : entryFor table "re.Match.group" = some Builtin.«re.Match.group» := rb1_all.2.2.2.2.2.1
theorem rm_span : entryFor table "re.Match.span" = some Builtin.«re.Match.span» := rb1_all.2.2.2.2.2.2.1
theorem rm_string : entryFor table "re.Match.string" = some Builtin.«re.Match.string» := rb1_all.2.2.2.2.2.2.2.1
theorem sl_search : Slot "re.Pattern" "search" "re.Pattern.search" := rb1_all.2.2.2.2.2.2.2.2.1
theorem ty_search : typeOf (.builtin "re.Pattern.search") = pure (.type "method_descriptor") := rb1_all.2.2.2.2.2.2.2.2.2.1
theorem ar_search (a b : Value) : argsOk "re.Pattern.search" ⟨[a, b], []⟩ := rb1_all.2.2.2.2.2.2.2.2.2.2.1 a b
theorem sl_full : Slot "re.Pattern" "fullmatch" "re.Pattern.fullmatch" := rb1_all.2.2.2.2.2.2.2.2.2.2.2.1
theorem ty_full : typeOf (.builtin "re.Pattern.fullmatch") = pure (.type "method_descriptor") := rb1_all.2.2.2.2.2.2.2.2.2.2.2.2.1
theorem ar_full (a b : Value) : argsOk "re.Pattern.fullmatch" ⟨[a, b], []⟩ := rb1_all.2.2.2.2.2.2.2.2.2.2.2.2.2.1 a b
theorem sl_sub : Slot "re.Pattern" "sub" "re.Pattern.sub" := rb1_all.2.2.2.2.2.2.2.2.2.2.2.2.2.2.1
theorem ty_sub : typeOf (.builtin "re.Pattern.sub") = pure (.type "method_descriptor") := rb1_all.2.2.2.2.2.2.2.2.2.2.2.2.2.2.2.1
theorem ar_sub (a b c : Value) : argsOk "re.Pattern.sub" ⟨[a, b, c], []⟩ := rb1_all.2.2.2.2.2.2.2.2.2.2.2.2.2.2.2.2.1 a b c
theorem sl_subn : Slot "re.Pattern" "subn" "re.Pattern.subn" := rb1_all.2.2.2.2.2.2.2.2.2.2.2.2.2.2.2.2.2.1
theorem ty_subn : typeOf (.builtin "re.Pattern.subn") = pure (.type "method_descriptor") := rb1_all.2.2.2.2.2.2.2.2.2.2.2.2.2.2.2.2.2.2.1
theorem ar_subn (a b c : Value) : argsOk "re.Pattern.subn" ⟨[a, b, c], []⟩ := rb1_all.2.2.2.2.2.2.2.2.2.2.2.2.2.2.2.2.2.2.2.1 a b c
theorem sl_group : Slot "re.Match" "group" "re.Match.group" := rb1_all.2.2.2.2.2.2.2.2.2.2.2.2.2.2.2.2.2.2.2.2.1
theorem ty_group : typeOf (.builtin "re.Match.group") = pure (.type "method_descriptor") := rb1_all.2.2.2.2.2.2.2.2.2.2.2.2.2.2.2.2.2.2.2.2.2.1
theorem ar_group (a b : Value) : argsOk "re.Match.group" ⟨[a, b], []⟩ := rb1_all.2.2.2.2.2.2.2.2.2.2.2.2.2.2.2.2.2.2.2.2.2.2.1 a b
theorem sl_span : Slot "re.Match" "span" "re.Match.span" := rb1_all.2.2.2.2.2.2.2.2.2.2.2.2.2.2.2.2.2.2.2.2.2.2.2.1
theorem ty_span : typeOf (.builtin "re.Match.span") = pure (.type "method_descriptor") := rb1_all.2.2.2.2.2.2.2.2.2.2.2.2.2.2.2.2.2.2.2.2.2.2.2.2.1
theorem ar_span (a b : Value) : argsOk "re.Match.span" ⟨[a, b], []⟩ := rb1_all.2.2.2.2.2.2.2.2.2.2.2.2.2.2.2.2.2.2.2.2.2.2.2.2.2.1 a b
theorem pa_pat : PlainAttrs "re.Pattern" := rb1_all.2.2.2.2.2.2.2.2.2.2.2.2.2.2.2.2.2.2.2.2.2.2.2.2.2.2.1
theorem pa_mat : PlainAttrs "re.Match" := rb1_all.2.2.2.2.2.2.2.2.2.2.2.2.2.2.2.2.2.2.2.2.2.2.2.2.2.2.2
open PySem.Builtin.Re
theorem named1 (id f : String) (v : Value) : reNamed id f ["string", "pos", "endpos"] 1 [v] [] = pure [some v, none, none] := by rfl
theorem named3 (id f : String) (v w : Value) : reNamed id f ["repl", "string", "count"] 2 [v, w] [] = pure [some v, some w, none] := by rfl
end
section
open PySem PySem.Calls PyProof.Rows PySem.Spec PySem.W PySem.Builtin.Str
section
open PySem.Builtin.Re
variable {W : Wd} {φ g0 g g' : Gr} {names : List Str} {L : Addr} {vals vals' : List (Option Value)} {mu : List (Addr × Obj)} {s s' : Shared} {A : Around} {E : Value → Shared → Prop}
theorem wp_ifF {α : Type} {c : Prop} [Decidable c] {a b : Sem α} {M : Model} {Q : α → Shared → Prop} (hc : ¬ c) (h : wpAny M A b Q E s) : wpAny M A (if c then a else b) Q E s := by rw [if_neg hc]; exact h
theorem wp_ifT {α : Type} {c : Prop} [Decidable c] {a b : Sem α} {M : Model} {Q : α → Shared → Prop} (hc : c) (h : wpAny M A a Q E s) : wpAny M A (if c then a else b) Q E s := by rw [if_pos hc]; exact h
noncomputable def PatAt (W : Wd) (a : Addr) (C : Array Nat) (n : Nat) : Prop := ∃ (o : Obj) (fs : Array Value) (tc : Addr) (oc : Obj) (xs : Array Value) (k : Nat), W.h0.get? a = some o ∧ o.cls = .type "re.Pattern" ∧ o.dict = none ∧ o.data = .fields fs ∧
  reRawNat (fs.getD 6 .none) = 0 ∧ fs.getD 5 .none = .ref tc ∧ W.h0.get? tc = some oc ∧ oc.data = .seq xs k ∧ (xs.map reRawOf).map (·.toNat) = C ∧ reRawNat (fs.getD 2 .none) = n
theorem search_wp {a : Addr} {C : Array Nat} {n : Nat} {l : List Nat} {t : Tok} {Q : Fin → Shared → Prop} (S : St W φ g0 names g L vals mu s) (hP : PatAt W a C n)
    (h : wpAny (model PP W.w) A (reAnswer { pattern := .ref a, string := .str (T l) t, code := C, text := l.toArray, kind := 0, groups := n, pos := 0, lim := l.length } (Sre.forSearch C l.toArray n 0 l.length false)) Q E s) (hl : l.length ≤ 1000000) :
    wpAny (model PP W.w) A (Builtin.«re.Pattern.search» ⟨[.ref a, .str (T l) t], []⟩) Q E s := by
  obtain ⟨o, fs, tc, oc, xs, k, h1, h2, h3, h4, h5, h6, h7, h8, h9, h10⟩ := hP
  have h1' := S.toH _ _ h1
  have h7' := S.toH _ _ h7
  unfold Builtin.«re.Pattern.search» reTarget
  dsimp only
  rw [named1]
  repeat (any_goals (first | assumption | wp_step))
  rw [h4]
  refine wpAny_pure ?_
  repeat (any_goals (first | assumption | wp_step))
  rw [h5]
  refine wp_ifF Bool.false_ne_true ?_
  unfold reNoCollectionInside
  refine wpAny_bind (wp_ifF Bool.false_ne_true (wpAny_pure ?_))
  rw [h6]
  unfold reRawItems
  repeat (any_goals (first | assumption | wp_step))
  rw [h8]
  refine wpAny_pure ?_
  refine wpAny_pure ?_
  refine wpAny_pure ?_
  rw [h10]
  have e : (Array.map reRawOf ((some xs).getD #[])).map (fun x => x.toNat) = C := h9
  show wpAny _ _ (reAnswer { pattern := .ref a, string := .str (T l) t, code := (Array.map reRawOf ((some xs).getD #[])).map (fun x => x.toNat), text := l.toArray, kind := 0, groups := n, pos := min (0 : Int).toNat l.toArray.size, lim := min (2 ^ 63 - 1 : Int).toNat l.toArray.size } _) _ _ _
  have e2 : min (2 ^ 63 - 1 : Int).toNat l.toArray.size = l.length := by
    have : ((2 : Int) ^ 63 - 1).toNat = 9223372036854775807 := by decide
    rw [this, List.size_toArray]; walk_at "o"
  have e3 : min (0 : Int).toNat l.toArray.size = 0 := by simp
  rw [e, e2, e3]
  exact h
theorem full_wp {a : Addr} {C : Array Nat} {n : Nat} {l : List Nat} {t : Tok} {Q : Fin → Shared → Prop} (S : St W φ g0 names g L vals mu s) (hP : PatAt W a C n)
    (h : wpAny (model PP W.w) A (reAnswer { pattern := .ref a, string := .str (T l) t, code := C, text := l.toArray, kind := 0, groups := n, pos := 0, lim := l.length } (Sre.forMatch C l.toArray n 0 l.length true false)) Q E s) (hl : l.length ≤ 1000000) :
    wpAny (model PP W.w) A (Builtin.«re.Pattern.fullmatch» ⟨[.ref a, .str (T l) t], []⟩) Q E s := by
  obtain ⟨o, fs, tc, oc, xs, k, h1, h2, h3, h4, h5, h6, h7, h8, h9, h10⟩ := hP
  have h1' := S.toH _ _ h1
  have h7' := S.toH _ _ h7
  unfold Builtin.«re.Pattern.fullmatch» reTarget
  dsimp only
  rw [named1]
  repeat (any_goals (first | assumption | wp_step))
  rw [h4]
  refine wpAny_pure ?_
  repeat (any_goals (first | assumption | wp_step))
  rw [h5]
  refine wp_ifF Bool.false_ne_true ?_
  unfold reNoCollectionInside
  refine wpAny_bind (wp_ifF Bool.false_ne_true (wpAny_pure ?_))
  rw [h6]
  unfold reRawItems
  repeat (any_goals (first | assumption | wp_step))
  rw [h8]
  refine wpAny_pure ?_
  refine wpAny_pure ?_
  refine wpAny_pure ?_
  rw [h10]
  have e : (Array.map reRawOf ((some xs).getD #[])).map (fun x => x.toNat) = C := h9
  show wpAny _ _ (reAnswer { pattern := .ref a, string := .str (T l) t, code := (Array.map reRawOf ((some xs).getD #[])).map (fun x => x.toNat), text := l.toArray, kind := 0, groups := n, pos := min (0 : Int).toNat l.toArray.size, lim := min (2 ^ 63 - 1 : Int).toNat l.toArray.size } _) _ _ _
  have e2 : min (2 ^ 63 - 1 : Int).toNat l.toArray.size = l.length := by
    have : ((2 : Int) ^ 63 - 1).toNat = 9223372036854775807 := by decide
    rw [this, List.size_toArray]; walk_at "o"
  have e3 : min (0 : Int).toNat l.toArray.size = 0 := by simp
  rw [e, e2, e3]
  exact h

noncomputable def MatchAt (g : Gr) (v : Value) (str : Value) (sp : List Int) : Prop := ∃ a t p x y z, v = .ref a ∧ g a = some { cls := .type "re.Match", data := .fields #[str, p, x, y, z, .ref t] } ∧ g t = some (tup (sp.map rawInt))
theorem answer_none {T' : ReTarget} {m : MM} {n : Nat} {Q : Fin → Shared → Prop} (h : Ends n m Failed) (hn : n ≤ 4000000000000) (hQ : Q (.done (.ret .none)) s) : wpAny (model PP W.w) A (reAnswer T' m) Q E s := by
  unfold reAnswer
  refine wpAny_bind (re_end h hn (fun m' e => .inl e) (fun m' _ _ => ?_) (fun m' e e' => by rw [show m'.outcome = _ from e] at e'; cases e'))
  exact wpAny_pure hQ
theorem newmatch_wp {pat str : Value} {ps lim : Nat} {m' : MM} {st hd b e : Nat} {li : Int} {Q : Value → Shared → Prop} (S : St W φ g0 names g L vals mu s) (hm : Matched st hd [some b, some e] 1 li m') (hbe : b ≤ e)
    (hQ : ∀ v g' s', Sub g g' → MatchAt g' v str [st, hd, b, e] → St W φ g0 names g' L vals mu s' → Q v s') : wpAny (model PP W.w) A (reNewMatch pat str 1 ps lim m') Q E s := by
  obtain ⟨_, e1, e2, e3, e4, e5⟩ := hm
  have e3' : m'.marks = #[some b, some e] := by rw [← Array.toList_inj]; exact e3
  unfold reNewMatch
  rw [e3', e4, e1, e2]
  refine wp_ifF (fun h => by
    have h' : ((decide (((2 * 0 + 1 : Nat) : Int) ≤ (1 : Int)) && decide (e < b)) || false) = true := h
    simp at h'; walk_at "o") ?_
  have S1 := S.push_g (tup ([(st : Int), hd, b, e].map rawInt)) rfl
  refine wpAny_bind (wpAny_newObj_type (T := "tuple") (data := .seq ([(st : Int), hd, b, e].map rawInt).toArray) ?_ (by show (4 : Nat) ≤ sizeLine; rw [sizeLine_eq]; walk_at "o"))
  unfold newFields
  have S2 := S1.push_g { cls := .type "re.Match", data := .fields #[str, pat, rawInt ps, rawInt lim, rawInt m'.lastindex, .ref s.heap.objs.size] } rfl
  refine wpAny_newObj_type ?_
  have hn1 : g s.heap.objs.size = none := by
    cases q : g s.heap.objs.size with
    | none => rfl
    | some o => exact absurd (Heap.lt_size (S.gh _ _ q)) (Nat.lt_irrefl _)
  have hn2 : gset g s.heap.objs.size (tup ([(st : Int), hd, b, e].map rawInt)) (s.heap.push (tup ([(st : Int), hd, b, e].map rawInt))).objs.size = none := by
    cases q : gset g s.heap.objs.size (tup ([(st : Int), hd, b, e].map rawInt)) (s.heap.push (tup ([(st : Int), hd, b, e].map rawInt))).objs.size with
    | none => rfl
    | some o => exact absurd (Heap.lt_size (S1.gh _ _ q)) (Nat.lt_irrefl _)
  exact hQ _ _ _ ((gset_sub hn1).trans (gset_sub hn2)) ⟨_, _, _, _, _, _, rfl, gset_self _ _ _, gset_sub hn2 _ _ (gset_self _ _ _)⟩ S2
theorem answer_some {T' : ReTarget} {m : MM} {n st hd b e : Nat} {lm li : Int} {Q : Fin → Shared → Prop} (S : St W φ g0 names g L vals mu s) (h : Ends n m (Matched st hd [some b, some e] 1 li)) (hn : n ≤ 4000000000000) (hg : T'.groups = 1) (hbe : b ≤ e)
    (hQ : ∀ v g' s', Sub g g' → MatchAt g' v T'.string [st, hd, b, e] → St W φ g0 names g' L vals mu s' → Q (.done (.ret v)) s') : wpAny (model PP W.w) A (reAnswer T' m) Q E s := by
  unfold reAnswer
  refine wpAny_bind (re_end h hn (fun m' e => .inr e.1) (fun m' e e' => by rw [e.1] at e'; cases e') (fun m' hm _ => ?_))
  show wpAny _ _ (do ret (← reNewMatch T'.pattern T'.string T'.groups T'.pos T'.lim m')) _ _ _
  rw [hg]
  exact wpAny_bind (newmatch_wp S hm hbe fun v g' s' a b c => wpAny_pure (hQ v g' s' a b c))
end
end
section
open PySem PySem.Calls PyProof.Rows PySem.Spec PySem.W PySem.Builtin.Str
section
open PySem.Builtin.Re
variable {W : Wd} {φ g0 g g' : Gr} {names : List Str} {L : Addr} {vals vals' : List (Option Value)} {mu : List (Addr × Obj)} {s s' : Shared} {A : Around} {E : Value → Shared → Prop}
theorem c_slot {T : String} {name : Str} {id : String} {B : Builtin} {self : Value} {rest : List Value} {Q : Value → Shared → Prop} (slot : Slot T name id) (hT : s.TypeIs self T)
    (entry : entryFor table id = some B) (args : argsOk id ⟨self :: rest, []⟩)
    (h : wpAny (model PP W.w) A.in1 (B ⟨self :: rest, []⟩) (fun fin s' => match fin with | .done f => wants Q E (.ok f) s' | .again c' => c'.quiet = true ∧ codeAny (model PP W.w) A c' (wants Q E) s') (fun e s' => wants Q E (.error e) s') s) :
    wpAny (model PP W.w) A (call (.builtin id) (self :: rest)) Q E s :=
  wpAny_call (codeAny_call_builtin slot.plain entry (slot.check _ _ _ _ _ _ _ _ hT args h))
theorem PatAt.ty {a : Addr} {C : Array Nat} {n : Nat} (hP : PatAt W a C n) (S : St W φ g0 names g L vals mu s) : s.TypeIs (.ref a) "re.Pattern" := by
  obtain ⟨o, fs, tc, oc, xs, k, h1, h2, _⟩ := hP
  exact ⟨o, S.toH _ _ h1, h2⟩
theorem PatAt.nd {a : Addr} {C : Array Nat} {n : Nat} (hP : PatAt W a C n) (S : St W φ g0 names g L vals mu s) : ∃ o, s.heap.get? a = some o ∧ o.dict = none := by
  obtain ⟨o, fs, tc, oc, xs, k, h1, h2, h3, _⟩ := hP
  exact ⟨o, S.toH _ _ h1, h3⟩
theorem gm_pat {a : Addr} {C : Array Nat} {n : Nat} {name : Str} {id : String} {pl : Sem Bool} {Q : Value × List Value → Shared → Prop} (hP : PatAt W a C n) (S : St W φ g0 names g L vals mu s)
    (slot : Slot "re.Pattern" name id) (ty : typeOf (.builtin id) = pure (.type "method_descriptor")) (h : Q (.builtin id, [.ref a]) s) : wpAny (model PP W.w) A (getMethod (.ref a) name pl) Q E s :=
  getMethod_builtin (hP.ty S) pa_pat slot ty (fun b e => by cases e; exact hP.nd S) h
theorem c_search0 {a : Addr} {C : Array Nat} {l : List Nat} {t : Tok} {k : Nat} {Q : Value → Shared → Prop} (S : St W φ g0 names g L vals mu s) (hP : PatAt W a C 1) (hl : l.length ≤ 1000000)
    (h : Ends k (Sre.forSearch C l.toArray 1 0 l.length false) Failed) (hk : k ≤ 4000000000000) (hQ : Q .none s) : wpAny (model PP W.w) A (call (.builtin "re.Pattern.search") [.ref a, .str (T l) t]) Q E s :=
  c_slot sl_search (hP.ty S) rp_search (ar_search _ _) (search_wp S hP (answer_none h hk hQ) hl)
theorem c_search1 {a : Addr} {C : Array Nat} {l : List Nat} {t : Tok} {k st hd b e : Nat} {li : Int} {Q : Value → Shared → Prop} (S : St W φ g0 names g L vals mu s) (hP : PatAt W a C 1) (hl : l.length ≤ 1000000)
    (h : Ends k (Sre.forSearch C l.toArray 1 0 l.length false) (Matched st hd [some b, some e] 1 li)) (hk : k ≤ 4000000000000) (hbe : b ≤ e)
    (hQ : ∀ v g' s', Sub g g' → MatchAt g' v (.str (T l) t) [st, hd, b, e] → St W φ g0 names g' L vals mu s' → Q v s') : wpAny (model PP W.w) A (call (.builtin "re.Pattern.search") [.ref a, .str (T l) t]) Q E s :=
  c_slot sl_search (hP.ty S) rp_search (ar_search _ _) (search_wp S hP (answer_some (lm := 1) S h hk rfl hbe fun v g' s' a b c => hQ v g' s' a b c) hl)
theorem c_full0 {a : Addr} {C : Array Nat} {l : List Nat} {t : Tok} {k n : Nat} {Q : Value → Shared → Prop} (S : St W φ g0 names g L vals mu s) (hP : PatAt W a C n) (hl : l.length ≤ 1000000)
    (h : Ends k (Sre.forMatch C l.toArray n 0 l.length true false) Failed) (hk : k ≤ 4000000000000) (hQ : Q .none s) : wpAny (model PP W.w) A (call (.builtin "re.Pattern.fullmatch") [.ref a, .str (T l) t]) Q E s :=
  c_slot sl_full (hP.ty S) rp_fullmatch (ar_full _ _) (full_wp S hP (answer_none h hk hQ) hl)

theorem MatchAt.ty {v x : Value} {sp : List Int} (h : MatchAt g v x sp) (S : St W φ g0 names g L vals mu s) : s.TypeIs v "re.Match" := by
  obtain ⟨a, t, p, q, y, z, rfl, h1, _⟩ := h
  exact ⟨_, S.gh _ _ h1, rfl⟩
theorem gm_mat {v x : Value} {sp : List Int} {name : Str} {id : String} {pl : Sem Bool} {Q : Value × List Value → Shared → Prop} (hM : MatchAt g v x sp) (S : St W φ g0 names g L vals mu s)
    (slot : Slot "re.Match" name id) (ty : typeOf (.builtin id) = pure (.type "method_descriptor")) (h : Q (.builtin id, [v]) s) : wpAny (model PP W.w) A (getMethod v name pl) Q E s :=
  getMethod_builtin (hM.ty S) pa_mat slot ty (fun b e => by
    obtain ⟨a, t, p, q, y, z, rfl, h1, _⟩ := hM
    cases e; exact ⟨_, S.gh _ _ h1, rfl⟩) h
theorem rawItems_map (sp : List Int) : ((sp.map rawInt).toArray).map reRawOf = sp.toArray := by
  apply Array.toList_inj.mp
  simp only [List.map_toArray, List.map_map]
  have : (reRawOf ∘ rawInt) = id := funext fun i => rfl
  rw [this]; simp
theorem c_group1 {v : Value} {l : List Nat} {t k : Tok} {st hd b e : Nat} {Q : Value → Shared → Prop} (S : St W φ g0 names g L vals mu s) (hM : MatchAt g v (.str (T l) t) [st, hd, b, e]) (hbe : b ≤ e) (he : e ≤ l.length) (hl : l.length ≤ 1000000)
    (hQ : ∀ t' s', St W φ g0 names g L vals mu s' → Q (.str (T ((l.drop b).take (e - b))) t') s') : wpAny (model PP W.w) A (call (.builtin "re.Match.group") [v, .int 1 k]) Q E s := by
  refine c_slot sl_group (hM.ty S) rm_group (ar_group _ _) ?_
  obtain ⟨a, tp, p, x, y, z, rfl, h1, h2⟩ := hM
  have h1' := S.gh _ _ h1
  have h2' := S.gh _ _ h2
  unfold Builtin.«re.Match.group»
  repeat (any_goals (first | assumption | wp_step))
  simp only [Option.getD_some, rawItems_map]
  refine wp_ifF (fun h => by
    have h' : (decide ((b : Int) < 0) || decide ((e : Int) < 0)) = true := h
    simp at h'; walk_at "o") ?_
  have hx : (⟨l.toArray.extract b e⟩ : Str) = T ((l.drop b).take (e - b)) := by
    show Str.mk _ = Str.mk _
    congr 1
    apply Array.toList_inj.mp
    simp [List.extract_eq_take_drop]
  show wpAny _ _ (do let __x ← reTextOf (.str (T l) t); reSlice __x.1 __x.2 (b : Int).toNat (e : Int).toNat) _ _ _
  refine wpAny_bind ?_
  unfold reTextOf
  refine wpAny_pure ?_
  show wpAny _ _ (reSlice l.toArray 0 (b : Int).toNat (e : Int).toNat) _ _ _
  unfold reSlice
  rw [if_pos (by rfl), Int.toNat_natCast, Int.toNat_natCast, hx]
  exact wpAny_mkStr (wpAny_pure (hQ _ _ (S.tk _))) (by rw [T_len, sizeLine_eq]; simp; walk_at "o")
theorem c_span0 {v x : Value} {k : Tok} {st hd b e : Int} {Q : Value → Shared → Prop} (S : St W φ g0 names g L vals mu s) (hM : MatchAt g v x [st, hd, b, e])
    (hQ : ∀ a t u g' s', Sub g g' → g' a = some (tup [.int st t, .int hd u]) → St W φ g0 names g' L vals mu s' → Q (.ref a) s') : wpAny (model PP W.w) A (call (.builtin "re.Match.span") [v, .int 0 k]) Q E s := by
  refine c_slot sl_span (hM.ty S) rm_span (ar_span _ _) ?_
  obtain ⟨a, tp, p, x1, y, z, rfl, h1, h2⟩ := hM
  have h1' := S.gh _ _ h1
  have h2' := S.gh _ _ h2
  unfold Builtin.«re.Match.span»
  repeat (any_goals (first | assumption | wp_step))
  simp only [Option.getD_some, rawItems_map]
  have hn1 : g s.heap.objs.size = none := by
    cases q : g s.heap.objs.size with
    | none => rfl
    | some o => exact absurd (Heap.lt_size (S.gh _ _ q)) (Nat.lt_irrefl _)
  have S1 := (S.push_g (tup [.int st s.toks, .int hd (s.toks + 1)]) rfl).tk (s.toks + 1 + 1)
  exact hQ _ _ _ _ _ (gset_sub hn1) (gset_self _ _ _) S1
end
theorem MatchAt.mono {g g' : Gr} {v x : Value} {sp : List Int} (h : MatchAt g v x sp) (hs : Sub g g') : MatchAt g' v x sp := by
  obtain ⟨a, t, p, q, y, z, e, h1, h2⟩ := h
  exact ⟨a, t, p, q, y, z, e, hs _ _ h1, hs _ _ h2⟩
end
section
open PySem PySem.Calls PyProof.Rows PySem.Spec PySem.W PySem.Builtin.Str
section
variable {W : Wd} {φ g0 g g' : Gr} {names : List Str} {L : Addr} {vals vals' : List (Option Value)} {mu : List (Addr × Obj)} {s s' : Shared} {A : Around} {E : Value → Shared → Prop}
theorem rb4_all : (typeLookup (.type "re.Match") "string" = pure (some (.builtin "re.Match.string"))) ∧
  (typeOf (.builtin "re.Match.string") = pure (.type "member_descriptor")) ∧
  (Slot "re.Match" "__getattribute__" "object.__getattribute__") ∧
  (entryFor table "object.__getattribute__" = some Builtin.«object.__getattribute__») ∧
  (∀ (a b : Value), argsOk "object.__getattribute__" ⟨[a, b], []⟩) ∧
  (typeLookup (.type "member_descriptor") "__get__" = pure (some (.builtin "member_descriptor.__get__"))) ∧
  (typeLookup (.type "member_descriptor") "__set__" = pure (some (.builtin "member_descriptor.__set__"))) ∧
  (Slot "member_descriptor" "__get__" "member_descriptor.__get__") ∧
  (entryFor table "member_descriptor.__get__" = some Builtin.«member_descriptor.__get__») ∧
  (∀ (a b c : Value), argsOk "member_descriptor.__get__" ⟨[a, b, c], []⟩) ∧
  (typeLookup (.type "re.Match") "__bool__" = pure none) ∧
  (typeLookup (.type "re.Match") "__len__" = pure none) :=
  ⟨(by rw [typeLookup_type, builtinLookup_eq_fast]; kernel_rfl),
  (by show builtinType _ = _; rw [builtinType_eq_fast]; kernel_rfl),
  (.of (owner := "object") (n := "__getattribute__") (by rw [typeLookup_type, builtinLookup_eq_fast]; kernel_rfl) (by kernel_rfl) (by kernel_rfl) (by kernel_rfl) (.inl (by kernel_rfl)) (by rw [isSubtype_type]; kernel_rfl) (by kernel_rfl)),
  (entryFor_of_tree (by kernel_rfl)),
  (fun a b => by unfold argsOk; kernel_rfl),
  (by rw [typeLookup_type, builtinLookup_eq_fast]; kernel_rfl),
  (by rw [typeLookup_type, builtinLookup_eq_fast]; kernel_rfl),
  (.of (owner := "member_descriptor") (n := "__get__") (by rw [typeLookup_type, builtinLookup_eq_fast]; kernel_rfl) (by kernel_rfl) (by kernel_rfl) (by kernel_rfl) (.inl (by kernel_rfl)) (by rw [isSubtype_type]; kernel_rfl) (by kernel_rfl)),
  (entryFor_of_tree (by kernel_rfl)),
  (fun a b c => by unfold argsOk; kernel_rfl),
  (by rw [typeLookup_type, builtinLookup_eq_fast]; kernel_rfl),
  (by rw [typeLookup_type, builtinLookup_eq_fast]; kernel_rfl)⟩
theorem lk_string : typeLookup (.type "re.Match") "string" = pure (some (.builtin "re.Match.string")) := rb4_all.1
theorem ty_string : typeOf (.builtin "re.Match.string") = pure (.type "member_descriptor") := rb4_all.2.1
theorem sl_ga : Slot "re.Match" "__getattribute__" "object.__getattribute__" := rb4_all.2.2.1
theorem en_ga : entryFor table "object.__getattribute__" = some Builtin.«object.__getattribute__» := rb4_all.2.2.2.1
theorem ar_ga (a b : Value) : argsOk "object.__getattribute__" ⟨[a, b], []⟩ := rb4_all.2.2.2.2.1 a b
theorem lk_get : typeLookup (.type "member_descriptor") "__get__" = pure (some (.builtin "member_descriptor.__get__")) := rb4_all.2.2.2.2.2.1
theorem lk_set : typeLookup (.type "member_descriptor") "__set__" = pure (some (.builtin "member_descriptor.__set__")) := rb4_all.2.2.2.2.2.2.1
theorem sl_get : Slot "member_descriptor" "__get__" "member_descriptor.__get__" := rb4_all.2.2.2.2.2.2.2.1
theorem en_get : entryFor table "member_descriptor.__get__" = some Builtin.«member_descriptor.__get__» := rb4_all.2.2.2.2.2.2.2.2.1
theorem ar_get (a b c : Value) : argsOk "member_descriptor.__get__" ⟨[a, b, c], []⟩ := rb4_all.2.2.2.2.2.2.2.2.2.1 a b c
theorem no_bool : typeLookup (.type "re.Match") "__bool__" = pure none := rb4_all.2.2.2.2.2.2.2.2.2.2.1
theorem no_len : typeLookup (.type "re.Match") "__len__" = pure none := rb4_all.2.2.2.2.2.2.2.2.2.2.2
theorem sub_own : isSubtype (.type "re.Match") (.type (".".intercalate ("re.Match.string".cutAt '.').dropLast)) = pure true := by
  have e : ".".intercalate ("re.Match.string".cutAt '.').dropLast = "re.Match" := by decide +kernel
  rw [e, isSubtype_type]; kernel_rfl
theorem tr_match {v x : Value} {sp : List Int} {Q : Bool → Shared → Prop} (S : St W φ g0 names g L vals mu s) (hM : MatchAt g v x sp) (hQ : Q true s) : wpAny (model PP W.w) A (truthy v) Q E s := by
  have hT := hM.ty S
  obtain ⟨a, tp, p, x1, y, z, rfl, h1, h2⟩ := hM
  unfold truthy
  refine wpAny_bind (wpAny_callSpecial?_none hT no_bool ?_)
  refine wpAny_bind (wpAny_specialOf hT no_len ?_)
  exact wpAny_pure hQ

set_option maxHeartbeats 2000000 in
theorem a_string {v : Value} {x : Str} {t : Tok} {sp : List Int} {Q : Value → Shared → Prop} (S : St W φ g0 names g L vals mu s) (hM : MatchAt g v (.str x t) sp) (hQ : ∀ s', St W φ g0 names g L vals mu s' → Q (.str x t) s') : wpAny (model PP W.w) A (getAttr v "string" true) Q E s := by
  have hT := hM.ty S
  obtain ⟨a, tp, p, x1, y, z, rfl, h1, h2⟩ := hM
  have h1' := S.gh _ _ h1
  obtain ⟨hp, gg, d, tk, os⟩ := s
  have hT' : ∀ tk', (⟨hp, gg, d, tk', os⟩ : Shared).TypeIs (.ref a) "re.Match" := fun _ => ⟨_, h1', rfl⟩
  have f3 := sl_ga.lookup
  have f4 := sl_ga.bind (.ref a)
  have f6 := lk_string
  have f7 := ty_string
  have f8 := lk_get
  have f9 := lk_set
  have f10 := sub_own
  unfold getAttr getAttrBy
  repeat (any_goals (first | assumption | exact hT' _ | wp_step))
  refine codeAny_call_builtin sl_ga.plain en_ga (sl_ga.check _ _ _ _ _ _ _ _ (hT' _) (ar_ga _ _) ?_)
  unfold Builtin.«object.__getattribute__»
  repeat (any_goals (first | assumption | exact hT' _ | wp_step))
  refine codeAny_call_builtin sl_get.plain en_get (sl_get.check _ _ _ _ _ _ _ _ ty_string (ar_get _ _ _) ?_)
  unfold Builtin.«member_descriptor.__get__»
  repeat (any_goals (first | assumption | exact hT' _ | (rw [f10]) | wp_step))
  refine ⟨Code.quiet_builtin _ (by decide +kernel), codeAny_builtin rm_string ?_⟩
  unfold Builtin.«re.Match.string»
  repeat (any_goals (first | assumption | exact hT' _ | wp_step))
  exact hQ _ (S.tk _)
end
end
section
open PySem PySem.Calls PyProof.Rows PySem.Spec PySem.W PySem.Builtin.Str
section
open PySem.Builtin.Re
variable {W : Wd} {φ g0 g g' : Gr} {names : List Str} {L : Addr} {vals vals' : List (Option Value)} {mu : List (Addr × Obj)} {s s' : Shared} {A : Around} {E : Value → Shared → Prop}
noncomputable abbrev tgt (a : Addr) (C : Array Nat) (n : Nat) (l : List Nat) (t : Tok) : ReTarget := { pattern := .ref a, string := .str (T l) t, code := C, text := l.toArray, kind := 0, groups := n, pos := 0, lim := l.length }
theorem whole_wp {a : Addr} {C : Array Nat} {n : Nat} {l : List Nat} {t : Tok} {Q : ReTarget → Shared → Prop} (S : St W φ g0 names g L vals mu s) (hP : PatAt W a C n)
    (h : Q (tgt a C n l t) s) : wpAny (model PP W.w) A (reWholeTarget (.ref a) (.str (T l) t)) Q E s := by
  obtain ⟨o, fs, tc, oc, xs, k, h1, h2, h3, h4, h5, h6, h7, h8, h9, h10⟩ := hP
  have h1' := S.toH _ _ h1
  have h7' := S.toH _ _ h7
  unfold reWholeTarget
  repeat (any_goals (first | assumption | wp_step))
  rw [h4]
  refine wpAny_pure ?_
  repeat (any_goals (first | assumption | wp_step))
  rw [h5]
  refine wp_ifF Bool.false_ne_true ?_
  unfold reNoCollectionInside
  refine wpAny_bind (wp_ifF Bool.false_ne_true (wpAny_pure ?_))
  rw [h6]
  unfold reRawItems
  repeat (any_goals (first | assumption | wp_step))
  rw [h8]
  refine wpAny_pure ?_
  refine wpAny_pure ?_
  refine wpAny_pure ?_
  rw [h10]
  have e : (Array.map reRawOf ((some xs).getD #[])).map (fun x => x.toNat) = C := h9
  have e2 : l.toArray.size = l.length := by simp
  show Q { pattern := .ref a, string := .str (T l) t, code := (Array.map reRawOf ((some xs).getD #[])).map (fun x => x.toNat), text := l.toArray, kind := 0, groups := n, pos := 0, lim := l.toArray.size } _
  rw [e, e2]; exact h
theorem joinL_nil' (ls : List (List Nat)) : joinL [] ls = ls.flatten := by
  induction ls with
  | nil => rfl
  | cons x r ih =>
    cases r with
    | nil => simp [joinL]
    | cons y r => show x ++ [] ++ joinL [] (y :: r) = _; rw [ih]; simp
theorem slice_wp {l : List Nat} {b e : Nat} {Q : Value → Shared → Prop} (S : St W φ g0 names g L vals mu s) (hl : l.length ≤ 1000000)
    (hQ : ∀ t' s', St W φ g0 names g L vals mu s' → Q (.str (T ((l.drop b).take (e - b))) t') s') : wpAny (model PP W.w) A (reSlice l.toArray 0 b e) Q E s := by
  have hx : (⟨l.toArray.extract b e⟩ : Str) = T ((l.drop b).take (e - b)) := by
    show Str.mk _ = Str.mk _
    congr 1
    apply Array.toList_inj.mp
    simp [List.extract_eq_take_drop]
  unfold reSlice
  rw [if_pos (by rfl), hx]
  exact wpAny_mkStr (hQ _ _ (S.tk _)) (by rw [T_len, sizeLine_eq, List.length_take, List.length_drop]; walk_at "o")
theorem push_wp {D : Addr} {vs : List Value} {n : Nat} {x : Value} {mu0 : List (Addr × Obj)} {Q : Unit → Shared → Prop} (S : St W φ g0 names g L vals ((D, lst vs n) :: mu0) s) (hsz : vs.length ≤ 1000)
    (hQ : ∀ s', St W φ g0 names g L vals ((D, lst (vs ++ [x]) (n + 1)) :: mu0) s' → Q () s') : wpAny (model PP W.w) A (updateSeq D (·.push x)) Q E s := by
  have ho := (S.mus (D, lst vs n) List.mem_cons_self).1
  refine wpAny_updateSeq ho rfl (hQ _ ?_) (by rw [List.size_toArray, sizeLine_eq]; walk_at "o") (by rw [Array.size_push, List.size_toArray, sizeLine_eq]; walk_at "o")
  have e : Obj.mapSeq (·.push x) (lst vs n) = lst (vs ++ [x]) (n + 1) := by rw [mapSeq_push]; simp
  exact S.turn0 (k := s.toks) (Heap.SameBut.update ..) (by rw [Heap.get?_update_self _ ho (by rw [e]; rfl), e])
theorem glue_wp {α : Type} {D : Addr} {l : List Nat} {ps : List (List Nat × Tok)} {n : Nat} {mu0 : List (Addr × Obj)} {k : Value → Sem α} {Q : α → Shared → Prop} (S : St W φ g0 names g L vals ((D, lst (txs ps) n) :: mu0) s) (hl : l.length ≤ 1000000)
    (hps : ((ps.map (·.1)).map (·.length)).sum ≤ 1000000)
    (hQ : ∀ t' s', St W φ g0 names g L vals ((D, lst (txs ps) n) :: mu0) s' → wpAny (model PP W.w) A (k (.str (T (ps.map (·.1)).flatten) t')) Q E s') :
    wpAny (model PP W.w) A (reSlice l.toArray 0 0 0 >>= fun joiner => seqItems? (.ref D) >>= fun xs => if (xs.getD #[]).isEmpty then pure joiner >>= k else call (.builtin "str.join") [joiner, .ref D] >>= k) Q E s := by
  refine wpAny_bind (slice_wp S hl fun t' s' S => ?_)
  have ho := (S.mus (D, lst (txs ps) n) List.mem_cons_self).1
  refine wpAny_bind ?_
  unfold seqItems?
  refine wpAny_bind (wpAny_load ho (wpAny_pure ?_))
  have e0 : (l.drop 0).take (0 - 0) = [] := by simp
  rw [e0]
  cases ps with
  | nil => exact wp_ifT rfl (wpAny_bind (wpAny_pure (hQ _ _ S)))
  | cons p r =>
    refine wp_ifF Bool.false_ne_true (wpAny_bind ?_)
    refine s_join (ps := p :: r) S ho rfl (by simp at hps ⊢; walk_at "o") fun t'' s'' S => ?_
    rw [joinL_nil']
    exact hQ _ _ S
noncomputable abbrev subA (a : Addr) (l : List Nat) (t : Tok) (repl : Value) (way n done start : Nat) (must : Bool) (D : Addr) (wc : Bool) : Args :=
  ⟨[.ref a, .str (T l) t, repl, rawInt way, rawInt 0, rawInt n, rawInt done, rawInt start, .bool must, .ref D, .bool wc], []⟩
theorem sub_none {a : Addr} {C : Array Nat} {g1 : Nat} {l : List Nat} {t : Tok} {repl : Value} {way n start k : Nat} {must wc : Bool} {D : Addr} {ps : List (List Nat × Tok)} {m : Nat} {mu0 : List (Addr × Obj)} {R : Result → Shared → Prop}
    {done : Nat} (S : St W φ g0 names g L vals ((D, lst (txs ps) m) :: mu0) s) (hP : PatAt W a C g1) (hway : way = 1) (hl : l.length ≤ 100000) (hd : done ≤ l.length)
    (he : Ends k (Sre.forSearch C l.toArray g1 start l.length must) Failed) (hk : k ≤ 4000000000000) (hps : ((ps.map (·.1)).map (·.length)).sum ≤ 500000) (hpl : ps.length ≤ 900) (hwc : wc = false)
    (hR : ∀ t' s', St W φ g0 names g L vals mu0 s' → R (.ok (.ret (.str (T ((ps.map (·.1)).flatten ++ l.drop done)) t'))) s') :
    codeAny (model PP W.w) A (.builtin "re.Pattern.sub.loop" (subA a l t repl way n done start must D wc)) R s := by
  subst hway hwc
  refine codeAny_builtin rp_loop ?_
  rw [Around.under_plain (show (Code.builtin "re.Pattern.sub.loop" (subA a l t repl 1 n done start must D false)).weight = 0 from rfl) rfl]
  unfold Builtin.«re.Pattern.sub.loop»
  dsimp only
  refine wpAny_bind (whole_wp S hP ?_)
  refine wp_ifF Bool.false_ne_true ?_
  refine wpAny_bind (wp_ifF Bool.false_ne_true ?_)
  show wpAny _ _ (reRunToEnd (Sre.forSearch C l.toArray g1 ((start : Nat) : Int).toNat l.length must)) _ _ _
  rw [Int.toNat_natCast]
  refine re_end he hk (fun m' e => .inl e) (fun m' _ _ => ?_) (fun m' e e' => by rw [show m'.outcome = _ from e] at e'; cases e')
  dsimp only
  by_cases hlt : done < l.length
  · refine wp_ifT (by show ((done : Nat) : Int).toNat < l.length; rw [Int.toNat_natCast]; exact hlt) ?_
    rw [Int.toNat_natCast]
    refine wpAny_bind (slice_wp S (by walk_at "o") fun t' s' S => ?_)
    refine wpAny_bind (push_wp S (by simp [txs]; walk_at "o") fun s' S => ?_)
    have e : txs ps ++ [.str (T ((l.drop done).take (l.length - done))) t'] = txs (ps ++ [((l.drop done).take (l.length - done), t')]) := by unfold txs; simp
    rw [e] at S
    refine glue_wp (l := l) (k := fun text => ret text) S (by walk_at "o") ?_ fun t'' s' S => ?_
    · simp at hps ⊢; walk_at "o"
    · refine wpAny_pure ?_
      have e2 : ((ps ++ [((l.drop done).take (l.length - done), t')]).map (·.1)).flatten = (ps.map (·.1)).flatten ++ l.drop done := by
        rw [List.map_append, List.flatten_append, List.take_of_length_le (by simp)]; simp
      rw [e2]
      exact hR _ _ (St.dropPre (new := [_]) S)
  · refine wp_ifF (by show ¬ ((done : Nat) : Int).toNat < l.length; rw [Int.toNat_natCast]; exact hlt) ?_
    refine glue_wp (l := l) (k := fun text => ret text) S (by walk_at "o") (by walk_at "o") fun t'' s' S => ?_
    refine wpAny_pure ?_
    have e2 : (ps.map (·.1)).flatten = (ps.map (·.1)).flatten ++ l.drop done := by rw [List.drop_of_length_le (by walk_at "o")]; simp
    rw [e2]
    exact hR _ _ (St.dropPre (new := [_]) S)
end
end
section
open PySem PySem.Calls PyProof.Rows PySem.Spec PySem.W PySem.Builtin.Str
section
open PySem.Builtin.Re
variable {W : Wd} {φ g0 g g' : Gr} {names : List Str} {L : Addr} {vals vals' : List (Option Value)} {mu : List (Addr × Obj)} {s s' : Shared} {A : Around} {E : Value → Shared → Prop}
theorem sub_turn {a : Addr} {C : Array Nat} {l it : List Nat} {t : Tok} {repl : Value} {n start k st hd b e : Nat} {li : Int} {must : Bool} {D : Addr} {ps : List (List Nat × Tok)} {m : Nat} {mu0 : List (Addr × Obj)} {R : Result → Shared → Prop}
    {done : Nat} (S : St W φ g0 names g L vals ((D, lst (txs ps) m) :: mu0) s) (hP : PatAt W a C 1) (hl : l.length ≤ 100000) (hds : done ≤ st) (hst : st ≤ l.length)
    (he : Ends k (Sre.forSearch C l.toArray 1 start l.length must) (Matched st hd [some b, some e] 1 li)) (hbe : b ≤ e) (hk : k ≤ 4000000000000) (hpl : ps.length ≤ 900)
    (hcall : ∀ v g' ps' m' s', Sub g g' → MatchAt g' v (.str (T l) t) [st, hd, b, e] → St W φ g0 names g' L vals ((D, lst (txs ps') m') :: mu0) s' →
      wpAny (model PP W.w) A.in1 (call repl [v]) (fun r s'' => ∃ u g'', r = .str (T it) u ∧ Sub g' g'' ∧ St W φ g0 names g'' L vals ((D, lst (txs ps') m') :: mu0) s'') NoE s')
    (hR : ∀ g'' ps'' m'' s'', Sub g g'' → (ps''.map (·.1)).flatten = (ps.map (·.1)).flatten ++ ((l.drop done).take (st - done) ++ it) → ((ps''.map (·.1)).map (·.length)).sum = ((ps.map (·.1)).map (·.length)).sum + (st - done) + it.length → ps''.length ≤ ps.length + 2 →
      St W φ g0 names g'' L vals ((D, lst (txs ps'') m'') :: mu0) s'' → codeAny (model PP W.w) A (.builtin "re.Pattern.sub.loop" (subA a l t repl 1 (n + 1) hd hd (hd == st) D false)) R s'') :
    codeAny (model PP W.w) A (.builtin "re.Pattern.sub.loop" (subA a l t repl 1 n done start must D false)) R s := by
  refine codeAny_builtin rp_loop ?_
  rw [Around.under_plain (show (Code.builtin "re.Pattern.sub.loop" (subA a l t repl 1 n done start must D false)).weight = 0 from rfl) rfl]
  unfold Builtin.«re.Pattern.sub.loop»
  dsimp only
  refine wpAny_bind (whole_wp S hP ?_)
  refine wp_ifF Bool.false_ne_true ?_
  refine wpAny_bind (wp_ifF Bool.false_ne_true ?_)
  show wpAny _ _ (reRunToEnd (Sre.forSearch C l.toArray 1 ((start : Nat) : Int).toNat l.length must)) _ _ _
  rw [Int.toNat_natCast]
  refine re_end he hk (fun m' e => .inr e.1) (fun m' e e' => by rw [e.1] at e'; cases e') (fun m' hm _ => ?_)
  dsimp only
  have hs1 : m'.start = st := hm.2.1
  have hs2 : m'.handed = hd := hm.2.2.1
  rw [hs1, hs2, Int.toNat_natCast]
  by_cases hlt : done < st
  · refine wp_ifT hlt ?_
    refine wpAny_bind (slice_wp S (by walk_at "o") fun t1 s1 S => ?_)
    refine wpAny_bind (push_wp S (by simp [txs]; walk_at "o") fun s2 S => ?_)
    have e1 : txs ps ++ [.str (T ((l.drop done).take (st - done))) t1] = txs (ps ++ [((l.drop done).take (st - done), t1)]) := by unfold txs; simp
    rw [e1] at S
    refine wp_ifF Bool.false_ne_true ?_
    refine wpAny_bind (newmatch_wp S hm hbe fun v g' s' hg hM S => ?_)
    refine wpAny_bind (wpAny_holding (wp_ifT rfl (NoE_to (wpAny_mono (hcall v g' _ _ s' hg hM S) (fun r s'' h => ?_) fun _ _ x => x.elim))))
    obtain ⟨u, g'', rfl, hg2, S⟩ := h
    refine wp_ifT rfl ?_
    refine wpAny_bind (push_wp S (by simp [txs]; walk_at "o") fun s3 S => ?_)
    have e2 : txs (ps ++ [((l.drop done).take (st - done), t1)]) ++ [.str (T it) u] = txs (ps ++ [((l.drop done).take (st - done), t1), (it, u)]) := by unfold txs; simp
    rw [e2] at S
    refine wpAny_pure ⟨Code.quiet_builtin _ (by decide +kernel), hR g'' _ _ s3 (hg.trans hg2) (by simp) ?_ (by simp) S⟩
    simp; walk_at "o"
  · refine wp_ifF hlt ?_
    refine wp_ifF Bool.false_ne_true ?_
    refine wpAny_bind (newmatch_wp S hm hbe fun v g' s' hg hM S => ?_)
    refine wpAny_bind (wpAny_holding (wp_ifT rfl (NoE_to (wpAny_mono (hcall v g' _ _ s' hg hM S) (fun r s'' h => ?_) fun _ _ x => x.elim))))
    obtain ⟨u, g'', rfl, hg2, S⟩ := h
    refine wp_ifT rfl ?_
    refine wpAny_bind (push_wp S (by simp [txs]; walk_at "o") fun s3 S => ?_)
    have e2 : txs ps ++ [.str (T it) u] = txs (ps ++ [(it, u)]) := by unfold txs; simp
    rw [e2] at S
    have e3 : st - done = 0 := by walk_at "o"
    refine wpAny_pure ⟨Code.quiet_builtin _ (by decide +kernel), hR g'' _ _ s3 (hg.trans hg2) (by rw [e3]; simp) (by rw [e3]; simp) (by simp) S⟩
end
end
section
open PySem PySem.Calls PyProof.Rows PySem.Spec PySem.W PySem.Builtin.Str
section
open PySem.Builtin.Re
variable {W : Wd} {φ g0 g g' : Gr} {names : List Str} {L : Addr} {vals vals' : List (Option Value)} {mu : List (Addr × Obj)} {s s' : Shared} {A : Around} {E : Value → Shared → Prop}
theorem lk_call : typeLookup (.type "function") "__call__" = pure (some (.builtin "function.__call__")) := by rw [typeLookup_type, builtinLookup_eq_fast]; kernel_rfl
theorem sub_start {a : Addr} {C : Array Nat} {n : Nat} {l : List Nat} {t : Tok} {repl : Value} {qual : Str} {params : Arguments} {body : Expr} {scope : Scope} {Q : Value → Shared → Prop}
    (S : St W φ g0 names g L vals mu s) (hP : PatAt W a C n) (hL : LamAt g repl qual params body scope)
    (h : ∀ D s', St W φ g0 names g L vals ((D, lst (txs []) 0) :: mu) s' → codeAny (model PP W.w) A (.builtin "re.Pattern.sub.loop" (subA a l t repl 1 0 0 0 false D false)) (wants Q E) s') :
    wpAny (model PP W.w) A (call (.builtin "re.Pattern.sub") [.ref a, repl, .str (T l) t]) Q E s := by
  refine c_slot sl_sub (hP.ty S) rp_sub (ar_sub _ _ _) ?_
  have hT : s.TypeIs repl "function" := by
    obtain ⟨b, cv, ctv, pm, rfl, hb, _⟩ := hL
    exact ⟨_, S.gh _ _ hb, rfl⟩
  have f1 := lk_call
  unfold Builtin.«re.Pattern.sub» reSubstitute
  dsimp only
  rw [named3]
  refine wpAny_bind (wpAny_pure ?_)
  dsimp only
  refine wpAny_bind (wpAny_pure ?_)
  refine wpAny_bind (wpAny_specialOf hT f1 ?_)
  refine wp_ifT rfl ?_
  refine wpAny_bind (wpAny_pure ?_)
  refine wp_ifT rfl ?_
  refine wpAny_bind (wpAny_pure ?_)
  dsimp only
  refine wpAny_bind (wpAny_holding (whole_wp S hP ?_))
  refine wp_ifT rfl ?_
  unfold reNotHeld
  refine wpAny_bind ?_
  repeat (any_goals (first | assumption | (rw [F.sub_str_bytearray]) | wp_step))
  exact ⟨Code.quiet_builtin _ (by decide +kernel), h _ _ (S.push_mu (lst (txs []) 0) rfl)⟩
end
end
section
open PySem PySem.Calls PyProof.Rows PySem.Spec PySem.W PySem.Builtin.Str
section
open PySem.Builtin.Re
variable {W : Wd} {φ g0 g g' : Gr} {names : List Str} {L : Addr} {vals vals' : List (Option Value)} {mu : List (Addr × Obj)} {s s' : Shared} {A : Around} {E : Value → Shared → Prop}
noncomputable def LamGives (W : Wd) (φ g0 g : Gr) (names : List Str) (L : Addr) (vals : List (Option Value)) (A : Around) (repl : Value) (l pl : List Nat) (t : Tok) : Prop :=
  ∀ v g' (st hd b e : Nat) mu' s', Sub g g' → MatchAt g' v (.str (T l) t) [st, hd, b, e] → b ≤ e → e ≤ l.length → St W φ g0 names g' L vals mu' s' →
    wpAny (model PP W.w) A.in1 (call repl [v]) (fun r s'' => ∃ u g'', r = .str (T (pl ++ (l.drop b).take (e - b))) u ∧ Sub g' g'' ∧ St W φ g0 names g'' L vals mu' s'') NoE s'
theorem LamGives.mono {repl : Value} {l pl : List Nat} {t : Tok} (h : LamGives W φ g0 g names L vals A repl l pl t) (hg : Sub g g') : LamGives W φ g0 g' names L vals A repl l pl t :=
  fun v g'' st hd b e mu' s' hs => h v g'' st hd b e mu' s' (hg.trans hs)
noncomputable def unesc (ts : List (Nat × List Nat)) : List Nat := (ts.map fun t => t.1 :: t.2).flatten
theorem sub_esc {a D : Addr} {l : List Nat} {t : Tok} {repl : Value} {mu0 : List (Addr × Obj)} {R : Result → Shared → Prop} (hP : PatAt W a cESC 1) (hl : l.length ≤ 2000) :
    ∀ (ts : List (Nat × List Nat)) (pre p : List Nat) (n m : Nat) (must : Bool) (g : Gr) (s : Shared) (ps : List (List Nat × Tok)), l = pre ++ p ++ tailL ts → (∀ x ∈ p, x ≠ 92) → (∀ t ∈ ts, t.1 ≠ 10 ∧ ∀ x ∈ t.2, x ≠ 34 ∧ x ≠ 92) → must = false →
    St W φ g0 names g L vals ((D, lst (txs ps) m) :: mu0) s → LamGives W φ g0 g names L vals A repl l [] t → ps.length + 2 * ts.length ≤ 800 → ((ps.map (·.1)).map (·.length)).sum ≤ pre.length →
    (∀ t' g' s', Sub g g' → St W φ g0 names g' L vals mu0 s' → R (.ok (.ret (.str (T ((ps.map (·.1)).flatten ++ (p ++ unesc ts))) t'))) s') →
    codeAny (model PP W.w) A (.builtin "re.Pattern.sub.loop" (subA a l t repl 1 n pre.length pre.length must D false)) R s
  | [], pre, p, n, m, must, g, s, ps, hle, hp, hts, hm, S, hL, hpl, hsum, hR => by
    subst hm
    have hle' : l = pre ++ p := by rw [hle]; simp [tailL]
    have hdrop : l.drop pre.length = p := by rw [hle']; simp
    have hpre500 : pre.length ≤ l.length := by rw [hle']; simp
    refine sub_none S hP rfl (by walk_at "o") (by rw [hle']; simp) (k := 3000000) (esc_none (by rw [hle']; simp) (fun j h1 h2 => ?_) (by walk_at "o")) (by walk_at "o") (Nat.le_trans hsum (Nat.le_trans hpre500 (by walk_at "o"))) (by simp at hpl; walk_at "o") rfl fun t' s' S => ?_
    · have : l.getD j 0 ∈ p := by
        rw [hle', List.getD_eq_getElem?_getD, List.getElem?_append_right h1]
        have hlt : j - pre.length < p.length := by rw [hle'] at h2; simp at h2; walk_at "o"
        rw [List.getElem?_eq_getElem hlt]; exact List.getElem_mem hlt
      exact hp _ this
    · rw [hdrop]
      have := hR t' g s' (.refl _) S
      rw [show unesc [] = [] from rfl, List.append_nil] at this
      exact this
  | x :: ts, pre, p, n, m, must, g, s, ps, hle, hp, hts, hm, S, hL, hpl, hsum, hR => by
    subst hm
    obtain ⟨hx, hq⟩ := hts x List.mem_cons_self
    have hle' : l = (pre ++ p) ++ 92 :: x.1 :: (x.2 ++ tailL ts) := by rw [hle, tailL_cons]; simp
    have hll : (pre ++ p).length + 2 + (x.2 ++ tailL ts).length = l.length := by rw [hle']; simp; walk_at "o"
    have hpp : (pre ++ p).length = pre.length + p.length := List.length_append
    have hf := esc_found (a := pre ++ p) (b := x.2 ++ tailL ts) (x := x.1) (st := pre.length) (by simp) (fun j h1 h2 => by
      have : (pre ++ p).getD j 0 ∈ p := by
        rw [List.getD_eq_getElem?_getD, List.getElem?_append_right h1]
        have hlt : j - pre.length < p.length := by walk_at "o"
        rw [List.getElem?_eq_getElem hlt]; exact List.getElem_mem hlt
      exact hp _ this) hx (by rw [← hle']; walk_at "o")
    rw [← hle'] at hf
    have hit : (l.drop ((pre ++ p).length + 1)).take ((pre ++ p).length + 2 - ((pre ++ p).length + 1)) = [x.1] := by
      rw [hle', show (pre ++ p).length + 2 - ((pre ++ p).length + 1) = 1 by walk_at "o", List.drop_append, List.drop_of_length_le (by walk_at "o")]
      simp
    have hdone : (l.drop pre.length).take ((pre ++ p).length - pre.length) = p := by
      rw [hle, List.append_assoc, List.drop_left' rfl, show (pre ++ p).length - pre.length = p.length by walk_at "o", List.take_left' rfl]
    refine sub_turn S hP (by walk_at "o") (by walk_at "o") (by walk_at "o") hf (by walk_at "o") (by walk_at "o") (by simp at hpl; walk_at "o") (it := [x.1]) (fun v g' ps' m' s' hs hM S => ?_) (fun g'' ps'' m'' s'' hg he hs hn S => ?_)
    · have := hL v g' _ _ _ _ _ s' hs hM (by walk_at "o") (by walk_at "o") S
      rw [List.nil_append, hit] at this; exact this
    · have hmust : ((pre ++ p).length + 2 == (pre ++ p).length) = false := by simp
      rw [hmust]
      have hpre2 : (pre ++ p).length + 2 = (pre ++ p ++ [92, x.1]).length := by rw [List.length_append (as := pre ++ p)]; rfl
      rw [hpre2]
      refine sub_esc hP hl ts (pre ++ p ++ [92, x.1]) x.2 (n + 1) m'' false g'' s'' ps'' (by rw [hle']; simp) (fun y hy => (hq y hy).2) (fun t ht => hts t (List.mem_cons_of_mem _ ht)) rfl S (hL.mono hg) (by simp at hpl; walk_at "o") ?_ fun t' g3 s3 hg3 S => ?_
      · rw [hs, ← hpre2, List.length_singleton]; walk_at "o"
      · have := hR t' g3 s3 (hg.trans hg3) S
        have e : (ps''.map (·.1)).flatten ++ (x.2 ++ unesc ts) = (ps.map (·.1)).flatten ++ (p ++ unesc (x :: ts)) := by
          rw [he, hdone]; simp [unesc]
        rw [e]; exact this
end
end
section
open PySem PySem.Calls PyProof.Rows PySem.Spec PySem.W PySem.Builtin.Str
section
open PySem.Builtin.Re
variable {W : Wd} {φ g0 g g' : Gr} {names : List Str} {L : Addr} {vals vals' : List (Option Value)} {mu : List (Addr × Obj)} {s s' : Shared} {A : Around} {E : Value → Shared → Prop}
noncomputable def escL (l : List Nat) : List Nat := (l.map fun c => if BJ c then [92, c] else [c]).flatten
theorem escL_plain : ∀ p : List Nat, (∀ x ∈ p, BJ x = false) → escL p = p
  | [], _ => rfl
  | x :: r, h => by
    have hx := h x List.mem_cons_self
    have ih := escL_plain r fun y hy => h y (List.mem_cons_of_mem _ hy)
    unfold escL at ih ⊢
    rw [List.map_cons, List.flatten_cons, ih, hx]; rfl
theorem escL_append (a b : List Nat) : escL (a ++ b) = escL a ++ escL b := by unfold escL; simp
theorem split_first (B : Nat → Bool) : ∀ l : List Nat, (∀ x ∈ l, B x = false) ∨ ∃ p c r, l = p ++ c :: r ∧ (∀ x ∈ p, B x = false) ∧ B c = true
  | [] => .inl (by simp)
  | x :: r => by
    cases hx : B x with
    | true => exact .inr ⟨[], x, r, rfl, by simp, hx⟩
    | false =>
      rcases split_first B r with h | ⟨p, c, q, e, h1, h2⟩
      · exact .inl (by intro y hy; rcases List.mem_cons.mp hy with rfl | hy; exact hx; exact h y hy)
      · exact .inr ⟨x :: p, c, q, by rw [e]; rfl, by intro y hy; rcases List.mem_cons.mp hy with rfl | hy; exact hx; exact h1 y hy, h2⟩
theorem getD_in {pre p : List Nat} {j : Nat} (h1 : pre.length ≤ j) (h2 : j < (pre ++ p).length) : (pre ++ p).getD j 0 ∈ p := by
  rw [List.getD_eq_getElem?_getD, List.getElem?_append_right h1]
  have hlt : j - pre.length < p.length := by rw [List.length_append] at h2; walk_at "o"
  rw [List.getElem?_eq_getElem hlt]; exact List.getElem_mem hlt
theorem sub_jes {a D : Addr} {l : List Nat} {t : Tok} {repl : Value} {mu0 : List (Addr × Obj)} {R : Result → Shared → Prop} (hP : PatAt W a cJES 1) (hl : l.length ≤ 300) :
    ∀ (k : Nat) (rest pre : List Nat) (n m : Nat) (must : Bool) (g : Gr) (s : Shared) (ps : List (List Nat × Tok)), rest.length ≤ k → l = pre ++ rest → must = false →
    St W φ g0 names g L vals ((D, lst (txs ps) m) :: mu0) s → LamGives W φ g0 g names L vals A repl l [92] t → ps.length + 2 * rest.length ≤ 800 → ((ps.map (·.1)).map (·.length)).sum ≤ 2 * pre.length →
    (∀ t' g' s', Sub g g' → St W φ g0 names g' L vals mu0 s' → R (.ok (.ret (.str (T ((ps.map (·.1)).flatten ++ escL rest)) t'))) s') →
    codeAny (model PP W.w) A (.builtin "re.Pattern.sub.loop" (subA a l t repl 1 n pre.length pre.length must D false)) R s := by
  intro k
  induction k with
  | zero =>
    intro rest pre n m must g s ps hk hle hm S hL hpl hsum hR
    subst hm
    have : rest = [] := List.length_eq_zero_iff.mp (Nat.le_zero.mp hk)
    subst this
    have hll : l.length = pre.length := by rw [hle]; simp
    refine sub_none S hP rfl (by walk_at "o") (by walk_at "o") (k := 3000000) (J_none false (by walk_at "o") (fun j h1 h2 => by walk_at "o")) (by walk_at "o") (by walk_at "o") (by simp at hpl; walk_at "o") rfl fun t' s' S => ?_
    rw [List.drop_of_length_le (by walk_at "o")]
    exact hR t' g s' (.refl _) S
  | succ k ih =>
    intro rest pre n m must g s ps hk hle hm S hL hpl hsum hR
    subst hm
    have hll : l.length = pre.length + rest.length := by rw [hle]; simp
    rcases split_first BJ rest with hno | ⟨p, c, r, e, hp, hc⟩
    · refine sub_none S hP rfl (by walk_at "o") (by walk_at "o") (k := 3000000) (J_none false (by walk_at "o") (fun j h1 h2 => by rw [hle] at h2 ⊢; exact hno _ (getD_in h1 h2))) (by walk_at "o") (by walk_at "o") (by walk_at "o") rfl fun t' s' S => ?_
      have := hR t' g s' (.refl _) S
      rw [escL_plain rest hno] at this
      rw [show l.drop pre.length = rest by rw [hle]; simp]; exact this
    · subst e
      have hrl : (p ++ c :: r).length = p.length + 1 + r.length := by simp; walk_at "o"
      have hc0 : l.getD (pre.length + p.length) 0 = c := by
        rw [hle, ← List.append_assoc, ← List.length_append, List.getD_eq_getElem?_getD, List.getElem?_append_right (Nat.le_refl _)]; simp
      have hf := J_found (l := l) (st := pre.length) (d := p.length) false (by walk_at "o") (fun j hj => by
        rw [hle, ← List.append_assoc, List.getD_eq_getElem?_getD, List.getElem?_append_left (by simp; walk_at "o"), ← List.getD_eq_getElem?_getD]
        exact hp _ (getD_in (by walk_at "o") (by simp; walk_at "o"))) (by rw [hc0]; exact hc)
      have hit : (l.drop (pre.length + p.length)).take (pre.length + p.length + 1 - (pre.length + p.length)) = [c] := by
        rw [hle, ← List.append_assoc, ← List.length_append, List.drop_left' rfl, show (pre ++ p).length + 1 - (pre ++ p).length = 1 by walk_at "o"]; rfl
      have hdone : (l.drop pre.length).take (pre.length + p.length - pre.length) = p := by
        rw [hle, List.drop_left' rfl, show pre.length + p.length - pre.length = p.length by walk_at "o", List.take_left' rfl]
      refine sub_turn S hP (by walk_at "o") (by walk_at "o") (by walk_at "o") hf (by walk_at "o") (by walk_at "o") (by walk_at "o") (it := [92, c]) (fun v g' ps' m' s' hs hM S => ?_) (fun g'' ps'' m'' s'' hg he hs hn S => ?_)
      · have := hL v g' _ _ _ _ _ s' hs hM (by walk_at "o") (by walk_at "o") S
        rw [hit] at this; exact this
      · have hmust : (pre.length + p.length + 1 == pre.length + p.length) = false := by simp
        rw [hmust]
        have hpre2 : pre.length + p.length + 1 = (pre ++ p ++ [c]).length := by simp; walk_at "o"
        rw [hpre2]
        refine ih r (pre ++ p ++ [c]) (n + 1) m'' false g'' s'' ps'' (by walk_at "o") (by rw [hle]; simp) rfl S (hL.mono hg) (by walk_at "o") ?_ fun t' g3 s3 hg3 S => ?_
        · rw [hs, ← hpre2]; simp only [List.length_cons, List.length_nil]; walk_at "o"
        · have := hR t' g3 s3 (hg.trans hg3) S
          have e : (ps''.map (·.1)).flatten ++ escL r = (ps.map (·.1)).flatten ++ escL (p ++ c :: r) := by
            rw [he, hdone, escL_append, escL_plain p hp, show escL (c :: r) = [92, c] ++ escL r by unfold escL; rw [List.map_cons, List.flatten_cons, hc]; rfl]; simp
          rw [e]; exact this
end
end
section
open PySem PySem.Calls PyProof.Rows PySem.Spec PySem.W PySem.Builtin.Str
section
open PySem.Builtin.Re
variable {W : Wd} {φ g0 g g' : Gr} {names : List Str} {L : Addr} {vals vals' : List (Option Value)} {mu : List (Addr × Obj)} {s s' : Shared} {A : Around} {E : Value → Shared → Prop}
noncomputable def escT (l : List Nat) : List Nat := (l.map fun c => if BT c then [92, c] else [c]).flatten
theorem escT_plain : ∀ p : List Nat, (∀ x ∈ p, BT x = false) → escT p = p
  | [], _ => rfl
  | x :: r, h => by
    have hx := h x List.mem_cons_self
    have ih := escT_plain r fun y hy => h y (List.mem_cons_of_mem _ hy)
    unfold escT at ih ⊢
    rw [List.map_cons, List.flatten_cons, ih, hx]; rfl
theorem escT_append (a b : List Nat) : escT (a ++ b) = escT a ++ escT b := by unfold escT; simp
theorem sub_tw1 {a D : Addr} {l : List Nat} {t : Tok} {repl : Value} {mu0 : List (Addr × Obj)} {R : Result → Shared → Prop} (hP : PatAt W a cTW1 1) (hl : l.length ≤ 300) :
    ∀ (k : Nat) (rest pre : List Nat) (n m : Nat) (must : Bool) (g : Gr) (s : Shared) (ps : List (List Nat × Tok)), rest.length ≤ k → l = pre ++ rest → must = false →
    St W φ g0 names g L vals ((D, lst (txs ps) m) :: mu0) s → LamGives W φ g0 g names L vals A repl l [92] t → ps.length + 2 * rest.length ≤ 800 → ((ps.map (·.1)).map (·.length)).sum ≤ 2 * pre.length →
    (∀ t' g' s', Sub g g' → St W φ g0 names g' L vals mu0 s' → R (.ok (.ret (.str (T ((ps.map (·.1)).flatten ++ escT rest)) t'))) s') →
    codeAny (model PP W.w) A (.builtin "re.Pattern.sub.loop" (subA a l t repl 1 n pre.length pre.length must D false)) R s := by
  intro k
  induction k with
  | zero =>
    intro rest pre n m must g s ps hk hle hm S hL hpl hsum hR
    subst hm
    have : rest = [] := List.length_eq_zero_iff.mp (Nat.le_zero.mp hk)
    subst this
    have hll : l.length = pre.length := by rw [hle]; simp
    refine sub_none S hP rfl (by walk_at "o") (by walk_at "o") (k := 3000000) (T_none false (by walk_at "o") (fun j h1 h2 => by walk_at "o")) (by walk_at "o") (by walk_at "o") (by simp at hpl; walk_at "o") rfl fun t' s' S => ?_
    rw [List.drop_of_length_le (by walk_at "o")]
    exact hR t' g s' (.refl _) S
  | succ k ih =>
    intro rest pre n m must g s ps hk hle hm S hL hpl hsum hR
    subst hm
    have hll : l.length = pre.length + rest.length := by rw [hle]; simp
    rcases split_first BT rest with hno | ⟨p, c, r, e, hp, hc⟩
    · refine sub_none S hP rfl (by walk_at "o") (by walk_at "o") (k := 3000000) (T_none false (by walk_at "o") (fun j h1 h2 => by rw [hle] at h2 ⊢; exact hno _ (getD_in h1 h2))) (by walk_at "o") (by walk_at "o") (by walk_at "o") rfl fun t' s' S => ?_
      have := hR t' g s' (.refl _) S
      rw [escT_plain rest hno] at this
      rw [show l.drop pre.length = rest by rw [hle]; simp]; exact this
    · subst e
      have hrl : (p ++ c :: r).length = p.length + 1 + r.length := by simp; walk_at "o"
      have hc0 : l.getD (pre.length + p.length) 0 = c := by
        rw [hle, ← List.append_assoc, ← List.length_append, List.getD_eq_getElem?_getD, List.getElem?_append_right (Nat.le_refl _)]; simp
      have hf := T_found (l := l) (st := pre.length) (d := p.length) false (by walk_at "o") (fun j hj => by
        rw [hle, ← List.append_assoc, List.getD_eq_getElem?_getD, List.getElem?_append_left (by simp; walk_at "o"), ← List.getD_eq_getElem?_getD]
        exact hp _ (getD_in (by walk_at "o") (by simp; walk_at "o"))) (by rw [hc0]; exact hc)
      have hit : (l.drop (pre.length + p.length)).take (pre.length + p.length + 1 - (pre.length + p.length)) = [c] := by
        rw [hle, ← List.append_assoc, ← List.length_append, List.drop_left' rfl, show (pre ++ p).length + 1 - (pre ++ p).length = 1 by walk_at "o"]; rfl
      have hdone : (l.drop pre.length).take (pre.length + p.length - pre.length) = p := by
        rw [hle, List.drop_left' rfl, show pre.length + p.length - pre.length = p.length by walk_at "o", List.take_left' rfl]
      refine sub_turn S hP (by walk_at "o") (by walk_at "o") (by walk_at "o") hf (by walk_at "o") (by walk_at "o") (by walk_at "o") (it := [92, c]) (fun v g' ps' m' s' hs hM S => ?_) (fun g'' ps'' m'' s'' hg he hs hn S => ?_)
      · have := hL v g' _ _ _ _ _ s' hs hM (by walk_at "o") (by walk_at "o") S
        rw [hit] at this; exact this
      · have hmust : (pre.length + p.length + 1 == pre.length + p.length) = false := by simp
        rw [hmust]
        have hpre2 : pre.length + p.length + 1 = (pre ++ p ++ [c]).length := by simp; walk_at "o"
        rw [hpre2]
        refine ih r (pre ++ p ++ [c]) (n + 1) m'' false g'' s'' ps'' (by walk_at "o") (by rw [hle]; simp) rfl S (hL.mono hg) (by walk_at "o") ?_ fun t' g3 s3 hg3 S => ?_
        · rw [hs, ← hpre2]; simp only [List.length_cons, List.length_nil]; walk_at "o"
        · have := hR t' g3 s3 (hg.trans hg3) S
          have e : (ps''.map (·.1)).flatten ++ escT r = (ps.map (·.1)).flatten ++ escT (p ++ c :: r) := by
            rw [he, hdone, escT_append, escT_plain p hp, show escT (c :: r) = [92, c] ++ escT r by unfold escT; rw [List.map_cons, List.flatten_cons, hc]; rfl]; simp
          rw [e]; exact this
end
end
section
open PySem PySem.Calls PyProof.Rows PySem.Spec PySem.W PySem.Builtin.Str
section
open PySem.Builtin.Re
variable {W : Wd} {φ g0 g g' : Gr} {names : List Str} {L : Addr} {vals vals' : List (Option Value)} {mu : List (Addr × Obj)} {s s' : Shared} {A : Around} {E : Value → Shared → Prop}
theorem lk_nocall : typeLookup (.type "str") "__call__" = pure none := by rw [typeLookup_type, builtinLookup_eq_fast]; kernel_rfl
noncomputable abbrev subS (a : Addr) (l : List Nat) (t u : Tok) (n done start : Nat) (must : Bool) (D : Addr) : Args :=
  ⟨[.ref a, .str (T l) t, .str (T []) u, rawInt 0, rawInt 0, rawInt n, rawInt done, rawInt start, .bool must, .ref D, .bool true], []⟩
theorem subn_start {a : Addr} {C : Array Nat} {n : Nat} {l : List Nat} {t u : Tok} {Q : Value → Shared → Prop}
    (S : St W φ g0 names g L vals mu s) (hP : PatAt W a C n)
    (h : ∀ D s', St W φ g0 names g L vals ((D, lst (txs []) 0) :: mu) s' → codeAny (model PP W.w) A (.builtin "re.Pattern.sub.loop" (subS a l t u 0 0 0 false D)) (wants Q E) s') :
    wpAny (model PP W.w) A (call (.builtin "re.Pattern.subn") [.ref a, .str (T []) u, .str (T l) t]) Q E s := by
  refine c_slot sl_subn (hP.ty S) rp_subn (ar_subn _ _ _) ?_
  have hT : s.TypeIs (.str (T []) u) "str" := typeIs_str _ _ _
  have f1 := lk_nocall
  unfold Builtin.«re.Pattern.subn» reSubstitute
  dsimp only
  rw [named3]
  refine wpAny_bind (wpAny_pure ?_)
  dsimp only
  refine wpAny_bind (wpAny_pure ?_)
  refine wpAny_bind (wpAny_specialOf hT f1 ?_)
  refine wp_ifF Bool.false_ne_true ?_
  refine wpAny_bind (wpAny_pure ?_)
  dsimp only
  refine wpAny_bind (wpAny_pure ?_)
  refine wp_ifF Bool.false_ne_true ?_
  refine wp_ifT (by simp) ?_
  refine wpAny_bind (wpAny_pure ?_)
  dsimp only
  refine wpAny_bind (wpAny_holding (whole_wp S hP ?_))
  refine wp_ifF Bool.false_ne_true ?_
  repeat (any_goals (first | assumption | wp_step))
  exact ⟨Code.quiet_builtin _ (by decide +kernel), h _ _ (S.push_mu (lst (txs []) 0) rfl)⟩
theorem subn_turn {a : Addr} {C : Array Nat} {l : List Nat} {t u : Tok} {g1 n start k hd : Nat} {must : Bool} {D : Addr} {ps : List (List Nat × Tok)} {m : Nat} {mu0 : List (Addr × Obj)} {R : Result → Shared → Prop} {marks : List (Option Nat)} {lm li : Int}
    {done : Nat} (S : St W φ g0 names g L vals ((D, lst (txs ps) m) :: mu0) s) (hP : PatAt W a C g1) (hl : l.length ≤ 100000)
    (he : Ends k (Sre.forSearch C l.toArray g1 start l.length must) (Matched done hd marks lm li)) (hk : k ≤ 4000000000000) (hpl : ps.length ≤ 900)
    (hR : ∀ m'' s'', St W φ g0 names g L vals ((D, lst (txs (ps ++ [([], u)])) m'') :: mu0) s'' → codeAny (model PP W.w) A (.builtin "re.Pattern.sub.loop" (subS a l t u (n + 1) hd hd (hd == done) D)) R s'') :
    codeAny (model PP W.w) A (.builtin "re.Pattern.sub.loop" (subS a l t u n done start must D)) R s := by
  refine codeAny_builtin rp_loop ?_
  rw [Around.under_plain (show (Code.builtin "re.Pattern.sub.loop" (subS a l t u n done start must D)).weight = 0 from rfl) rfl]
  unfold Builtin.«re.Pattern.sub.loop»
  dsimp only
  refine wpAny_bind (whole_wp S hP ?_)
  refine wp_ifT rfl ?_
  unfold reLiteralCannotBeTurned
  refine wpAny_bind (wpAny_bind (wpAny_pure ?_))
  refine wp_ifF Bool.false_ne_true (wpAny_pure ?_)
  refine wpAny_bind (wp_ifF Bool.false_ne_true ?_)
  show wpAny _ _ (reRunToEnd (Sre.forSearch C l.toArray g1 ((start : Nat) : Int).toNat l.length must)) _ _ _
  rw [Int.toNat_natCast]
  refine re_end he hk (fun m' e => .inr e.1) (fun m' e e' => by rw [e.1] at e'; cases e') (fun m' hm _ => ?_)
  dsimp only
  have hs1 : m'.start = done := hm.2.1
  have hs2 : m'.handed = hd := hm.2.2.1
  rw [hs1, hs2, Int.toNat_natCast]
  refine wp_ifF (Nat.lt_irrefl _) ?_
  refine wp_ifT rfl ?_
  refine wpAny_bind (wpAny_pure ?_)
  refine wp_ifT rfl ?_
  refine wpAny_bind (push_wp S (by simp [txs]; walk_at "o") fun s3 S => ?_)
  have e2 : txs ps ++ [.str (T []) u] = txs (ps ++ [([], u)]) := by unfold txs; simp
  rw [e2] at S
  exact wpAny_pure ⟨Code.quiet_builtin _ (by decide +kernel), hR _ s3 S⟩
theorem subn_none {a : Addr} {C : Array Nat} {g1 : Nat} {l : List Nat} {t u : Tok} {n start k : Nat} {must : Bool} {D : Addr} {ps : List (List Nat × Tok)} {m : Nat} {mu0 : List (Addr × Obj)} {R : Result → Shared → Prop}
    {done : Nat} (S : St W φ g0 names g L vals ((D, lst (txs ps) m) :: mu0) s) (hP : PatAt W a C g1) (hl : l.length ≤ 100000) (hd : done < l.length)
    (he : Ends k (Sre.forSearch C l.toArray g1 start l.length must) Failed) (hk : k ≤ 4000000000000) (hps : ((ps.map (·.1)).map (·.length)).sum ≤ 500000) (hpl : ps.length ≤ 900)
    (hR : ∀ b t' u' g' s', Sub g g' → g' b = some (tup [.str (T ((ps.map (·.1)).flatten ++ l.drop done)) t', .int n u']) → St W φ g0 names g' L vals mu0 s' → R (.ok (.ret (.ref b))) s') :
    codeAny (model PP W.w) A (.builtin "re.Pattern.sub.loop" (subS a l t u n done start must D)) R s := by
  refine codeAny_builtin rp_loop ?_
  rw [Around.under_plain (show (Code.builtin "re.Pattern.sub.loop" (subS a l t u n done start must D)).weight = 0 from rfl) rfl]
  unfold Builtin.«re.Pattern.sub.loop»
  dsimp only
  refine wpAny_bind (whole_wp S hP ?_)
  refine wp_ifT rfl ?_
  unfold reLiteralCannotBeTurned
  refine wpAny_bind (wpAny_bind (wpAny_pure ?_))
  refine wp_ifF Bool.false_ne_true (wpAny_pure ?_)
  refine wpAny_bind (wp_ifF Bool.false_ne_true ?_)
  show wpAny _ _ (reRunToEnd (Sre.forSearch C l.toArray g1 ((start : Nat) : Int).toNat l.length must)) _ _ _
  rw [Int.toNat_natCast]
  refine re_end he hk (fun m' e => .inl e) (fun m' _ _ => ?_) (fun m' e e' => by rw [show m'.outcome = _ from e] at e'; cases e')
  dsimp only
  refine wp_ifT (by show ((done : Nat) : Int).toNat < l.length; rw [Int.toNat_natCast]; exact hd) ?_
  rw [Int.toNat_natCast]
  refine wpAny_bind (slice_wp S (by walk_at "o") fun t' s' S => ?_)
  refine wpAny_bind (push_wp S (by simp [txs]; walk_at "o") fun s' S => ?_)
  have e : txs ps ++ [.str (T ((l.drop done).take (l.length - done))) t'] = txs (ps ++ [((l.drop done).take (l.length - done), t')]) := by unfold txs; simp
  rw [e] at S
  refine glue_wp (l := l) (k := fun text => if true = true then (do ret (← holding [text] do newTuple [text, ← mkInt n])) else ret text) S (by walk_at "o") ?_ fun t'' s' S => ?_
  · simp at hps ⊢; walk_at "o"
  · have e2 : ((ps ++ [((l.drop done).take (l.length - done), t')]).map (·.1)).flatten = (ps.map (·.1)).flatten ++ l.drop done := by
      rw [List.map_append, List.flatten_append, List.take_of_length_le (by simp)]; simp
    rw [e2]
    refine wp_ifT rfl ?_
    have S := St.dropPre (new := [_]) S
    have hn1 : g s'.heap.objs.size = none := by
      cases q : g s'.heap.objs.size with
      | none => rfl
      | some o => exact absurd (Heap.lt_size (S.gh _ _ q)) (Nat.lt_irrefl _)
    refine wpAny_bind (wpAny_holding (wpAny_bind (wpAny_mkInt ?_)))
    refine wpAny_newObj_type (T := "tuple") (data := .seq [Value.str (T ((ps.map (·.1)).flatten ++ l.drop done)) t'', .int n s'.toks].toArray) ?_ (by show (2 : Nat) ≤ sizeLine; rw [sizeLine_eq]; walk_at "o")
    refine wpAny_pure ?_
    exact hR _ _ _ _ _ (gset_sub hn1) (gset_self _ _ _) ((S.push_g (tup [.str (T ((ps.map (·.1)).flatten ++ l.drop done)) t'', .int n s'.toks]) rfl).tk (s'.toks + 1))
end
end
section
open PySem PySem.Calls PyProof.Rows PySem.Spec PySem.W PySem.Builtin.Str
section
open PySem.Builtin.Re
variable {W : Wd} {φ : Gr} {g0 : Gr} {names : List Str} {g : Gr} {L : Addr} {vals : List (Option Value)} {mu : List (Addr × Obj)} {s : Shared} {A : Around} {E : Value → Shared → Prop}
theorem newmatch0 {pat str : Value} {ps lim : Nat} {m' : MM} {st hd : Nat} {lm li : Int} {Q : Value → Shared → Prop} (S : St W φ g0 names g L vals mu s) (hm : Matched st hd [] lm li m')
    (hQ : ∀ v g' s', Sub g g' → MatchAt g' v str [st, hd] → St W φ g0 names g' L vals mu s' → Q v s') : wpAny (model PP W.w) A (reNewMatch pat str 0 ps lim m') Q E s := by
  obtain ⟨_, e1, e2, e3, e4, e5⟩ := hm
  have e3' : m'.marks = #[] := by rw [← Array.toList_inj]; exact e3
  unfold reNewMatch
  rw [e3', e4, e1, e2]
  have S1 := S.push_g (tup ([(st : Int), hd].map rawInt)) rfl
  refine wpAny_bind (wpAny_newObj_type (T := "tuple") (data := .seq ([(st : Int), hd].map rawInt).toArray) ?_ (by show (2 : Nat) ≤ sizeLine; rw [sizeLine_eq]; walk_at "o"))
  unfold newFields
  have S2 := S1.push_g { cls := .type "re.Match", data := .fields #[str, pat, rawInt ps, rawInt lim, rawInt m'.lastindex, .ref s.heap.objs.size] } rfl
  refine wpAny_newObj_type ?_
  have hn1 : g s.heap.objs.size = none := by
    cases q : g s.heap.objs.size with
    | none => rfl
    | some o => exact absurd (Heap.lt_size (S.gh _ _ q)) (Nat.lt_irrefl _)
  have hn2 : gset g s.heap.objs.size (tup ([(st : Int), hd].map rawInt)) (s.heap.push (tup ([(st : Int), hd].map rawInt))).objs.size = none := by
    cases q : gset g s.heap.objs.size (tup ([(st : Int), hd].map rawInt)) (s.heap.push (tup ([(st : Int), hd].map rawInt))).objs.size with
    | none => rfl
    | some o => exact absurd (Heap.lt_size (S1.gh _ _ q)) (Nat.lt_irrefl _)
  exact hQ _ _ _ ((gset_sub hn1).trans (gset_sub hn2)) ⟨_, _, _, _, _, _, rfl, gset_self _ _ _, gset_sub hn2 _ _ (gset_self _ _ _)⟩ S2
theorem answer0 {T' : ReTarget} {m : MM} {n st hd : Nat} {lm li : Int} {Q : Fin → Shared → Prop} (S : St W φ g0 names g L vals mu s) (h : Ends n m (Matched st hd [] lm li)) (hn : n ≤ 4000000000000) (hg : T'.groups = 0)
    (hQ : ∀ v g' s', Sub g g' → MatchAt g' v T'.string [st, hd] → St W φ g0 names g' L vals mu s' → Q (.done (.ret v)) s') : wpAny (model PP W.w) A (reAnswer T' m) Q E s := by
  unfold reAnswer
  refine wpAny_bind (re_end h hn (fun m' e => .inr e.1) (fun m' e e' => by rw [e.1] at e'; cases e') (fun m' hm _ => ?_))
  show wpAny _ _ (do ret (← reNewMatch T'.pattern T'.string T'.groups T'.pos T'.lim m')) _ _ _
  rw [hg]
  exact wpAny_bind (newmatch0 S hm fun v g' s' a b c => wpAny_pure (hQ v g' s' a b c))
theorem c_full1 {a : Addr} {C : Array Nat} {l : List Nat} {t : Tok} {k st hd : Nat} {lm li : Int} {Q : Value → Shared → Prop} (S : St W φ g0 names g L vals mu s) (hP : PatAt W a C 0) (hl : l.length ≤ 1000000)
    (h : Ends k (Sre.forMatch C l.toArray 0 0 l.length true false) (Matched st hd [] lm li)) (hk : k ≤ 4000000000000)
    (hQ : ∀ v g' s', Sub g g' → MatchAt g' v (.str (T l) t) [st, hd] → St W φ g0 names g' L vals mu s' → Q v s') : wpAny (model PP W.w) A (call (.builtin "re.Pattern.fullmatch") [.ref a, .str (T l) t]) Q E s :=
  c_slot sl_full (hP.ty S) rp_fullmatch (ar_full _ _) (full_wp S hP (answer0 S h hk rfl fun v g' s' a b c => hQ v g' s' a b c) hl)
end
end
section
open PySem PySem.Calls PyProof.Rows PySem.Spec PySem.W PySem.Builtin.Str
section
open PySem.Builtin.Re
variable {W : Wd} {φ : Gr} {g0 : Gr} {names : List Str} {g : Gr} {L : Addr} {vals : List (Option Value)} {mu : List (Addr × Obj)} {s : Shared} {A : Around} {E : Value → Shared → Prop}
theorem wp_forIn1 {α β : Type} {M : Model} {c : α} {b : β} {f : α → β → Sem (ForInStep β)} {Q : β → Shared → Prop} (h : wpAny M A (f c b) (fun r s' => match r with | .done x => Q x s' | .yield x => Q x s') E s) : wpAny M A (forIn [c].toArray b f) Q E s := by
  simp only [List.forIn_toArray, List.forIn_cons, List.forIn_nil]
  refine wpAny_bind (wpAny_mono h (fun r s' x => ?_) fun _ _ x => x)
  cases r <;> exact wpAny_pure x
inductive TrOut (c : Nat) : PySem.Builtin.Str.Mapped → List Nat → Prop
  | keep : TrOut c .keep [c]
  | text : TrOut c (.text (T [92, c])) [92, c]
theorem b_translate {table : PySem.Value} {c : Nat} {t : Tok} {m : PySem.Builtin.Str.Mapped} {z : List Nat} {Q : PySem.Fin → Shared → Prop} (hm : TrOut c m z) (S : St W φ g0 names g L vals mu s)
    (hT : ∀ (s : Shared) (Q : PySem.Builtin.Str.Mapped → Shared → Prop), St W φ g0 names g L vals mu s → (∀ s', St W φ g0 names g L vals mu s' → Q m s') → wpAny (model PP W.w) A (PySem.Builtin.Str.tableLookup table c) Q E s)
    (hQ : ∀ t' s', St W φ g0 names g L vals mu s' → Q (.done (.ret (.str (T z) t'))) s') :
    wpAny (model PP W.w) A (PySem.Builtin.«str.translate» ⟨[Value.str (T [c]) t, table], []⟩) Q E s := by
  unfold PySem.Builtin.«str.translate»
  refine wpAny_bind (wpAny_pure (a := (Value.str (T [c]) t, T [c], table)) ?_)
  refine wp_ifF (by show ¬ _; exact Bool.false_ne_true) ?_
  refine wpAny_bind ?_
  show wpAny _ _ (let fast := [c].toArray.all fun x => decide (x < 128); _) _ _ _
  generalize ([c].toArray.all fun x => decide (x < 128)) = fast
  have hsz : ∀ n : Nat, n ≤ 2 → ¬ (PySem.Builtin.Str.tooLong n = true) := fun n hn => by unfold PySem.Builtin.Str.tooLong; rw [sizeLine_eq, decide_eq_true_eq]; walk_at "o"
  have fin : ∀ s', St W φ g0 names g L vals mu s' → wpAny (model PP W.w) A (if PySem.Builtin.Str.tooLong z.length = true then do
        unsupported "str.translate:memory"
        retStr ⟨[(T z : Str)].reverse.foldl (fun acc p => acc ++ p.cps) #[]⟩
      else retStr ⟨[(T z : Str)].reverse.foldl (fun acc p => acc ++ p.cps) #[]⟩) Q E s' := fun s' S' => by
    have hz : z.length ≤ 2 := by cases hm <;> exact Nat.le_of_ble_eq_true rfl
    refine wp_ifF (hsz _ hz) ?_
    have e : (⟨[(T z : Str)].reverse.foldl (fun acc p => acc ++ p.cps) #[]⟩ : Str) = T z := by cases hm <;> rfl
    rw [e]
    unfold retStr
    refine wpAny_bind ?_
    exact wpAny_mkStr (wpAny_pure (hQ _ _ (S'.tk _))) (by rw [T_len, sizeLine_eq]; walk_at "o")
  refine wp_forIn1 ?_
  refine wp_ifF (hsz 0 (by decide)) ?_
  cases fast with
  | true =>
    refine wp_ifT rfl ?_
    simp only [List.lookup]
    refine wpAny_bind (hT _ _ S fun s' S' => ?_)
    cases hm with
    | keep =>
      refine wpAny_bind (wpAny_pure ?_)
      refine wpAny_pure ?_
      exact fin _ S'
    | text =>
      refine wpAny_bind (wpAny_pure ?_)
      refine wpAny_bind (wpAny_rule ?_)
      refine wp_ifF Bool.false_ne_true ?_
      refine wpAny_bind (hT _ _ S' fun s2 S2 => ?_)
      refine wpAny_pure ?_
      exact fin _ S2
  | false =>
    refine wp_ifF Bool.false_ne_true ?_
    refine wp_ifF Bool.false_ne_true ?_
    refine wpAny_bind (hT _ _ S fun s' S' => ?_)
    cases hm with
    | keep =>
      refine wpAny_pure ?_
      exact fin _ S'
    | text =>
      refine wpAny_pure ?_
      exact fin _ S'
end
end
section
open PySem PySem.Calls PyProof.Rows PySem.Spec PySem.W PySem.Builtin.Str
section
open PySem.Builtin.Re
variable {W : Wd} {φ : Gr} {g0 : Gr} {names : List Str} {g : Gr} {L : Addr} {vals : List (Option Value)} {mu : List (Addr × Obj)} {s : Shared} {A : Around} {E : Value → Shared → Prop}
theorem tl_text {d : Addr} {D : List (PyData × PyData)} {c : Nat} {x : Str} {Q : PySem.Builtin.Str.Mapped → Shared → Prop} (S : St W φ g0 names g L vals mu s) (hTab : PyProof.Rows.IntTab PP W.w s.heap d D)
    (hl : lookup (.int c) D = some (.str x)) (hQ : ∀ s', St W φ g0 names g L vals mu s' → Q (.text x) s') :
    wpAny (model PP W.w) A (PySem.Builtin.Str.tableLookup (.ref d) c) Q E s := by
  obtain ⟨lo, kvs, hd, hf⟩ := hTab
  obtain ⟨v, hv, hfl⟩ := hf.of_lookup PyProof.V.same_int hl
  unfold PySem.Builtin.Str.tableLookup
  refine wpAny_bind (wpAny_attempt (wpAny_bind ?_))
  refine wpAny_mkInt ?_
  refine wpAny_getItem_of (intKind_is PP W.w c _) hd.mapOf hv ?_
  have hv' := hfl {}
  cases hv'
  refine wpAny_bind (wpAny_of_eq (a := none) rfl ?_)
  refine wpAny_bind (wpAny_of_eq (a := some x) rfl ?_)
  exact wpAny_pure (hQ _ ((S.tk _).tk _))
end
end
section
open PySem PySem.Calls PyProof.Rows PySem.Spec PySem.W PySem.Builtin.Str
section
variable {W : Wd} {φ : Gr} {g0 : Gr} {names : List Str} {g : Gr} {L : Addr} {vals : List (Option Value)} {mu : List (Addr × Obj)} {s : Shared} {A : Around} {E : Value → Shared → Prop}
theorem St.keep (S : St W φ g0 names g L vals mu s) {h' : Heap} {k : Nat} (keep : ∀ b o, s.heap.get? b = some o → h'.get? b = some o) : St W φ g0 names g L vals mu { s with heap := h', toks := k } := by
  refine ⟨S.base, S.stat, S.g0g, fun a o e => keep _ _ (S.gh a o e), fun a o e => keep _ _ (S.fh a o e), ?_, S.len, S.gL, S.fL, fun p hp => ?_, S.nd, S.sep, fun t ht => ?_, S.os, S.gens⟩
  · exact S.ns.keeps keep
  · obtain ⟨a, b⟩ := S.mus p hp
    exact ⟨keep _ _ a, b⟩
  · obtain ⟨a, b⟩ := S.tabs t ht
    obtain ⟨ps, e, r⟩ := id a
    exact ⟨a.mono (fun _ _ e => e) ((keep _ _ e).trans e.symm), b⟩
end
end
section
open PySem PySem.Calls PyProof.Rows PySem.Spec PySem.W PySem.Builtin.Str
section
variable {W : Wd} {φ : Gr} {g0 : Gr} {names : List Str} {g : Gr} {L : Addr} {vals : List (Option Value)} {mu : List (Addr × Obj)} {s : Shared} {A : Around} {E : Value → Shared → Prop}
open PySem.Builtin.Re
theorem tl_keep {d : Addr} {D : List (PyData × PyData)} {c : Nat} {Q : PySem.Builtin.Str.Mapped → Shared → Prop} (S : St W φ g0 names g L vals mu s) (hh : A.handled = none) (hTab : PyProof.Rows.IntTab PP W.w s.heap d D)
    (hl : lookup (.int c) D = none) (hQ : ∀ s', St W φ g0 names g L vals mu s' → Q .keep s') :
    wpAny (model PP W.w) A (PySem.Builtin.Str.tableLookup (.ref d) c) Q E s := by
  obtain ⟨lo, kvs, hd, hf⟩ := hTab
  unfold PySem.Builtin.Str.tableLookup
  refine wpAny_bind (wpAny_attempt (wpAny_bind ?_))
  refine wpAny_mkInt ?_
  refine wpAny_getItem_missing_of (intKind_is PP W.w c _) lo hh hd.mapOf (hf.none_of_lookup PyProof.V.same_int hl) fun h' e hN => ?_
  have S' := S.keep (k := s.toks + 1 + 1) hN.keeps
  obtain ⟨ob, t, h1, h2, h3⟩ := hN.there
  refine wpAny_bind ?_
  refine wpAny_isInstance (T := "KeyError") (b := true) ⟨ob, h1, h2⟩ ?_ ?_
  · first | decide | decide +kernel | (rw [isSubtype_type]; kernel_rfl)
  · refine wp_ifT rfl ?_
    refine wpAny_bind (wpAny_rule ?_)
    exact wpAny_pure (hQ _ S')
end
end
section
open PySem PySem.Calls PyProof.Rows PySem.Spec PySem.W PySem.Builtin.Str
section
open PySem.Builtin.Re
variable {W : Wd} {φ : Gr} {g0 : Gr} {names : List Str} {g : Gr} {L : Addr} {vals : List (Option Value)} {mu : List (Addr × Obj)} {s : Shared} {A : Around} {E : Value → Shared → Prop}
theorem c_translate {d : Addr} {D : List (PyData × PyData)} {c : Nat} {t : Tok} {Q : Value → Shared → Prop} (S : St W φ g0 names g L vals mu s) (hh : A.handled = none)
    (hTab : ∀ s', St W φ g0 names g L vals mu s' → PyProof.Rows.IntTab PP W.w s'.heap d D)
    (hl : lookup (.int c) D = none ∨ lookup (.int c) D = some (.str (T [92, c])))
    (hQ : ∀ t' s', St W φ g0 names g L vals mu s' → Q (.str (T (if (lookup (.int c) D).isSome then [92, c] else [c])) t') s') :
    wpAny (model PP W.w) A (call (.builtin "str.translate") [.str (T [c]) t, .ref d]) Q E s := by
  refine wpAny_call (codeAny_call_builtin PySem.F.slot_str_translate.plain PySem.F.entry_str_translate (PySem.F.slot_str_translate.check _ _ _ _ _ _ _ _ ?_ (PySem.F.args_str_translate_2 _ _) ?_))
  · exact rfl
  · rcases hl with hl | hl
    · refine b_translate .keep S (fun s1 Q1 S1 h1 => tl_keep S1 hh (hTab _ S1) hl h1) fun t' s' S' => ?_
      have := hQ t' s' S'
      rw [hl] at this
      exact this
    · refine b_translate .text S (fun s1 Q1 S1 h1 => tl_text S1 (hTab _ S1) hl h1) fun t' s' S' => ?_
      have := hQ t' s' S'
      rw [hl] at this
      exact this
end
end
open PySem PySem.Calls PyProof.Rows PySem.Spec PySem.W PySem.Builtin.Str
section
open PySem PySem.Calls PyProof.Rows PySem.Spec PySem.W PySem.Builtin.Str
section
variable {W : Wd} {f : Nat → Addr} {g : Gr} {s : Shared} {A : Around} {Q : Value → Shared → Prop}


theorem w_get_sep (hA : Rm 2 A) (R : Rdy W g s) (G : Gl W f) {p : Str} {t : Tok}
    (k : ∀ v g' s', Fin' W g s g' s' → (∃ t, v = .str (T [47]) t) → Q v s') : wpAny (model PP W.w) A (call (.ref (f 36)) [.str p t]) Q NoE s := by
  obtain ⟨o, doc, pm, an, cd, ct, ho, hd, hc⟩ := G.fn 36 rfl
  refine enterP ["path"] [] ["path"] [some (.str p t)] rfl rfl (Post := fun g v => ∃ t, v = .str (T [47]) t) hA R ho hd hc rfl rfl (by decide) (by decide) (by decide) ?_ k
  intro φ L s₁ S
  repeat walk_at "1"
  refine isi_str_bytes ?_
  repeat walk_at "1"
  exact ⟨_, _, _, by assumption, _, rfl⟩
theorem w_fspath (hA : Rm 2 A) (R : Rdy W g s) (G : Gl W f) {p : Str} {t : Tok}
    (k : ∀ v g' s', Fin' W g s g' s' → (v = .str p t) → Q v s') : wpAny (model PP W.w) A (call (.ref (f 31)) [.str p t]) Q NoE s := by
  obtain ⟨o, doc, pm, an, cd, ct, ho, hd, hc⟩ := G.fn 31 rfl
  refine enterP ["path"] ["kind", "hook", "given"] ["path", "kind", "hook", "given"] [some (.str p t), none, none, none] rfl rfl (Post := fun g v => v = .str p t) hA R ho hd hc rfl rfl (by decide) (by decide) (by decide) ?_ k
  intro φ L s₁ S
  repeat walk_at "1"
  refine type_str ?_
  repeat walk_at "1"
  rename_i a₁ g₁ s₃ hg₁ ha₁ S
  refine issub_str S ha₁ fun s₃ S => ?_
  repeat walk_at "1"
  exact ⟨_, _, _, S, rfl⟩

noncomputable def upto (c : Nat) (l : List Nat) : List Nat := (l.reverse.dropWhile (· != c)).reverse
noncomputable def behind (c : Nat) (l : List Nat) : List Nat := (l.reverse.takeWhile (· != c)).reverse
theorem upto_behind (c : Nat) (l : List Nat) : upto c l ++ behind c l = l := by
  unfold upto behind; rw [← List.reverse_append, List.takeWhile_append_dropWhile, List.reverse_reverse]
theorem behind_free (c : Nat) (l : List Nat) : c ∉ behind c l := by
  unfold behind
  intro h
  rw [List.mem_reverse] at h
  have := List.all_takeWhile (p := (· != c)) (l := l.reverse)
  rw [List.all_eq_true] at this
  simpa using this c h
theorem upto_cases (c : Nat) (l : List Nat) : upto c l = [] ∨ ∃ m, upto c l = m ++ [c] := by
  unfold upto
  cases h : l.reverse.dropWhile (· != c) with
  | nil => exact .inl rfl
  | cons x r =>
    have := List.head_dropWhile_not (· != c) (l := l.reverse) (by rw [h]; simp)
    simp [h] at this
    subst this
    exact .inr ⟨r.reverse, by simp⟩
theorem rfind_upto (c : Nat) (l : List Nat) : Txt.rfind (T l) (T [c]) + 1 = (upto c l).length := by
  rcases upto_cases c l with h | ⟨m, h⟩
  · have e := upto_behind c l
    rw [h, List.nil_append] at e
    rw [h, rfind_none (by rw [← e]; exact behind_free c l)]; rfl
  · have e := upto_behind c l
    rw [h, List.append_assoc, List.singleton_append] at e
    conv => lhs; rw [← e]
    rw [rfind_some (behind_free c l), h]; simp
theorem take_upto (c : Nat) (l : List Nat) : l.take (upto c l).length = upto c l := by
  conv => lhs; arg 2; rw [← upto_behind c l]
  simp
theorem drop_upto (c : Nat) (l : List Nat) : l.drop (upto c l).length = behind c l := by
  conv => lhs; arg 2; rw [← upto_behind c l]
  simp
theorem all_rep (c : Nat) (l : List Nat) : l.all (· == c) = (l == List.replicate l.length c) := by
  induction l with
  | nil => rfl
  | cons x r ih => simp only [List.all_cons, List.length_cons, List.replicate_succ, List.cons_beq_cons, ih]
noncomputable def hd (p : List Nat) : List Nat := if (upto 47 p).all (· == 47) then upto 47 p else ((upto 47 p).reverse.dropWhile (· == 47)).reverse
theorem w_split (hA : Rm 3 A) (R : Rdy W g s) (G : Gl W f) {p : List Nat} {t : Tok} (hp : p.length ≤ 1000)
    (k : ∀ v g' s', Fin' W g s g' s' → (∃ a t u, v = .ref a ∧ g' a = some (tup [.str (T (hd p)) t, .str (T (behind 47 p)) u])) → Q v s') : wpAny (model PP W.w) A (call (.ref (f 38)) [.str (T p) t]) Q NoE s := by
  obtain ⟨o, doc, pm, an, cd, ct, ho, hd', hc⟩ := G.fn 38 rfl
  refine enterP ["p"] ["sep", "i", "head", "tail"] ["p", "sep", "i", "head", "tail"] [some (.str (T p) t), none, none, none, none] rfl rfl (Post := fun g' v => (∃ a t u, v = .ref a ∧ g' a = some (tup [.str (T (hd p)) t, .str (T (behind 47 p)) u]))) hA R ho hd' hc rfl rfl (by decide) (by decide) (by decide) ?_ k
  intro φ L s₁ S
  repeat walk_at "1"
  refine w_fspath (hA.deeper _) (St.rdy (by assumption)) G fun v g' s' F hv => ?_
  subst hv
  have S := St.back (by assumption) F
  repeat walk_at "1"
  refine w_get_sep (hA.deeper _) (St.rdy (by assumption)) G fun v g' s' F hv => ?_
  obtain ⟨t1, rfl⟩ := hv
  have S := St.back (by assumption) F
  repeat walk_at "1"
  rename_i S
  (walk_at "zS"); rw [rfind_upto] at S ⊢
  have hu : (upto 47 p).length ≤ p.length := by
    have := congrArg List.length (upto_behind 47 p); rw [List.length_append] at this; walk_at "o"
  repeat walk_at "1"
  rename_i S
  (walk_at "zS"); rw [take_upto, drop_upto] at S
  rw [take_upto]
  refine ⟨fun h => ?_, fun h => ⟨fun h => (nomatch h), fun _ => ?_⟩⟩
  · repeat walk_at "1"
    refine ⟨fun h' => ?_, fun h' => ?_⟩
    · repeat walk_at "1"
      rename_i ha S
      have : hd p = ((upto 47 p).reverse.dropWhile (· == 47)).reverse := if_neg (by rw [all_rep]; simpa using h')
      rw [← this] at ha
      exact ⟨_, _, _, S, _, _, _, rfl, ha⟩
    · repeat walk_at "1"
      rename_i ha S
      have : hd p = upto 47 p := if_pos (by rw [all_rep]; simpa using h')
      rw [← this] at ha
      exact ⟨_, _, _, S, _, _, _, rfl, ha⟩
  · repeat walk_at "1"
    rename_i ha S
    have e : upto 47 p = [] := by simpa using h
    have : hd p = upto 47 p := if_pos (by rw [e]; rfl)
    rw [← this] at ha
    exact ⟨_, _, _, S, _, _, _, rfl, ha⟩
end
end
section
open PySem PySem.Calls PyProof.Rows PySem.Spec PySem.W PySem.Builtin.Str
section
variable {W : Wd} {f : Nat → Addr} {g : Gr} {s : Shared} {A : Around} {Q : Value → Shared → Prop}
set_option linter.unusedVariables false
noncomputable def endL (n : List Nat) : List Nat := if 46 ∈ n.dropWhile (· == 46) then 46 :: behind 46 (n.dropWhile (· == 46)) else []
theorem split_at_last {c : Nat} {l : List Nat} (h : c ∈ l) : ∃ a b, l = a ++ c :: b ∧ c ∉ b ∧ behind c l = b := by
  rcases upto_cases c l with e | ⟨m, e⟩
  · have := upto_behind c l
    rw [e, List.nil_append] at this
    have h' := behind_free c l
    rw [this] at h'; exact absurd h h'
  · refine ⟨m, behind c l, ?_, behind_free c l, rfl⟩
    have := upto_behind c l
    rw [e] at this
    rw [← List.singleton_append, ← List.append_assoc]; exact this.symm
theorem behind_eq {c : Nat} {a b : List Nat} (h : c ∉ b) : behind c (a ++ c :: b) = b := by
  unfold behind
  rw [List.reverse_append, List.reverse_cons, List.append_assoc, List.takeWhile_append_of_pos (by intro x hx; simp; rintro rfl; exact h (List.mem_reverse.mp hx))]
  simp
theorem endL_free {n : List Nat} (h : 46 ∉ n) : endL n = [] := if_neg fun q => h ((List.dropWhile_suffix _).subset q)
theorem dropWhile_all {p : Nat → Bool} {a b : List Nat} (h : ∀ x ∈ a, p x = true) : (a ++ b).dropWhile p = b.dropWhile p := by
  induction a with
  | nil => rfl
  | cons x r ih => rw [List.cons_append, List.dropWhile_cons, if_pos (h x List.mem_cons_self)]; exact ih fun y hy => h y (List.mem_cons_of_mem _ hy)
theorem endL_dots {a b : List Nat} (ha : ∀ x ∈ a, x = 46) (hb : 46 ∉ b) : endL (a ++ 46 :: b) = [] := by
  unfold endL
  have : (a ++ 46 :: b).dropWhile (· == 46) = b := by
    rw [dropWhile_all (by intro x hx; simp [ha x hx]), List.dropWhile_cons, if_pos (by rfl)]
    cases b with
    | nil => rfl
    | cons y r => rw [List.dropWhile_cons, if_neg (by simp; rintro rfl; exact hb List.mem_cons_self)]
  rw [this, if_neg hb]
theorem endL_some {a b : List Nat} (ha : ∃ x ∈ a, x ≠ 46) (hb : 46 ∉ b) : endL (a ++ 46 :: b) = 46 :: b := by
  unfold endL
  have key : ∃ c, (a ++ 46 :: b).dropWhile (· == 46) = c ++ 46 :: b := by
    clear hb
    induction a with
    | nil => obtain ⟨x, hx, _⟩ := ha; cases hx
    | cons y r ih =>
      rw [List.cons_append, List.dropWhile_cons]
      by_cases hy : y = 46
      · rw [if_pos (by simp [hy])]
        obtain ⟨x, hx, hne⟩ := ha
        rcases List.mem_cons.mp hx with rfl | hx
        · exact absurd hy hne
        · exact ih ⟨x, hx, hne⟩
      · rw [if_neg (by simp [hy])]; exact ⟨y :: r, rfl⟩
  obtain ⟨c, e⟩ := key
  rw [e, if_pos (by simp), behind_eq hb]

theorem drop_mid {q a b : List Nat} {c j : Nat} (h : j < a.length) : ((q ++ a) ++ c :: b).drop (q.length + j) = a[j] :: (a.drop (j + 1) ++ c :: b) := by
  rw [List.append_assoc, List.drop_append, List.drop_of_length_le (by walk_at "o"), List.nil_append, show q.length + j - q.length = j by walk_at "o",
    List.drop_append_of_le_length (by walk_at "o"), List.drop_eq_getElem_cons h]; rfl
theorem drop_end {q a b : List Nat} {c : Nat} : ((q ++ a) ++ c :: b).drop (q.length + a.length) = c :: b := by
  rw [← List.length_append, List.drop_left' rfl]
theorem w_splitext_ (hA : Rm 1 A) (R : Rdy W g s) (G : Gl W f) {p : List Nat} {t u v : Tok} (hp : p.length ≤ 1000)
    (k : ∀ v g' s', Fin' W g s g' s' → (∃ a t u, v = .ref a ∧ g' a = some (tup [.str (T (p.take (p.length - (endL (behind 47 p)).length))) t, .str (T (endL (behind 47 p))) u])) → Q v s') :
    wpAny (model PP W.w) A (call (.ref (f 33)) [.str (T p) t, .str (T [47]) u, .none, .str (T [46]) v]) Q NoE s := by
  obtain ⟨o, doc, pm, an, cd, ct, ho, hd', hc⟩ := G.fn 33 rfl
  refine enterP ["p", "sep", "altsep", "extsep"] ["sepIndex", "dotIndex", "filenameIndex"] ["p", "sep", "altsep", "extsep", "sepIndex", "dotIndex", "filenameIndex"] [some (.str (T p) t), some (.str (T [47]) u), some .none, some (.str (T [46]) v), none, none, none] rfl rfl (Post := fun g' v => (∃ a t u, v = .ref a ∧ g' a = some (tup [.str (T (p.take (p.length - (endL (behind 47 p)).length))) t, .str (T (endL (behind 47 p))) u]))) hA R ho hd' hc rfl rfl (by decide) (by decide) (by decide) ?_ k
  intro φ L s₁ S
  have e1 : Txt.rfind (T p) (T [47]) = ((upto 47 p).length : Int) - 1 := by have := rfind_upto 47 p; walk_at "o"
  have hsplit := upto_behind 47 p
  have hpl : (upto 47 p).length + (behind 47 p).length = p.length := by rw [← List.length_append, hsplit]
  repeat walk_at "1"
  rename_i S
  (walk_at "zS"); rw [e1] at S ⊢
  by_cases hm : 46 ∈ behind 47 p
  · obtain ⟨a, b, ea, hb, eb⟩ := split_at_last hm
    have ep : p = (upto 47 p ++ a) ++ 46 :: b := by rw [List.append_assoc, ← ea, hsplit]
    have e2 : Txt.rfind (T p) (T [46]) = (((upto 47 p).length + a.length : Nat) : Int) := by
      conv => lhs; rw [ep]
      rw [rfind_some hb, List.length_append]
    (walk_at "zS"); rw [e2] at S ⊢
    refine ⟨fun _ => ?_, fun h => ?_⟩
    · repeat walk_at "1"
      refine ex_while (fun n s => ∃ (j : Nat) (k1 k2 k3 : Tok), n = a.length - j ∧ j ≤ a.length ∧ (∀ x ∈ a.take j, x = 46) ∧ St W φ g ["p", "sep", "altsep", "extsep", "sepIndex", "dotIndex", "filenameIndex"] g L
        [some (.str (T p) t), some (.str (T [47]) u), some .none, some (.str (T [46]) v), some (.int (((upto 47 p).length : Int) - 1) k1), some (.int (((upto 47 p).length + a.length : Nat) : Int) k2), some (.int (((upto 47 p).length + j : Nat) : Int) k3)] [] s) a.length ?_ ?_
      · rename_i S
        have e3 : ((upto 47 p).length : Int) - 1 + 1 = (((upto 47 p).length + 0 : Nat) : Int) := by walk_at "o"
        (walk_at "zS"); rw [e3] at S; exact ⟨0, _, _, _, by walk_at "o", by walk_at "o", by simp, S⟩
      · rintro n s₂ ⟨j, k1, k2, k3, rfl, hj, ha, S⟩
        repeat walk_at "1"
        have hal : a.length + b.length + 1 = (behind 47 p).length := by rw [ea]; simp; walk_at "o"
        refine ⟨fun h => ?_, fun h => ?_⟩
        · have hlt : j < a.length := by simp at h; walk_at "o"
          have e3 : (((upto 47 p).length + j : Nat) : Int) + 1 = (((upto 47 p).length + j + 1 : Nat) : Int) := by walk_at "o"
          repeat walk_at "1"
          rw [e3]
          repeat walk_at "1"
          have ey : (p.drop ((upto 47 p).length + j)).take ((upto 47 p).length + j + 1 - ((upto 47 p).length + j)) = [a[j]] := by
            have := drop_mid (q := upto 47 p) (b := b) (c := 46) hlt
            rw [← ep] at this
            rw [this]; simp
          rw [ey]
          refine ⟨fun h => ?_, fun h => ?_⟩
          · have hex : ∃ x ∈ a, x ≠ 46 := ⟨a[j], List.getElem_mem hlt, by simpa using h⟩
            have ee : endL (behind 47 p) = 46 :: b := by rw [ea]; exact endL_some hex hb
            have hpl2 : p.length = (upto 47 p).length + a.length + b.length + 1 := by walk_at "o"
            repeat walk_at "1"
            rename_i ha S
            have q1 : p.take ((upto 47 p).length + a.length) = p.take (p.length - (endL (behind 47 p)).length) := by rw [ee, hpl2]; congr 1; rw [List.length_cons]; walk_at "o"
            have q2 : p.drop ((upto 47 p).length + a.length) = endL (behind 47 p) := by
              have := drop_end (q := upto 47 p) (a := a) (b := b) (c := 46)
              rw [← ep] at this; rw [ee]; exact this
            rw [q1, q2] at ha
            (repeat walk_at "kn"); exact ⟨_, _, _, S, _, _, _, rfl, ha⟩
          · have hd46 : a[j] = 46 := by simpa using h
            repeat walk_at "1"
            rename_i S
            (walk_at "zS"); rw [e3] at S
            have hall : ∀ x ∈ a.take (j + 1), x = 46 := by
              intro x hx
              rw [List.take_succ_eq_append_getElem hlt, List.mem_append, List.mem_singleton] at hx
              rcases hx with hx | rfl
              · exact ha x hx
              · exact hd46
            exact ⟨a.length - (j + 1), by walk_at "o", j + 1, _, _, _, rfl, by walk_at "o", hall, S⟩
        · have hje : j = a.length := by simp at h; walk_at "o"
          have ee : endL (behind 47 p) = [] := by rw [ea]; exact endL_dots (fun x hx => ha x (by rw [hje, List.take_length]; exact hx)) hb
          repeat walk_at "1"
          rename_i ha S
          have q1 : p.take (p.length - (endL (behind 47 p)).length) = p := by rw [ee]; simp
          refine ⟨_, _, _, S, ?_⟩
          rw [q1, ee]
          exact ⟨_, _, _, rfl, ha⟩
    · exact absurd h (by simp; walk_at "o")
  · have ee : endL (behind 47 p) = [] := endL_free hm
    have q1 : p.take (p.length - (endL (behind 47 p)).length) = p := by rw [ee]; simp
    have e2 : Txt.rfind (T p) (T [46]) ≤ ((upto 47 p).length : Int) - 1 := by
      have := rfind_upto 46 p
      have h2 : (upto 46 p).length ≤ (upto 47 p).length := by
        rcases Nat.lt_or_ge (upto 47 p).length (upto 46 p).length with h | h
        · exfalso
          rcases upto_cases 46 p with e | ⟨m, e⟩
          · rw [e] at h; simp at h
          · have h3 := upto_behind 46 p
            have h4 : p = upto 47 p ++ behind 47 p := hsplit.symm
            rw [e, List.append_assoc, List.singleton_append] at h3
            have : p[m.length]? = some 46 := by rw [← h3]; simp
            rw [e] at h; simp at h
            rw [h4, List.getElem?_append_right (by walk_at "o")] at this
            exact hm (List.mem_of_getElem? this)
        · exact h
      walk_at "o"
    refine ⟨fun h => ?_, fun h => ?_⟩
    · exact absurd h (by simp; walk_at "o")
    · repeat walk_at "1"
      rename_i ha S
      refine ⟨_, _, _, S, ?_⟩
      rw [q1, ee]
      exact ⟨_, _, _, rfl, ha⟩
theorem w_splitext (hA : Rm 3 A) (R : Rdy W g s) (G : Gl W f) {p : List Nat} {t : Tok} (hp : p.length ≤ 1000)
    (k : ∀ v g' s', Fin' W g s g' s' → (∃ a t u, v = .ref a ∧ g' a = some (tup [.str (T (p.take (p.length - (endL (behind 47 p)).length))) t, .str (T (endL (behind 47 p))) u])) → Q v s') :
    wpAny (model PP W.w) A (call (.ref (f 39)) [.str (T p) t]) Q NoE s := by
  obtain ⟨o, doc, pm, an, cd, ct, ho, hd', hc⟩ := G.fn 39 rfl
  refine enterP ["p"] ["sep", "extsep"] ["p", "sep", "extsep"] [some (.str (T p) t), none, none] rfl rfl (Post := fun g' v => (∃ a t u, v = .ref a ∧ g' a = some (tup [.str (T (p.take (p.length - (endL (behind 47 p)).length))) t, .str (T (endL (behind 47 p))) u]))) hA R ho hd' hc rfl rfl (by decide) (by decide) (by decide) ?_ k
  intro φ L s₁ S
  repeat walk_at "1"
  refine w_fspath (hA.deeper _) (St.rdy (by assumption)) G fun v g' s' F hv => ?_
  subst hv
  have S := St.back (by assumption) F
  repeat walk_at "1"
  refine isi_str_bytes ?_
  repeat walk_at "1"
  refine w_splitext_ ((hA.deeper _).le (by decide)) (St.rdy (by assumption)) G hp fun v g' s' F hv => ?_
  have S := St.back (by assumption) F
  (repeat walk_at "kn"); exact ⟨_, _, _, S, hv⟩
end
end
section
open PySem PySem.Calls PyProof.Rows PySem.Spec PySem.W PySem.Builtin.Str
section
variable {W : Wd} {f : Nat → Addr} {g : Gr} {s : Shared} {A : Around} {Q : Value → Shared → Prop}
set_option linter.unusedVariables false
noncomputable def joinP (p q : List Nat) : List Nat := if p = [] then q else if [47].isSuffixOf p then p ++ q else p ++ 47 :: q
inductive JJn (tp : Addr) (p q : List Nat) (u t1 : Tok) (i : Nat) (g : Gr) (vals : List (Option Value)) (mu : List (Addr × Obj)) : Prop
  | mk (hT : g tp = some (tup [.str (T q) u])) (hm : mu = []) (t2 t3 : Tok) (vb : Option Value) (hv : vals = [some (.str (T p) t2), some (.ref tp), some (.str (T [47]) t1), some (.str (T (if i = 0 then p else joinP p q)) t3), vb]) : JJn tp p q u t1 i g vals mu
theorem w_join (hA : Rm 3 A) (R : Rdy W g s) (G : Gl W f) {p q : List Nat} {t u : Tok} (hp : p.length ≤ 1000) (hq : q.length ≤ 1000) (hsep : ∀ r, q ≠ 47 :: r)
    (k : ∀ v g' s', Fin' W g s g' s' → (∃ t, v = .str (T (joinP p q)) t) → Q v s') :
    wpAny (model PP W.w) A (call (.ref (f 37)) [.str (T p) t, .str (T q) u]) Q NoE s := by
  obtain ⟨o, doc, pm, an, cd, ct, ho, hd', hc⟩ := G.fn 37 rfl
  refine enterV (names := ["a", "p", "sep", "path", "b"]) (vs := [.str (T q) u]) (bnd := fun v => [("a", .str (T p) t), ("p", v)]) (Post := fun g' v => ∃ t, v = .str (T (joinP p q)) t) (fun v => [some (.str (T p) t), some v, none, none, none]) hA R ho hd' hc rfl (by simp) (fun v => by simp; decide) (fun v => rfl) (fun v x => ?_) rfl rfl rfl (by decide) ?_ k
  · exact lookup_zip_reverse (params := ["a", "p"]) ["sep", "path", "b"] [.str (T p) t, v] rfl (by decide) x
  intro φ L tp g₁ s₁ hg hT S
  repeat walk_at "1"
  refine w_fspath (hA.deeper _) (St.rdy (by assumption)) G fun v g' s' F hv => ?_
  subst hv
  have S := St.back (by assumption) F
  have hT := F.sub _ _ hT
  repeat walk_at "1"
  refine w_get_sep (hA.deeper _) (St.rdy (by assumption)) G fun v g' s' F hv => ?_
  obtain ⟨t1, rfl⟩ := hv
  have S := St.back (by assumption) F
  have hT := F.sub _ _ hT
  repeat walk_at "1"
  refine it_tup (by assumption) (St.gh (by assumption) _ _ hT) rfl ?_
  intro I o s₂ hI S
  refine for_loop (JJn tp p q u t1)
    (Nx.tup (hA.deeper _).1 (vs := [.str (T q) u])) (fun _ _ _ _ (.mk h ..) => .inl h) hI S ⟨hT, rfl, _, _, _, rfl⟩ (fun _ => rfl) ?_ ?_
  · rintro i g vals mu v s o hi ⟨hT, rfl, t2, t3, vb, rfl⟩ hv S
    have : i = 0 := by simp at hi; exact hi
    subst this
    cases hv
    rw [if_pos rfl] at S
    repeat walk_at "1"
    refine w_fspath (hA.deeper _) (St.rdy (by assumption)) G fun v g' s' F hv => ?_
    subst hv
    have S := St.back (by assumption) F
    have hT := F.sub _ _ hT
    repeat walk_at "1"
    have hpre : [47].isPrefixOf q = false := by
      cases q with
      | nil => rfl
      | cons x r =>
        have : x ≠ 47 := fun e => hsep r (by rw [e])
        simp [List.isPrefixOf, Ne.symm this]
    rw [hpre]
    repeat walk_at "1"
    have fin : ∀ {x : List Nat} {t3 : Tok} {g' s' vb}, St W φ g₁ ["a", "p", "sep", "path", "b"] g' L [some (.str (T p) t2), some (.ref tp), some (.str (T [47]) t1), some (.str (T x) t3), vb] [(I, o)] s' → g' tp = some (tup [.str (T q) u]) → x = joinP p q →
        Bk W φ g₁ ["a", "p", "sep", "path", "b"] L [(I, o)] (JJn tp p q u t1) (0 + 1) s' := by
      intro x t3 g' s' vb S hT e
      subst e
      exact ⟨_, _, [], [], S, hT, rfl, _, _, _, rfl⟩
    by_cases hpe : p = []
    · subst hpe
      refine ⟨fun _ => ?_, fun h => absurd h (by decide)⟩
      repeat walk_at "1"
      exact fin (by assumption) hT (by simp [joinP])
    · have hne : p.isEmpty = false := by cases p <;> simp at hpe ⊢
      rw [hne]
      refine ⟨fun h => absurd h (by decide), fun _ => ?_⟩
      repeat walk_at "1"
      cases hsf : [47].isSuffixOf p
      · repeat walk_at "1"
        exact fin (by assumption) hT (by simp [joinP, hpe, hsf])
      · repeat walk_at "1"
        exact fin (by assumption) hT (by simp [joinP, hpe, hsf])
  · rintro g vals mu s ⟨hT, rfl, t2, t3, vb, rfl⟩ S
    repeat walk_at "1"
    exact ⟨_, _, _, S, _, rfl⟩
end
end
section
open PySem PySem.Calls PyProof.Rows PySem.Spec PySem.W PySem.Builtin.Str
section
variable {W : Wd} {f : Nat → Addr} {g : Gr} {s : Shared} {A : Around} {Q : Value → Shared → Prop}
set_option linter.unusedVariables false
theorem joinL_cons (sep x : List Nat) {ls : List (List Nat)} (h : ls ≠ []) : joinL sep (x :: ls) = x ++ sep ++ joinL sep ls := by
  cases ls with
  | nil => exact absurd rfl h
  | cons y r => rfl
theorem joinL_snoc (sep z : List Nat) : ∀ init : List (List Nat), joinL sep (init ++ [z]) = (init.map fun x => x ++ sep).flatten ++ z
  | [] => rfl
  | x :: r => by rw [List.cons_append, joinL_cons _ _ (by simp), joinL_snoc sep z r]; simp
theorem joinL_splitL (c : Nat) (l : List Nat) : joinL [c] (splitL c l) = l := by
  induction l with
  | nil => rfl
  | cons x r ih =>
    by_cases h : x = c
    · subst h; rw [splitL_sep, joinL_cons _ _ (splitL_ne _ _), ih]; rfl
    · rw [splitL_other h]
      cases hq : splitL c r with
      | nil => exact absurd hq (splitL_ne _ _)
      | cons p ps =>
        rw [hq] at ih
        show joinL [c] ((x :: p) :: ps) = _
        cases ps with
        | nil => show x :: p = _; rw [← ih]; rfl
        | cons y q => rw [← ih]; rfl
theorem splitL_free (c : Nat) (l : List Nat) : ∀ p ∈ splitL c l, c ∉ p := by
  induction l with
  | nil => intro p hp; simp [splitL] at hp; subst hp; simp
  | cons x r ih =>
    by_cases h : x = c
    · subst h; rw [splitL_sep]; intro p hp
      rcases List.mem_cons.mp hp with rfl | hp
      · simp
      · exact ih p hp
    · rw [splitL_other h]
      cases hq : splitL c r with
      | nil => exact absurd hq (splitL_ne _ _)
      | cons p ps =>
        rw [hq] at ih
        intro q hq'
        rcases List.mem_cons.mp hq' with rfl | hq'
        · rw [List.mem_cons, not_or]; exact ⟨Ne.symm h, ih p List.mem_cons_self⟩
        · exact ih q (List.mem_cons_of_mem _ hq')
theorem behind_free_eq {c : Nat} {z : List Nat} (h : c ∉ z) : behind c z = z := by
  have e := upto_behind c z
  rcases upto_cases c z with h1 | ⟨m, h1⟩
  · rw [h1, List.nil_append] at e; exact e
  · rw [h1] at e; exact absurd (by rw [← e]; simp) h
theorem splitL_last (c : Nat) (l : List Nat) : ∃ init, splitL c l = init ++ [behind c l] ∧ (∀ x ∈ init, c ∉ x) ∧ upto c l = (init.map fun x => x ++ [c]).flatten := by
  have hne := splitL_ne c l
  have hf := splitL_free c l
  have hj := joinL_splitL c l
  obtain ⟨init, z, e⟩ : ∃ init z, splitL c l = init ++ [z] := ⟨_, _, (List.dropLast_concat_getLast hne).symm⟩
  rw [e] at hf hj
  rw [joinL_snoc] at hj
  have hz : c ∉ z := hf z (by simp)
  have hb : behind c l = z := by
    rw [← hj]
    rcases List.eq_nil_or_concat init with rfl | ⟨i, y, rfl⟩
    · exact behind_free_eq hz
    · have : ((i.concat y).map fun x => x ++ [c]).flatten ++ z = ((i.map fun x => x ++ [c]).flatten ++ y) ++ c :: z := by simp
      rw [this, behind_eq hz]
  refine ⟨init, by rw [hb]; exact e, fun x hx => hf x (by simp [hx]), ?_⟩
  have := upto_behind c l
  rw [hb] at this
  conv at this => rhs; rw [← hj]
  exact List.append_cancel_right this
theorem length_upto_le (c : Nat) (l : List Nat) : (upto c l).length ≤ l.length := by
  have := congrArg List.length (upto_behind c l); rw [List.length_append] at this; walk_at "o"
theorem length_behind_le (c : Nat) (l : List Nat) : (behind c l).length ≤ l.length := by
  have := congrArg List.length (upto_behind c l); rw [List.length_append] at this; walk_at "o"
theorem txs_split {ps : List (List Nat × Tok)} {init : List (List Nat)} {z : List Nat} (h : ps.map (·.1) = init ++ [z]) : ∃ qs u, ps = qs ++ [(z, u)] ∧ qs.map (·.1) = init := by
  rcases List.eq_nil_or_concat ps with rfl | ⟨qs, q, rfl⟩
  · simp at h
  · rw [List.concat_eq_append, List.map_append, List.map_singleton] at h
    obtain ⟨h1, h2⟩ := List.append_inj' h rfl
    simp at h2
    exact ⟨qs, q.2, by rw [List.concat_eq_append, ← h2], h1⟩
theorem txs_append (a b : List (List Nat × Tok)) : txs (a ++ b) = txs a ++ txs b := List.map_append
theorem w_law_ending (hA : Rm 1 A) (R : Rdy W g s) (G : Gl W f) {p : List Nat} {t : Tok} (hp : p.length ≤ 1000)
    (k : ∀ v g' s', Fin' W g s g' s' → (∃ t, v = .str (T (endL p)) t) → Q v s') :
    wpAny (model PP W.w) A (call (.ref (f 44)) [.str (T p) t]) Q NoE s := by
  obtain ⟨o, doc, pm, an, cd, ct, ho, hd', hc⟩ := G.fn 44 rfl
  refine enterP ["name"] ["body"] ["name", "body"] [some (.str (T p) t), none] rfl rfl (Post := fun g' v => ∃ t, v = .str (T (endL p)) t) hA R ho hd' hc rfl rfl (by decide) (by decide) (by decide) ?_ k
  intro φ L s₁ S
  repeat walk_at "1"
  have hlen : (p.dropWhile (· == 46)).length ≤ 1000 := Nat.le_trans (List.dropWhile_suffix _).length_le hp
  cases hm : decide (46 ∈ p.dropWhile (· == 46))
  · have hm' : 46 ∉ p.dropWhile (· == 46) := by simpa using hm
    refine ⟨fun _ => ?_, fun h => absurd h (by decide)⟩
    repeat walk_at "1"
    exact ⟨_, _, _, by assumption, _, by rw [endL, if_neg hm']⟩
  · have hm' : 46 ∈ p.dropWhile (· == 46) := by simpa using hm
    refine ⟨fun h => absurd h (by decide), fun _ => ?_⟩
    repeat walk_at "1"
    obtain ⟨init, e1, e2, e3⟩ := splitL_last 46 (p.dropWhile (· == 46))
    have hps := (by assumption : List.map (fun x : List Nat × Tok => x.1) _ = splitL 46 (p.dropWhile (· == 46)))
    rw [e1] at hps
    obtain ⟨qs, u, e, hq⟩ := txs_split hps
    subst e
    rename_i S
    rw [txs_append] at S
    have hqs : (txs qs).length ≤ 1000 := by
      have := congrArg List.length hq; have := splitL_len 46 (p.dropWhile (· == 46)); rw [e1] at this
      simp [txs] at *; walk_at "o"
    have hbl := length_behind_le 46 (p.dropWhile (· == 46))
    refine l_last (vs := txs qs) (x := .str (T (behind 46 (p.dropWhile (· == 46)))) u) (by walk_at "hp") rfl (by walk_at "o") (by with_unfolding_all rfl) ?_
    repeat walk_at "1"
    exact ⟨_, _, _, by assumption, _, by rw [endL, if_pos hm']; rfl⟩
end
end
section
open PySem PySem.Calls PyProof.Rows PySem.Spec PySem.W PySem.Builtin.Str
section
variable {W : Wd} {f : Nat → Addr} {g : Gr} {s : Shared} {A : Around} {Q : Value → Shared → Prop}
set_option linter.unusedVariables false
theorem w_law_glued (hA : Rm 1 A) (R : Rdy W g s) (G : Gl W f) {p q : List Nat} {t u : Tok} (hp : p.length ≤ 1000) (hq : q.length ≤ 1000)
    (k : ∀ v g' s', Fin' W g s g' s' → (∃ t, v = .str (T (joinP p q)) t) → Q v s') :
    wpAny (model PP W.w) A (call (.ref (f 45)) [.str (T p) t, .str (T q) u]) Q NoE s := by
  obtain ⟨o, doc, pm, an, cd, ct, ho, hd', hc⟩ := G.fn 45 rfl
  refine enterP ["folder", "name"] [] ["folder", "name"] [some (.str (T p) t), some (.str (T q) u)] rfl rfl (Post := fun g' v => ∃ t, v = .str (T (joinP p q)) t) hA R ho hd' hc rfl rfl (by decide) (by decide) (by decide) ?_ k
  intro φ L s₁ S
  rcases List.eq_nil_or_concat p with rfl | ⟨i, y, rfl⟩
  · walk_at "go"
    have e : joinP [] q = [] ++ q := by simp [joinP]
    exact ⟨_, _, _, by assumption, _, by rw [e]⟩
  · rw [List.concat_eq_append] at *
    walk_at "go"
    by_cases hy : y = 47
    · subst hy
      walk_at "go"
      have e : joinP (i ++ [47]) q = (i ++ [47]) ++ q := by simp [joinP]
      exact ⟨_, _, _, by assumption, _, by rw [e]⟩
    · walk_at "go"
      have e : joinP (i ++ [y]) q = (i ++ [y]) ++ [47] ++ q := by
        have : ¬ [47] <:+ i ++ [y] := by
          rintro ⟨w, hw⟩
          have := List.append_inj' hw rfl
          simp at this
          exact hy this.2.symm
        simp [joinP, this]
      exact ⟨_, _, _, by assumption, _, by rw [e]⟩
theorem w_law_sign1 (hA : Rm 1 A) (R : Rdy W g s) (G : Gl W f) {c : Nat} {t : Tok} (hc' : c ∉ [46, 94, 36, 42, 43, 63, 123, 125, 91, 93, 92, 124, 40, 41])
    (k : ∀ v g' s', Fin' W g s g' s' → (∃ t, v = .str (T [c]) t) → Q v s') :
    wpAny (model PP W.w) A (call (.ref (f 49)) [.str (T [c]) t]) Q NoE s := by
  obtain ⟨o, doc, pm, an, cd, ct, ho, hd', hc⟩ := G.fn 49 rfl
  refine enterP ["part"] [] ["part"] [some (.str (T [c]) t)] rfl rfl (Post := fun g' v => ∃ t, v = .str (T [c]) t) hA R ho hd' hc rfl rfl (by decide) (by decide) (by decide) ?_ k
  intro φ L s₁ S
  walk_at "go"
  exact ⟨_, _, _, by assumption, _, rfl⟩
theorem w_law_sign2 (hA : Rm 1 A) (R : Rdy W g s) (G : Gl W f) {c : Nat} {t : Tok} (hc' : Unicode.isAlnum c = false)
    (k : ∀ v g' s', Fin' W g s g' s' → (∃ t, v = .str (T [c]) t) → Q v s') :
    wpAny (model PP W.w) A (call (.ref (f 49)) [.str (T [92, c]) t]) Q NoE s := by
  obtain ⟨o, doc, pm, an, cd, ct, ho, hd', hc⟩ := G.fn 49 rfl
  refine enterP ["part"] [] ["part"] [some (.str (T [92, c]) t)] rfl rfl (Post := fun g' v => ∃ t, v = .str (T [c]) t) hA R ho hd' hc rfl rfl (by decide) (by decide) (by decide) ?_ k
  intro φ L s₁ S
  walk_at "go"
  exact ⟨_, _, _, by assumption, _, rfl⟩
theorem w_law_sign3 (hA : Rm 1 A) (R : Rdy W g s) (G : Gl W f) {c : Nat} {t : Tok} (h1 : c ≠ 94) (h2 : c ≠ 92)
    (k : ∀ v g' s', Fin' W g s g' s' → (∃ t, v = .str (T [c]) t) → Q v s') :
    wpAny (model PP W.w) A (call (.ref (f 49)) [.str (T [91, c, 93]) t]) Q NoE s := by
  obtain ⟨o, doc, pm, an, cd, ct, ho, hd', hc⟩ := G.fn 49 rfl
  refine enterP ["part"] [] ["part"] [some (.str (T [91, c, 93]) t)] rfl rfl (Post := fun g' v => ∃ t, v = .str (T [c]) t) hA R ho hd' hc rfl rfl (by decide) (by decide) (by decide) ?_ k
  intro φ L s₁ S
  walk_at "go"
  exact ⟨_, _, _, by assumption, _, rfl⟩
theorem w_law_sign4 (hA : Rm 1 A) (R : Rdy W g s) (G : Gl W f) {c : Nat} {t : Tok} (hc' : Unicode.isAlnum c = false)
    (k : ∀ v g' s', Fin' W g s g' s' → (∃ t, v = .str (T [c]) t) → Q v s') :
    wpAny (model PP W.w) A (call (.ref (f 49)) [.str (T [91, 92, c, 93]) t]) Q NoE s := by
  obtain ⟨o, doc, pm, an, cd, ct, ho, hd', hc⟩ := G.fn 49 rfl
  refine enterP ["part"] [] ["part"] [some (.str (T [91, 92, c, 93]) t)] rfl rfl (Post := fun g' v => ∃ t, v = .str (T [c]) t) hA R ho hd' hc rfl rfl (by decide) (by decide) (by decide) ?_ k
  intro φ L s₁ S
  walk_at "go"
  exact ⟨_, _, _, by assumption, _, rfl⟩
end
end
section
open PySem PySem.Calls PyProof.Rows PySem.Spec PySem.W PySem.Builtin.Str
section
variable {W : Wd} {f : Nat → Addr} {g : Gr} {s : Shared} {A : Around} {Q : Value → Shared → Prop}
set_option linter.unusedVariables false
noncomputable def odd : List Nat := [42, 63, 91, 93, 92, 45, 94, 124]
noncomputable def spell1 (c : Nat) : List Nat := if c ∈ odd then [91, c, 93] else [c]
noncomputable def spellL (l : List Nat) : List Nat := (l.map spell1).flatten
theorem joinL_nil (ls : List (List Nat)) : joinL [] ls = ls.flatten := by
  induction ls with
  | nil => rfl
  | cons x r ih =>
    cases r with
    | nil => simp [joinL]
    | cons y r => rw [joinL_cons _ _ (by simp), ih]; simp
theorem spell1_len (c : Nat) : (spell1 c).length ≤ 3 := by unfold spell1; split <;> simp
theorem spellL_len (l : List Nat) : (spellL l).length ≤ 3 * l.length := by
  unfold spellL
  induction l with
  | nil => simp
  | cons c r ih => have := spell1_len c; simp at *; walk_at "o"
inductive JSp (g : Gr) (D : Addr) (p : List Nat) (t : Tok) (i : Nat) (g' : Gr) (vals : List (Option Value)) (mu : List (Addr × Obj)) : Prop
  | mk (hg : g' = g) (ps : List (List Nat × Tok)) (n : Nat) (vb : Option Value) (hm : mu = [(D, lst (txs ps) n)]) (hp : ps.map (·.1) = (p.take i).map spell1) (hv : vals = [some (.str (T p) t), some (.ref D), vb]) : JSp g D p t i g' vals mu
theorem w_law_spelled (hA : Rm 1 A) (R : Rdy W g s) (G : Gl W f) {p : List Nat} {t : Tok} (hp : p.length ≤ 500)
    (k : ∀ v g' s', Fin' W g s g' s' → (∃ t, v = .str (T (spellL p)) t) → Q v s') :
    wpAny (model PP W.w) A (call (.ref (f 46)) [.str (T p) t]) Q NoE s := by
  obtain ⟨o, doc, pm, an, cd, ct, ho, hd', hc⟩ := G.fn 46 rfl
  refine enterP ["text"] ["signs", "sign"] ["text", "signs", "sign"] [some (.str (T p) t), none, none] rfl rfl (Post := fun g' v => ∃ t, v = .str (T (spellL p)) t) hA R ho hd' hc rfl rfl (by decide) (by decide) (by decide) ?_ k
  intro φ L s₁ S
  walk_at "go"
  rename_i D s₂ hD S₂ s₃ S
  refine it_str S ?_
  intro I o s₂ hI S
  refine for_loop (JSp g D p t)
    (Nx.str (hA.deeper _).1) (fun _ _ _ _ _ => trivial) hI S ⟨rfl, [], _, _, rfl, rfl, rfl⟩ (fun _ => rfl) ?_ ?_
  · rintro i g vals mu v s o hi ⟨rfl, ps, n, vb, rfl, hps, rfl⟩ ⟨c, u, hc, rfl⟩ S
    have hl : ps.length = i := by have := congrArg List.length hps; simp at this; walk_at "o"
    have hl2 : (txs ps).length ≤ 1000 := by simp [txs]; walk_at "o"
    have fin : ∀ {x : List Nat} {u : Tok} {s' vb n}, St W φ g ["text", "signs", "sign"] g L [some (.str (T p) t), some (.ref D), vb] [(I, o), (D, lst (txs ps ++ [.str (T x) u]) n)] s' → x = spell1 c →
        Bk W φ g ["text", "signs", "sign"] L [(I, o)] (JSp g D p t) (i + 1) s' := by
      intro x u s' vb n S e
      subst e
      refine ⟨_, _, [(D, lst (txs (ps ++ [(spell1 c, u)])) n)], [], by rw [txs_append]; exact S, rfl, _, _, _, rfl, ?_, rfl⟩
      rw [List.map_append, hps, List.take_succ_eq_append_getElem hi, List.map_append]
      have : p[i] = c := by rw [List.getElem?_eq_getElem hi] at hc; exact Option.some.inj hc
      rw [this]; rfl
    walk_at "go"
    by_cases hc2 : c ∈ odd
    · have hb : decide (c ∈ ([42, 63, 91, 93, 92, 45, 94, 124] : List Nat)) = true := decide_eq_true hc2
      walk_at "go"
      exact fin (by assumption) (by simp [spell1, hc2])
    · have hb : decide (c ∈ ([42, 63, 91, 93, 92, 45, 94, 124] : List Nat)) = false := decide_eq_false hc2
      walk_at "go"
      exact fin (by assumption) (by simp [spell1, hc2])
  · rintro g vals mu s ⟨rfl, ps, n, vb, rfl, hps, rfl⟩ S
    walk_at "go"
    rw [List.take_length] at hps
    have hsum : ((ps.map (·.1)).map (·.length)).sum + ps.length * ([] : List Nat).length ≤ 16777216 := by
      rw [hps]
      have : ∀ l : List Nat, ((l.map spell1).map (·.length)).sum ≤ 3 * l.length := by
        intro l
        induction l with
        | nil => simp
        | cons c r ih => have := spell1_len c; simp at *; walk_at "o"
      have := this p
      simp at *; walk_at "o"
    refine s_join (by assumption) (by walk_at "hp") rfl hsum ?_
    intros
    have e : joinL [] (ps.map (·.1)) = spellL p := by rw [hps, joinL_nil]; rfl
    (repeat walk_at "kn"); exact ⟨_, _, _, by assumption, _, by rw [e]⟩
end
end
section
open PySem PySem.Calls PyProof.Rows PySem.Spec PySem.W PySem.Builtin.Str
section
variable {W : Wd} {f : Nat → Addr} {g : Gr} {s : Shared} {A : Around} {Q : Value → Shared → Prop}
set_option linter.unusedVariables false
theorem flat_empty : ∀ bs : List (List Nat), (∀ b ∈ bs, b = []) → (bs.map fun x => x ++ [47]).flatten = List.replicate bs.length 47
  | [], _ => rfl
  | b :: r, h => by
    have hb := h b List.mem_cons_self
    subst hb
    rw [List.map_cons, List.flatten_cons, flat_empty r fun x hx => h x (List.mem_cons_of_mem _ hx), List.length_cons, List.replicate_succ]; rfl
theorem hd_empty {p : List Nat} {init : List (List Nat)} (hu : upto 47 p = (init.map fun x => x ++ [47]).flatten) (h : ∀ b ∈ init, b = []) : hd p = List.replicate init.length 47 := by
  rw [flat_empty init h] at hu
  unfold hd
  rw [if_pos (by rw [hu]; simp [List.all_replicate]), hu]
theorem hd_join {p : List Nat} {as' bs : List (List Nat)} {b : List Nat} (hu : upto 47 p = (((as' ++ [b]) ++ bs).map fun x => x ++ [47]).flatten) (hb : ∀ b ∈ bs, b = []) (hne : b ≠ []) (hf : 47 ∉ b) :
    hd p = joinL [47] (as' ++ [b]) := by
  rw [joinL_snoc]
  obtain ⟨b', y, rfl⟩ : ∃ b' y, b = b' ++ [y] := by
    rcases List.eq_nil_or_concat b with h | ⟨b', y, h⟩
    · exact absurd h hne
    · exact ⟨b', y, by rw [h, List.concat_eq_append]⟩
  have hy : y ≠ 47 := fun e => hf (by simp [e])
  have e : upto 47 p = (((as'.map fun x => x ++ [47]).flatten ++ b') ++ [y]) ++ List.replicate (bs.length + 1) 47 := by
    rw [hu, List.map_append, List.flatten_append, flat_empty bs hb]
    simp [List.replicate_succ]
  unfold hd
  rw [if_neg (by rw [e]; simp [hy]), e, List.reverse_append, List.reverse_replicate]
  rw [dropWhile_all (by intro x hx; simp [List.eq_of_mem_replicate hx])]
  rw [List.reverse_append, List.reverse_singleton, List.singleton_append, List.dropWhile_cons, if_neg (by simp [hy])]
  simp
theorem sum_flat : ∀ init : List (List Nat), (init.map fun x => x ++ [47]).flatten.length = (init.map (·.length)).sum + init.length
  | [] => rfl
  | x :: r => by have := sum_flat r; simp at *; walk_at "o"
inductive JcW (W : Wd) (φ g0 g' : Gr) (L : Addr) (p : List Nat) (t u : Tok) (D : Addr) (qs : List (List Nat × Tok)) : Nat → Shared → Prop
  | mk (as bs : List (List Nat × Tok)) (m : Nat) (s : Shared) (hab : qs = as ++ bs) (hbs : ∀ b ∈ bs, b.1 = []) (S : St W φ g0 ["path", "above", "name"] g' L [some (.str (T p) t), some (.ref D), some (.str (T (behind 47 p)) u)] [(D, lst (txs as) m)] s) : JcW W φ g0 g' L p t u D qs as.length s
theorem w_law_cut (hA : Rm 1 A) (R : Rdy W g s) (G : Gl W f) {p : List Nat} {t : Tok} (hp : p.length ≤ 400)
    (k : ∀ v g' s', Fin' W g s g' s' → (∃ a t u, v = .ref a ∧ g' a = some (tup [.str (T (hd p)) t, .str (T (behind 47 p)) u])) → Q v s') :
    wpAny (model PP W.w) A (call (.ref (f 43)) [.str (T p) t]) Q NoE s := by
  obtain ⟨o, doc, pm, an, cd, ct, ho, hd', hc⟩ := G.fn 43 rfl
  refine enterP ["path"] ["above", "name"] ["path", "above", "name"] [some (.str (T p) t), none, none] rfl rfl (Post := fun g' v => (∃ a t u, v = .ref a ∧ g' a = some (tup [.str (T (hd p)) t, .str (T (behind 47 p)) u]))) hA R ho hd' hc rfl rfl (by decide) (by decide) (by decide) ?_ k
  intro φ L s₁ S
  walk_at "go"
  have hps := (by assumption : List.map (fun x : List Nat × Tok => x.1) _ = splitL 47 p)
  obtain ⟨init, e1, e2, e3⟩ := splitL_last 47 p
  rw [e1] at hps
  obtain ⟨qs, u, e, hq⟩ := txs_split hps
  subst e
  rename_i S
  rw [txs_append] at S
  have hqs : (txs qs).length ≤ 400 := by
    have := congrArg List.length hq; have := splitL_len 47 p; rw [e1] at this
    simp [txs] at *; walk_at "o"
  refine l_pop [] S (by walk_at "o") ?_
  intros
  walk_at "go"
  refine it_list (by assumption) (by walk_at "hp") rfl ?_
  intro I o s₂ hI S
  refine comp_run (fun i g' ys => g' = g ∧ ys.isEmpty = (qs.take i).all (fun q => q.1.isEmpty)) S rfl (Nx.of_mu (pre := []) (hA.deeper _).1 S) (fun _ _ _ _ => trivial) hI ⟨rfl, rfl⟩ rfl rfl (by decide) (by walk_at "o") (fun _ => rfl) ?_ ?_
  · rintro i g' ys φ' L' v cenv s' mu' hi ⟨rfl, hys⟩ hv hφ - rfl hyl S
    have hi' : i < qs.length := by simpa [txs] using hi
    have hv' : v = .str (T (qs[i]).1) (qs[i]).2 := by
      have : (txs qs)[i]? = some (.str (T (qs[i]).1) (qs[i]).2) := by simp [txs, hi']
      rw [this] at hv; exact (Option.some.inj hv).symm
    subst hv'
    (walk_at "1"); refine wpAny_tests_one ?_
    walk_at "go"
    refine ⟨fun h => ?_, fun h => ?_⟩
    · walk_at "go"
      refine ⟨_, [], _, .refl _, rfl, by assumption, rfl, ?_⟩
      have hf : (qs[i]).1.isEmpty = false := by
        cases hq : (qs[i]).1 with
        | nil => rw [hq] at h; cases h
        | cons _ _ => rfl
      rw [List.take_succ_eq_append_getElem hi', List.all_append]
      simp [hf]
    · (repeat walk_at "kn"); refine ⟨_, [], _, .refl _, rfl, by assumption, rfl, ?_⟩
      have hf : (qs[i]).1.isEmpty = true := by
        cases hq : (qs[i]).1 with
        | nil => rfl
        | cons _ _ => rw [hq] at h; cases h
      rw [List.take_succ_eq_append_getElem hi', List.all_append, hys]
      simp [hf]
  · rintro g' ys D₂ m s' - hyl ⟨rfl, hys⟩ S
    have hyq : ys.isEmpty = qs.all (fun q => q.1.isEmpty) := by
      rw [hys, show (txs qs).length = qs.length by simp [txs], List.take_length]
    walk_at "go"
    refine e_nil (hA.deeper _) (by walk_at "hp") rfl (by walk_at "hp") rfl ?_
    walk_at "go"
    have hql : qs.length ≤ 400 := by simpa [txs] using hqs
    have hinit : ∀ q ∈ qs, 47 ∉ q.1 := fun q hq' => e2 _ (by rw [← hq]; exact List.mem_map_of_mem hq')
    refine ⟨fun h => ?_, fun h => ?_⟩
    · rw [hyq] at h
      have hall : ∀ b ∈ init, b = [] := by
        rw [← hq]; intro b hb
        obtain ⟨q, hq', rfl⟩ := List.mem_map.mp hb
        have := List.all_eq_true.mp h q hq'
        simpa using this
      have hlen : init.length = qs.length := by rw [← hq]; simp
      walk_at "go"
      refine l_len (by assumption) (by walk_at "hp") rfl (by walk_at "o") ?_
      intros
      walk_at "go"
      rename_i ha S
      rw [show (txs qs).length = init.length by rw [hlen]; simp [txs], ← hd_empty e3 hall] at ha
      exact ⟨_, _, _, S, _, _, _, rfl, ha⟩
    · have hnall : ¬ (qs.all fun q => q.1.isEmpty) = true := by rw [← hyq, h]; decide
      rename_i S
      have S := St.dropPre (new := [_, _]) S
      walk_at "go"
      refine ex_while (JcW W φ g' g' L p t u _ qs) qs.length ⟨qs, [], _, _, by simp, by simp, S⟩ ?_
      rintro n s ⟨as, bs, m, _, hab, hbs, S⟩
      rcases List.eq_nil_or_concat as with rfl | ⟨as', b, rfl⟩
      · exfalso
        apply hnall
        rw [hab, List.nil_append, List.all_eq_true]
        intro q hq'; simp [hbs q hq']
      · rw [List.concat_eq_append, txs_append] at S
        rw [List.concat_eq_append] at hab ⊢
        have hasl : as'.length + 1 + bs.length = qs.length := by rw [hab]; simp; walk_at "o"
        walk_at "go"
        refine l_last (vs := txs as') (x := .str (T b.1) b.2) (by walk_at "hp") rfl (by simp [txs]; walk_at "o") (by with_unfolding_all rfl) ?_
        walk_at "go"
        refine ⟨fun h => ?_, fun h => ?_⟩
        · walk_at "go"
          refine l_pop [] (vs := txs as') (y := .str (T b.1) b.2) (by assumption) (by simp [txs]; walk_at "o") ?_
          intros
          walk_at "go"
          have hb0 : b.1 = [] := by simpa using h
          exact ⟨as'.length, by simp, as', b :: bs, _, _, by rw [hab]; simp, by intro x hx; rcases List.mem_cons.mp hx with rfl | hx; exact hb0; exact hbs x hx, by assumption⟩
        · have hb0 : b.1 ≠ [] := by simpa using h
          have hb47 : 47 ∉ b.1 := hinit b (by rw [hab]; simp)
          have hie : init = (as'.map (·.1) ++ [b.1]) ++ bs.map (·.1) := by rw [← hq, hab]; simp
          have hjoin : hd p = joinL [47] (as'.map (·.1) ++ [b.1]) := hd_join (by rw [e3, hie]) (by intro x hx; obtain ⟨q, hq', rfl⟩ := List.mem_map.mp hx; exact hbs q hq') hb0 hb47
          have hsum := sum_flat init
          rw [← e3] at hsum
          have hup := length_upto_le 47 p
          have hsz : (((as' ++ [b]).map (·.1)).map (·.length)).sum ≤ (init.map (·.length)).sum := by rw [hie]; simp
          walk_at "go"
          refine s_join (ps := as' ++ [b]) (by assumption) (by walk_at "hp") (by rw [txs_append]) (by simp at hsz hsum ⊢; walk_at "o") ?_
          intros
          walk_at "go"
          rename_i ha S
          rw [List.map_append, List.map_singleton, ← hjoin] at ha
          exact ⟨_, _, _, S, _, _, _, rfl, ha⟩
end
end
section
open PySem PySem.Calls PyProof.Rows PySem.Spec PySem.W PySem.Builtin.Str
section
variable {W : Wd} {f : Nat → Addr} {g : Gr} {s : Shared} {A : Around} {Q : Value → Shared → Prop}
set_option linter.unusedVariables false
theorem w_unmatched (hA : Rm 1 A) (R : Rdy W g s) (G : Gl W f) {l : List Nat} {t : Tok} {v : Value} {hd b e : Nat} (hM : MatchAt g v (.str (T l) t) [0, hd, b, e]) (hl : l.length ≤ 100000) (hh : hd ≤ l.length)
    (k : ∀ v g' s', Fin' W g s g' s' → (∃ t, v = .str (T (l.drop hd)) t) → Q v s') : wpAny (model PP W.w) A (call (.ref (f 5)) [v]) Q NoE s := by
  obtain ⟨o, doc, pm, an, cd, ct, ho, hd', hc⟩ := G.fn 5 rfl
  refine enterP ["match"] ["start", "end"] ["match", "start", "end"] [some v, none, none] rfl rfl (Post := fun g' r => ∃ t, r = .str (T (l.drop hd)) t) hA R ho hd' hc rfl rfl (by decide) (by decide) (by decide) ?_ k
  intro φ L s₁ S
  walk_at "go"
  refine gm_mat hM (by assumption) sl_span ty_span ?_
  walk_at "go"
  refine c_span0 (by assumption) hM fun a t1 t2 g1 s1 hg1 ha S => ?_
  have hM := hM.mono hg1
  walk_at "go"
  refine Attribute_Name_ ?_
  walk_at "1"
  refine a_string (by assumption) hM fun _ _ => ?_
  walk_at "go"
  refine Attribute_Name_ ?_
  walk_at "1"
  refine a_string (by assumption) hM fun _ _ => ?_
  walk_at "go"
  exact ⟨_, _, _, by assumption, _, rfl⟩
end
end
section
open PySem PySem.Calls PyProof.Rows PySem.Spec PySem.W PySem.Builtin.Str
section
variable {W : Wd} {φ g0 g g' : Gr} {names : List Str} {L : Addr} {vals vals' : List (Option Value)} {mu : List (Addr × Obj)} {s s' : Shared} {A : Around} {E : Value → Shared → Prop}
noncomputable abbrev bndO (D : Addr) : Obj := { cls := .type "builtin_function_or_method", data := .fields #[.builtin "list.append", .ref D] }
theorem mbnd_all : (typeLookup (.type "list") "append" = pure (some (.builtin "list.append"))) ∧
  (typeOf (.builtin "list.append") = pure (.type "method_descriptor")) ∧
  (typeLookup (.type "method_descriptor") "__get__" = pure (some (.builtin "method_descriptor.__get__"))) ∧
  (typeLookup (.type "method_descriptor") "__set__" = pure none) ∧
  (typeLookup (.type "method_descriptor") "__delete__" = pure none) ∧
  (Slot "method_descriptor" "__get__" "method_descriptor.__get__") ∧
  (entryFor table "method_descriptor.__get__" = some Builtin.«method_descriptor.__get__») ∧
  (∀ (a b c : Value), argsOk "method_descriptor.__get__" ⟨[a, b, c], []⟩) ∧
  (Manifest.toldItsClass.contains "list.append" = false) :=
  ⟨(by rw [typeLookup_type, builtinLookup_eq_fast]; kernel_rfl),
  (by show builtinType _ = _; rw [builtinType_eq_fast]; kernel_rfl),
  (by rw [typeLookup_type, builtinLookup_eq_fast]; kernel_rfl),
  (by rw [typeLookup_type, builtinLookup_eq_fast]; kernel_rfl),
  (by rw [typeLookup_type, builtinLookup_eq_fast]; kernel_rfl),
  (.of (owner := "method_descriptor") (n := "__get__") (by rw [typeLookup_type, builtinLookup_eq_fast]; kernel_rfl) (by kernel_rfl) (by kernel_rfl) (by kernel_rfl) (.inl (by kernel_rfl)) (by rw [isSubtype_type]; kernel_rfl) (by kernel_rfl)),
  (entryFor_of_tree (by kernel_rfl)),
  (fun a b c => by unfold argsOk; kernel_rfl),
  (by kernel_rfl)⟩
theorem lk_lapp : typeLookup (.type "list") "append" = pure (some (.builtin "list.append")) := mbnd_all.1
theorem ty_lapp : typeOf (.builtin "list.append") = pure (.type "method_descriptor") := mbnd_all.2.1
theorem lk_mget : typeLookup (.type "method_descriptor") "__get__" = pure (some (.builtin "method_descriptor.__get__")) := mbnd_all.2.2.1
theorem lk_mset : typeLookup (.type "method_descriptor") "__set__" = pure none := mbnd_all.2.2.2.1
theorem lk_mdel : typeLookup (.type "method_descriptor") "__delete__" = pure none := mbnd_all.2.2.2.2.1
theorem sl_mget : Slot "method_descriptor" "__get__" "method_descriptor.__get__" := mbnd_all.2.2.2.2.2.1
theorem en_mget : entryFor table "method_descriptor.__get__" = some Builtin.«method_descriptor.__get__» := mbnd_all.2.2.2.2.2.2.1
theorem ar_mget (a b c : Value) : argsOk "method_descriptor.__get__" ⟨[a, b, c], []⟩ := mbnd_all.2.2.2.2.2.2.2.1 a b c
theorem told_lapp : Manifest.toldItsClass.contains "list.append" = false := mbnd_all.2.2.2.2.2.2.2.2
theorem sub_lown : isSubtype (.type "list") (.type (".".intercalate ("list.append".cutAt '.').dropLast)) = pure true := by
  have e : ".".intercalate ("list.append".cutAt '.').dropLast = "list" := by decide +kernel
  rw [e, isSubtype_type]; kernel_rfl
set_option maxHeartbeats 2000000 in
theorem run_mget {hp : Heap} {gg : Array GenState} {d : Drawn} {tk : Nat} {os : OsState} {D : Addr} {o : Obj} {P : Fin → Shared → Prop} (hD : hp.get? D = some o) (hc : o.cls = .type "list") (h : P (.done (.ret (.ref hp.objs.size))) ⟨hp.push (bndO D), gg, d, tk, os⟩) :
    wpAny (model PP W.w) A (Builtin.«method_descriptor.__get__» ⟨[.builtin "list.append", .ref D, .type "list"], []⟩) P E ⟨hp, gg, d, tk, os⟩ := by
  have hT : (⟨hp, gg, d, tk, os⟩ : Shared).TypeIs (.ref D) "list" := ⟨_, hD, hc⟩
  have f10 := sub_lown
  have f12 := told_lapp
  unfold Builtin.«method_descriptor.__get__»
  repeat (any_goals (first | assumption | (rw [f10]) | wp_step))
set_option maxHeartbeats 2000000 in
theorem run_oga {hp : Heap} {gg : Array GenState} {d : Drawn} {tk : Nat} {os : OsState} {D : Addr} {vs : List Value} {n : Nat} {t : Tok} {P : Fin → Shared → Prop} (hD : hp.get? D = some (lst vs n)) (h : P (.done (.ret (.ref hp.objs.size))) ⟨hp.push (bndO D), gg, d, tk, os⟩) :
    wpAny (model PP W.w) A (Builtin.«object.__getattribute__» ⟨[.ref D, .str "append" t], []⟩) P E ⟨hp, gg, d, tk, os⟩ := by
  have hT : (⟨hp, gg, d, tk, os⟩ : Shared).TypeIs (.ref D) "list" := ⟨_, hD, rfl⟩
  have f6 := lk_lapp
  have f7 := ty_lapp
  have f8 := lk_mget
  have f9 := lk_mset
  have f11 := lk_mdel
  unfold Builtin.«object.__getattribute__»
  repeat (any_goals (first | assumption | wp_step))
  refine codeAny_call_builtin sl_mget.plain en_mget (sl_mget.check _ _ _ _ _ _ _ _ ty_lapp (ar_mget _ _ _) ?_)
  exact run_mget hD rfl (by repeat (any_goals (first | assumption | wp_step)))
set_option maxHeartbeats 2000000 in
theorem a_append {D : Addr} {vs : List Value} {n : Nat} {Q : Value → Shared → Prop} (S : St W φ g0 names g L vals mu s) (hD : s.heap.get? D = some (lst vs n))
    (hQ : ∀ a g' s', Sub g g' → g' a = some (bndO D) → St W φ g0 names g' L vals mu s' → Q (.ref a) s') : wpAny (model PP W.w) A (getAttr (.ref D) "append" true) Q E s := by
  have hT : s.TypeIs (.ref D) "list" := ⟨_, hD, rfl⟩
  have hg0 : g s.heap.objs.size = none := by
    cases q : g s.heap.objs.size with
    | none => rfl
    | some o => exact absurd (Heap.lt_size (S.gh _ _ q)) (Nat.lt_irrefl _)
  have S' := (S.push_g (bndO D) rfl).tk (s.toks + 1)
  obtain ⟨hp, gg, d, tk, os⟩ := s
  have hT' : ∀ tk', (⟨hp, gg, d, tk', os⟩ : Shared).TypeIs (.ref D) "list" := fun _ => ⟨_, hD, rfl⟩
  have f3 := F.slot_list_getattribute.lookup
  have f4 := F.slot_list_getattribute.bind (.ref D)
  unfold getAttr getAttrBy
  repeat (any_goals (first | assumption | exact hT' _ | wp_step))
  refine codeAny_call_builtin F.slot_list_getattribute.plain F.entry_list_ga (F.slot_list_getattribute.check _ _ _ _ _ _ _ _ (hT' _) (F.args_list_getattribute_2 _ _) ?_)
  refine run_oga hD ?_
  repeat (any_goals (first | assumption | wp_step))
  exact hQ _ _ _ (gset_sub hg0) (gset_self _ _ _) S'
end
end
section
open PySem PySem.Calls PyProof.Rows PySem.Spec PySem.W PySem.Builtin.Str
section
variable {W : Wd} {φ g0 g g' : Gr} {names : List Str} {L : Addr} {vals vals' : List (Option Value)} {mu : List (Addr × Obj)} {s s' : Shared} {A : Around} {E : Value → Shared → Prop}
theorem kind_lapp : builtinKind "list.append" = some .method := by decide +kernel
theorem va_lapp : Manifest.varargsMethods.contains "list.append" = false := by decide +kernel
theorem sub_lmod : isSubtype (.type "list") (.type "module") = pure false := by rw [isSubtype_type]; kernel_rfl
theorem quiet_lapp {as : Args} : (Code.builtin "list.append" as).quiet = true := Code.quiet_builtin _ (by decide +kernel)
theorem sig_lapp : ∃ sig, Manifest.signature? "list.append" = some sig ∧ ∀ x y, Bind.checkArgs "list.append" { sig with full := s!"{Bind.lastOf "list"}.{Bind.lastOf "list.append"}" } ⟨[x, y], []⟩ = pure () := by
  refine ⟨_, signature?_of (id := "list.append") (n := ['d', 'n', 'e', 'p', 'p', 'a']) (o := ['t', 's', 'i', 'l']) (by kernel_rfl) F.owner_list, fun x y => ?_⟩
  kernel_rfl
theorem chk_lapp {D : Addr} {vs : List Value} {n : Nat} {x : Value} {Q : Unit → Shared → Prop} {M : Model} (hD : s.heap.get? D = some (lst vs n)) (h : Q () s) : wpAny M A (checkBoundCall "list.append" ⟨[.ref D, x], []⟩) Q E s := by
  obtain ⟨sig, e1, e2⟩ := sig_lapp
  have hT : s.TypeIs (.ref D) "list" := ⟨_, hD, rfl⟩
  have f1 := sub_lmod
  have f2 := va_lapp
  unfold checkBoundCall
  rw [e1, kind_lapp]
  show wpAny M A (if (Manifest.AttrKind.method != .method && Manifest.AttrKind.method != .classMethod) = true then _ else _) Q E s
  rw [if_neg (by decide)]
  refine wpAny_bind (wpAny_isInstance hT f1 ?_)
  rw [f2]
  rw [if_neg (show ¬ ((false || false) = true) by decide)]
  refine wpAny_bind ?_
  show wpAny M A (do return match (← loadHead D).data with | .cls _ => true | _ => false) _ E s
  refine wpAny_bind (wpAny_loadPart hD ?_)
  refine wpAny_pure ?_
  show wpAny M A (typeOf (.ref D) >>= _) Q E s
  refine wpAny_bind (wpAny_typeOf hT ?_)
  exact wpAny_of_eq (e2 _ _) h
theorem ite_T {α : Type} {M : Model} {c : Bool} {a b : Sem α} {Q : α → Shared → Prop} (hc : c = true) (h : wpAny M A a Q E s) : wpAny M A (if c = true then a else b) Q E s := by subst hc; exact h
theorem code_append {D : Addr} {vs : List Value} {n : Nat} {x : Value} {R : Result → Shared → Prop} {post : List (Addr × Obj)} (S : St W φ g0 names g L vals ((D, lst vs n) :: post) s) (hsz : vs.length ≤ 1000)
    (h : ∀ s', St W φ g0 names g L vals ((D, lst (vs ++ [x]) (n + 1)) :: post) s' → R (.ok (.ret .none)) s') :
    codeAny (model PP W.w) A (.builtin "list.append" ⟨[.ref D, x], []⟩) R s := by
  have mem : (D, lst vs n) ∈ (D, lst vs n) :: post := .head _
  refine codeAny_builtin F.entry_list_append ?_
  show wpAny _ _ (updateSeq D (·.push x) >>= fun _ => ret .none) _ _ s
  refine wpAny_bind ?_
  have hsb := Heap.SameBut.update (a := D) (h := s.heap) (f := Obj.mapSeq (·.push x))
  refine wpAny_updateSeq (S.mus _ mem).1 rfl (wpAny_pure (h _ ?_)) (by rw [List.size_toArray, sizeLine_eq]; walk_at "o")
  have ho' : (s.heap.update D (Obj.mapSeq (·.push x))).get? D = some (lst (vs ++ [x]) (n + 1)) := by
    rw [Heap.get?_update_self _ (S.mus _ mem).1 (by rw [mapSeq_push]; rfl), mapSeq_push]; simp
  exact S.turn (pre := []) (k := s.toks) hsb ho'
theorem call_bnd {a D : Addr} {vs : List Value} {n : Nat} {x : Value} {Q : Value → Shared → Prop} {post : List (Addr × Obj)} (hb : g a = some (bndO D)) (S : St W φ g0 names g L vals ((D, lst vs n) :: post) s) (hsz : vs.length ≤ 1000)
    (h : ∀ s', St W φ g0 names g L vals ((D, lst (vs ++ [x]) (n + 1)) :: post) s' → Q .none s') :
    wpAny (model PP W.w) A (call (.ref a) [x]) Q E s := by
  have mem : (D, lst vs n) ∈ (D, lst vs n) :: post := .head _
  refine wpAny_call (codeAny_of_tree ?_)
  show wpAny _ A.in1 (callAny (.ref a) ⟨[x], []⟩) _ _ s
  simp only [callAny]
  refine wpAny_bind (wpAny_load (S.gh _ _ hb) ?_)
  simp only [bndO]
  refine ite_T (by decide) ?_
  show wpAny _ _ (do checkBoundCall "list.append" ⟨[.ref D, x], []⟩; again (.builtin "list.append" ⟨[.ref D, x], []⟩)) _ _ s
  refine wpAny_bind (chk_lapp (S.mus _ mem).1 (wpAny_pure ⟨quiet_lapp, code_append S hsz h⟩))
theorem cw_bnd {pos : Pos} {a D : Addr} {e : Expr} {rest : List Expr} {env : Env} {Q : Value → Shared → Prop} {M : Model}
    (he : starEach (e :: rest) env = (false, eval e env) :: starEach rest env) (hplain : (backTo pos (starEach rest env)).any (·.1) = false)
    (h : wpAny M A (spliced (backTo pos (starEach (e :: rest) env))) (fun vs s₁ => s₁.heap.get? a = some (bndO D) ∧ wpAny M A (call (.ref a) vs) Q E s₁) E s) :
    wpAny M A (callWith pos (.ref a) [] (backTo pos (starEach (e :: rest) env)) []) Q E s := by
  have hpl : (backTo pos (starEach (e :: rest) env)).any (·.1) = false := by
    rw [he]; show (false || (backTo pos (starEach rest env)).any (·.1)) = false; rw [hplain]; rfl
  have h' : wpAny M A (evalArgs (.ref a) true (backTo pos (starEach (e :: rest) env)) []) (fun x s₁ => s₁.heap.get? a = some (bndO D) ∧ wpAny M A (call (.ref a) ([] ++ x.pos) x.kw) Q E s₁) E s := by
    rw [he] at h ⊢
    exact evalArgs_plain h
  unfold callWith
  refine wpAny_bind (wpAny_holding (wpAny_mono h' (fun x s₁ h₁ => wpAny_bind (wpAny_standAt ?_)) fun _ _ x => x))
  obtain ⟨ho, hcall⟩ := h₁
  simp only [hpl, List.any_nil, Bool.or_false]
  refine wpAny_bind (m := keeperOf (.ref a)) ?_
  unfold keeperOf
  refine wpAny_bind (wpAny_load ho ?_)
  simp only [bndO, show (Value.type "builtin_function_or_method" != Value.type "method") = true by decide, show (Value.type "builtin_function_or_method" == Value.type "builtin_function_or_method" || Value.type "builtin_function_or_method" == Value.type "method-wrapper") = true by decide, if_true]
  refine wpAny_pure ?_
  exact wpAny_bind (wpAny_mono hcall (fun r s₂ hr => wpAny_bind (wpAny_holding (wpAny_point (wpAny_pure hr)))) fun _ _ x => x)
end
end
section
open PySem PySem.Calls PyProof.Rows PySem.Spec PySem.W PySem.Builtin.Str
section
variable {W : Wd} {f : Nat → Addr} {g : Gr} {s : Shared} {A : Around} {Q : Value → Shared → Prop}
set_option linter.unusedVariables false
theorem w_escape (hA : Rm 1 A) (R : Rdy W g s) (G : Gl W f) {c : Nat} {t : Tok} {D : List (PyData × PyData)}
    (hTab : ∀ h : Heap, (∀ a o, W.h0.get? a = some o → h.get? a = some o) → PyProof.Rows.IntTab PP W.w h (f 18) D)
    (hl : lookup (.int c) D = none ∨ lookup (.int c) D = some (.str (T [92, c])))
    (k : ∀ v g' s', Fin' W g s g' s' → (∃ t, v = .str (T (if (lookup (.int c) D).isSome then [92, c] else [c])) t) → Q v s') : wpAny (model PP W.w) A (call (.ref (f 19)) [.str (T [c]) t]) Q NoE s := by
  obtain ⟨o, doc, pm, an, cd, ct, ho, hd', hc⟩ := G.fn 19 rfl
  refine enterP ["pattern"] [] ["pattern"] [some (.str (T [c]) t)] rfl rfl (Post := fun g' r => ∃ t, r = .str (T (if (lookup (.int c) D).isSome then [92, c] else [c])) t) hA R ho hd' hc rfl rfl (by decide) (by decide) (by decide) ?_ k
  intro φ L s₁ S
  walk_at "go"
  refine PyProof.Rows.call_isinstance_yes (Tx := "str") rfl ?_ ?_ ?_
  · first | rfl | (with_unfolding_all rfl) | (show builtinType _ = _; rw [builtinType_eq_fast]; kernel_rfl)
  · rw [isSubtype_type]; kernel_rfl
  walk_at "go"
  with_reducible refine' getMethod_builtin (T := "str") ?hT PySem.F.plainAttrs_str PySem.F.slot_str_translate PySem.F.type_str_translate ?hn ?_
  case hT => exact typeIs_str _ _ _
  case hn => intro b e; cases e
  walk_at "go"
  refine c_translate (by assumption) ?hh (fun s' S' => hTab _ S'.toH) hl fun t' s' S' => ?_
  case hh => exact hA.1
  (repeat walk_at "kn"); exact ⟨_, _, _, S', _, rfl⟩
end
end
section
open PySem PySem.Calls PyProof.Rows PySem.Spec PySem.W PySem.Builtin.Str
section
variable {W : Wd} {f : Nat → Addr} {g : Gr} {s : Shared} {A : Around} {Q : Value → Shared → Prop}
set_option linter.unusedVariables false
noncomputable def FnC (W : Wd) (a : Addr) (t : Tb) : Stmt → Prop := onFn False fun name params body scope => ∃ o doc pm an ct, W.h0.get? a = some o ∧ o.data = .func (fnOf name name params body scope .none .none doc pm an (.ref t.c) ct) ∧ W.h0.CodeRec (.ref t.c) name
noncomputable def partL (D : List (PyData × PyData)) (c : Nat) : List Nat :=
  if c ∈ odd then (if c ∈ [92, 45, 94, 91, 124] then [91, 92, c, 93] else [91, c, 93]) else (if (lookup (.int c) D).isSome then [92, c] else [c])
theorem spellL_append (a b : List Nat) : spellL (a ++ b) = spellL a ++ spellL b := by unfold spellL; simp
theorem at_k (q r : List Nat) (k : Nat) : (q ++ r)[q.length + k]? = r[k]? := by
  rw [List.getElem?_append_right (by walk_at "o")]; congr 1; walk_at "o"
theorem dr_k (q r : List Nat) (k : Nat) : (q ++ r).drop (q.length + k) = r.drop k := by
  rw [← List.drop_drop, List.drop_left' rfl]
noncomputable abbrev nmsT : List Str := ["pat", "STAR", "QUESTION_MARK", "res", "add", "i", "n", "c", "j", "stuff", "chunks", "k", "chunk"]
inductive TrC (p nm : List Nat) (pv : List Value) (D : List (PyData × PyData)) : Nat → List (List Nat × Tok) → List Value → Nat → Prop
  | star (hp : p = [42]) : TrC p nm pv D 0 [] [] (nm.length + 1)
  | mid (i : Nat) (ps : List (List Nat × Tok)) (a b : List Nat) (hnm : nm = a ++ b) (hi : i = p.length + (spellL a).length) (hps : ps.map (·.1) = a.map (partL D)) : TrC p nm pv D i ps pv b.length
theorem TrC.start {p nm : List Nat} {pv : List Value} {D : List (PyData × PyData)} {sa : Addr} (hp : (p = [] ∧ pv = []) ∨ (p = [42] ∧ pv = [.ref sa])) : TrC p nm pv D 0 [] [] (p.length + nm.length) := by
  rcases hp with ⟨rfl, rfl⟩ | ⟨rfl, rfl⟩
  · rw [show ([] : List Nat).length + nm.length = nm.length from Nat.zero_add _]; exact .mid 0 [] [] nm rfl rfl rfl
  · rw [show [42].length + nm.length = nm.length + 1 from Nat.add_comm _ _]; exact .star rfl
theorem TrC.past {p nm : List Nat} {pv : List Value} {D : List (PyData × PyData)} {sa : Addr} (hp : (p = [] ∧ pv = []) ∨ (p = [42] ∧ pv = [.ref sa])) (hp1 : p = [42]) : TrC p nm pv D 1 [] [.ref sa] nm.length := by
  rcases hp with ⟨rfl, rfl⟩ | ⟨rfl, rfl⟩
  · cases hp1
  · exact .mid 1 [] [] nm rfl rfl rfl
inductive TrI (W : Wd) (φ g0 : Gr) (L : Addr) (PT p nm : List Nat) (pv : List Value) (t u : Tok) (sa R0 ab : Addr) (D : List (PyData × PyData)) (g1 : Gr) (n : Nat) (s : Shared) : Prop
  | mk (g' : Gr) (ps : List (List Nat × Tok)) (m i : Nat) (ti tn : Tok) (vc vj vs vch vk vck : Option Value) (pre : List Value) (hg : Sub g1 g')
    (S : St W φ g0 nmsT g' L [some (.str (T PT) t), some (.ref sa), some (.str (T [46]) u), some (.ref R0), some (.ref ab), some (.int (i : Nat) ti), some (.int (PT.length : Nat) tn), vc, vj, vs, vch, vk, vck] [(R0, lst (pre ++ txs ps) m)] s)
    (hI : TrC p nm pv D i ps pre n) : TrI W φ g0 L PT p nm pv t u sa R0 ab D g1 n s
theorem rep_box {c : Nat} (hodd : c ∈ odd) (hc45 : c ≠ 45) : Txt.replace (T [c]) (T [92]) (T [92, 92]) = T (if c = 92 then [92, 92] else if c = 45 then [92, 45] else [c]) := by
  revert hc45
  simp only [odd, List.mem_cons, List.not_mem_nil, or_false] at hodd
  rcases hodd with rfl | rfl | rfl | rfl | rfl | rfl | rfl | rfl <;> decide +kernel
theorem LamAt.mono {g g' : Gr} {v : Value} {qual : Str} {params : Arguments} {body : Expr} {scope : Scope} (h : LamAt g v qual params body scope) (hg : Sub g g') : LamAt g' v qual params body scope := by
  obtain ⟨a, cv, ctv, pm, rfl, ha, c, oc, vs, tq, rfl, hgc, hdc, hqc⟩ := h
  exact ⟨a, _, ctv, pm, rfl, hg _ _ ha, c, oc, vs, tq, rfl, hg _ _ hgc, hdc, hqc⟩
noncomputable def subX (c : Nat) : List Nat := if c = 92 then [92, 92] else if c = 45 then [92, 45] else if c = 124 then [92, 124] else [c]
theorem subX_facts {D : List (PyData × PyData)} {c : Nat} (hodd : c ∈ odd) : escT (if c = 92 then [92, 92] else if c = 45 then [92, 45] else [c]) = subX c ∧ ∃ x0 X, subX c = x0 :: X ∧ X.length ≤ 1 ∧ ([x0] == [33]) = false ∧
    [91] ++ (if x0 = 94 ∨ x0 = 91 then [92] ++ (x0 :: X) else x0 :: X) ++ [93] = partL D c := by
  have e : partL D c = if c ∈ [92, 45, 94, 91, 124] then [91, 92, c, 93] else [91, c, 93] := if_pos hodd
  rw [e]
  clear e
  simp only [odd, List.mem_cons, List.not_mem_nil, or_false] at hodd
  rcases hodd with rfl | rfl | rfl | rfl | rfl | rfl | rfl | rfl <;> refine ⟨by decide +kernel, _, _, rfl, by decide, by decide, by decide⟩
noncomputable def cod10 : List (Pos × Str) := [(⟨82, 49, 82, 84⟩, "split_header_words.<locals>.<lambda>")]
noncomputable def cod13 : List (Pos × Str) := [(⟨124, 50, 124, 87⟩, "join_header_words.<locals>.<lambda>")]
noncomputable def cod21 : List (Pos × Str) := [(⟨195, 37, 195, 98⟩, "_translate.<locals>.<genexpr>"), (⟨196, 39, 196, 76⟩, "_translate.<locals>.<lambda>")]
noncomputable abbrev nx (l : List Stmt) (i : Nat) : Stmt := l.getD i (.Pass default)
noncomputable def AtBox (P : List Stmt → Scope → Prop) : Prop := onFn False (fun _ _ body scope => inWhile (fun wb => inIf (fun _ e1 => inIf (fun _ e2 => inIf (fun b3 _ => inIf (fun _ tail => P tail scope) (nx b3 4)) (nx e2 0)) (nx e1 0)) (nx wb 2)) (nx body 3)) (stm 21)
inductive BoxQ (W : Wd) (φ g g' : Gr) (L : Addr) (PT : List Nat) (t u tn : Tok) (sa R0 ab : Addr) (X : List Value) (m i : Nat) : Flow → Shared → Prop
  | mk (g2 : Gr) (v6 v7 v8 v9 v10 v11 : Option Value) (ti : Tok) (s' : Shared) (hs : Sub g' g2)
    (S : St W φ g nmsT g2 L [some (.str (T PT) t), some (.ref sa), some (.str (T [46]) u), some (.ref R0), some (.ref ab), some (.int ((i + 3 : Nat) : Int) ti), some (.int (PT.length : Nat) tn), v6, v7, v8, v9, v10, v11] [(R0, lst X m)] s') : BoxQ W φ g g' L PT t u tn sa R0 ab X m i .next s'
inductive BoxT (W : Wd) (φ g g' : Gr) (L : Addr) (PT : List Nat) (t u tn tj : Tok) (sa R0 ab : Addr) (X : List Value) (m i : Nat) (vc : Option Value) (st : List Nat) (s' : Shared) : Prop
  | mk (g2 : Gr) (tp : Tok) (v6 v10 v11 v12 : Option Value) (hs : Sub g' g2)
    (S : St W φ g nmsT g2 L [some (.str (T PT) t), some (.ref sa), some (.str (T [46]) u), some (.ref R0), some (.ref ab), v6, some (.int (PT.length : Nat) tn), vc, some (.int ((i + 2 : Nat) : Int) tj), some (.str (T st) tp), v10, v11, v12] [(R0, lst X m)] s') : BoxT W φ g g' L PT t u tn tj sa R0 ab X m i vc st s'
inductive BoxU (W : Wd) (φ g g' : Gr) (L : Addr) (PT : List Nat) (t u tn tj : Tok) (sa R0 ab : Addr) (X : List Value) (m i : Nat) (vc : Option Value) (st : List Nat) (v10 v11 v12 : Option Value) (s' : Shared) : Prop
  | mk (tp : Tok) (g2 : Gr) (ti : Tok) (hs : Sub g' g2)
    (S : St W φ g nmsT g2 L [some (.str (T PT) t), some (.ref sa), some (.str (T [46]) u), some (.ref R0), some (.ref ab), some (.int ((i + 3 : Nat) : Int) ti), some (.int (PT.length : Nat) tn), vc, some (.int ((i + 2 : Nat) : Int) tj), some (.str (T st) tp), v10, v11, v12] [(R0, lst X m)] s') : BoxU W φ g g' L PT t u tn tj sa R0 ab X m i vc st v10 v11 v12 s'
set_option maxHeartbeats 8000000 in
theorem w_boxtail {φ g g' : Gr} {L : Addr} {t21 : Tb} (hA : Rm 3 A) (G : Gl W f) (B : Lb W) (ht : t21 ∈ W.tabs) (hcd : t21.codes = cod21) (hP : PatAt W (f 15) cTW1 1) : AtBox fun tail scope => ∀ {PT : List Nat} {t u ti tn tj : Tok} {sa R0 ab : Addr} {pre : List Value} {ps : List (List Nat × Tok)} {m i c : Nat} {D : List (PyData × PyData)} {vc vs vch vk vck : Option Value} {s : Shared},
    St W φ g nmsT g' L [some (.str (T PT) t), some (.ref sa), some (.str (T [46]) u), some (.ref R0), some (.ref ab), some (.int ((i + 1 : Nat) : Int) ti), some (.int (PT.length : Nat) tn), vc, some (.int ((i + 2 : Nat) : Int) tj), vs, vch, vk, vck] [(R0, lst (pre ++ txs ps) m)] s →
    g' ab = some (bndO R0) → c ∈ odd → PT.length ≤ 300 → i + 3 ≤ PT.length → (PT.drop (i + 1)).take 1 = [c] → (pre ++ txs ps).length ≤ 900 →
    wpAny (model PP W.w) (A.deeper (envOf "_translate" scope L (f 21) (.ref t21.c))) (execs tail (envOf "_translate" scope L (f 21) (.ref t21.c))) (fun fl s' => ∃ tp, BoxQ W φ g g' L PT t u tn sa R0 ab (pre ++ txs (ps ++ [(partL D c, tp)])) (m + 1) i fl s') NoE s := by
  intro PT t u ti tn tj sa R0 ab pre ps m i c D vc vs vch vk vck s S hab hodd hPl hle hdt hprl
  have hlen1 : (PT.drop (i + 1)).length = PT.length - (i + 1) := List.length_drop
  repeat ((fail_if_success (with_reducible show wpAny _ _ (exec (.If _ _ _ _) _) _ _ _)); walk_at "1")
  rename_i S
  (walk_at "zS"); rw [show i + 2 - (i + 1) = 1 by walk_at "o", hdt] at S
  refine ex_if ?_
  refine is_cmp (hm := rfl) ?_
  refine ev_str (l := [45]) (by decide +kernel) ?_
  repeat walk_at "1"
  refine meet (BoxT W φ g g' L PT t u tn tj sa R0 ab (pre ++ txs ps) m i vc (if c = 92 then [92, 92] else if c = 45 then [92, 45] else [c])) ?_ (fun hb => ?_) (fun hb => ?_)
  rotate_left
  · have hc45 : c ≠ 45 := fun e => by simp [e] at hb
    repeat ((fail_if_success (with_reducible show wpAny _ _ (eval (.Constant _ _ _) _) _ _ _)); walk_at "1")
    refine ev_str (l := [92]) (by decide +kernel) ?_
    walk_at "1"
    refine ev_str (l := [92, 92]) (by decide +kernel) ?_
    repeat walk_at "1"
    refine SC.replaceA (Nat.succ_ne_zero _) (Nat.succ_ne_zero _) (fun e => by simp at e) (by rw [T_len, T_len]; simp) (fun t' k => ?_) (B.nbS (S.tk _))
    rw [rep_box hodd hc45]
    have S3 := S.tk k
    walk_at "go"
    exact ⟨rfl, _, _, _, _, _, _, .refl _, by assumption⟩
  · have hc45 : c = 45 := by
      rcases Nat.decEq c 45 with h | h
      · simp [Ne.symm h] at hb
      · exact h
    subst hc45
    have h1 : PT[i + 1]? = some 45 := by
      have := congrArg (fun l => l[0]?) hdt
      simpa [List.getElem?_take, List.getElem?_drop] using this
    walk_at "go"
    rename_i S
    refine s_item S (by walk_at "o") h1 (by with_unfolding_all rfl) fun _ s' S => ?_
    walk_at "go"
    rename_i S
    (walk_at "zS"); rw [show ((i + 1 : Nat) : Int) + 1 = ((i + 2 : Nat) : Int) by walk_at "o"] at S
    refine ex_while (fun _ s' => St W φ g nmsT g' L _ _ s') 0 S ?_
    intro n s' S
    walk_at "go"
    refine s_find4 (by assumption) (by walk_at "o") fun t' s' S => ?_
    walk_at "go"
    rename_i S
    (walk_at "zS"); rw [show i + 2 - (i + 1) = 1 by walk_at "o", hdt] at S
    walk_at "go"
    refine l_len (by assumption) (by walk_at "hp") rfl (by simp) ?_
    intros
    walk_at "go"
    refine new_range0 (by assumption) fun ra s' S => ?_
    walk_at "go"
    refine it_range0 S fun I o s' hI S => ?_
    refine for_loop (fun i g'' vals mu => g'' = g' ∧ vals = _ ∧ mu = _) (Nx.range0 (hA.deeper _).1) (fun _ _ _ _ _ => trivial) hI S ⟨rfl, rfl, rfl⟩ (fun _ => rfl) ?_ ?_
    · intro i g vals mu v s o hi; exact absurd hi (Nat.not_lt_zero _)
    · rintro g'' vals mu s' ⟨rfl, rfl, rfl⟩ S
      walk_at "go"
      rename_i S
      refine ev_gen1 (F := fun y => ∃ u, y = .str (T [92, 45]) u) (t := t21) (qual := "_translate.<locals>.<genexpr>") B ht (by rw [hcd]; exact .head _) (by show (Str.ofString "_translate" ++ Str.ofString ".<locals>.") ++ Str.ofString "<genexpr>" = _; decide +kernel) S (Rm.le (hA.deeper _) (by walk_at "o")) rfl rfl rfl ?hclos ?hcell (by decide +kernel) (by decide +kernel) rfl (fun _ => rfl) ?hit (by walk_at "hp") ?helt ?h
      case hclos => rfl
      case hcell => decide
      case hit =>
        intro Q hQ
        walk_at "go"
        exact hQ
      case helt =>
        intro C code A' E' s₂ m₂ hA' hn hm hnb
        refine ev_meth (he := rfl) ?_
        refine ev_meth (he := rfl) ?_
        refine wpAny_Name (wpAny_loadName_local rfl rfl hn hm ?_) rfl
        refine GM.replace ?_
        refine cw_m (he := rfl) (hplain := rfl) ?_
        refine sp_cons (he := rfl) ?_
        refine ev_str (l := [92]) (by decide +kernel) ?_
        refine sp_cons (he := rfl) ?_
        refine ev_str (l := [92, 92]) (by decide +kernel) ?_
        refine sp_nil ?_
        refine rep_no (by decide +kernel) hnb ?_
        refine GM.replace ?_
        refine cw_m (he := rfl) (hplain := rfl) ?_
        refine sp_cons (he := rfl) ?_
        refine ev_str (l := [45]) (by decide +kernel) ?_
        refine sp_cons (he := rfl) ?_
        refine ev_str (l := [92, 45]) (by decide +kernel) ?_
        refine sp_nil ?_
        refine SC.replaceA (Nat.succ_ne_zero _) (Nat.succ_ne_zero _) (fun e => by simp at e) (by rw [T_len, T_len]; simp) (fun t' k => ?_) hnb
        exact ⟨⟨t', by rw [show Txt.replace (T [45]) (T [45]) (T [92, 45]) = T [92, 45] by decide +kernel]⟩, _, _, rfl, fun _ _ e => e⟩
      case h =>
        intro a g2 s' hg2 S X
        walk_at "go"
        refine s_joinGen (by assumption) (by simp) (by simp) X fun t' s' S => ?_
        walk_at "go"
        rename_i S
        exact ⟨rfl, g2, _, _, _, _, _, hg2, St.dropPre (new := [_, _]) S⟩
  · rintro s' ⟨g2, tp, v6, v10, v11, v12, hg2, S⟩
    have hab2 := hg2 _ _ hab
    (walk_at "zS"); generalize hst : (if c = 92 then [92, 92] else if c = 45 then [92, 45] else [c]) = stf at S
    have hstl : stf.length ≤ 2 := by subst hst; split; simp; split <;> simp
    walk_at "go"
    refine gm_pat hP S sl_sub ty_sub ?_
    walk_at "go"
    refine ev_lam B ht (qual := "_translate.<locals>.<lambda>") (by rw [hcd]; exact .tail _ (.head _)) (by show (Str.ofString "_translate" ++ Str.ofString ".<locals>.") ++ Str.ofString "<lambda>" = _; decide +kernel) S rfl rfl rfl (by decide) fun lv g3 s' hg3 hL S => ?_
    have hab3 := hg3 _ _ hab2
    walk_at "go"
    refine sub_start S hP hL fun SD s' S => ?_
    refine sub_tw1 (l := stf) hP (by walk_at "o") stf.length stf [] 0 0 false g3 s' [] (Nat.le_refl _) rfl rfl S ?_ (by simp; walk_at "o") (by simp) fun t' g4 s' hg4 S => ?_
    · intro v g' st hd b e mu' s' hs hM hbe hel S
      refine call_lam (n := 0) (nm := "_m") (new := []) (mu0 := mu') (Rm.le (Rm.in1 (hA.deeper _)) (by walk_at "o")) S (hL.mono hs) (fun _ _ _ => rfl) (by decide +kernel) rfl rfl rfl (by decide) ?_
      intro φ' L' s₁ a c env henv S'
      subst henv
      walk_at "go"
      refine BoolOp_or ?_
      walk_at "go"
      refine gm_mat hM (by assumption) sl_group ty_group ?_
      walk_at "go"
      refine c_group1 (by assumption) hM hbe hel (by walk_at "o") fun t3 s3 S3 => ?_
      walk_at "go"
      cases hx : ((stf.drop b).take (e - b)).isEmpty
      · rw [if_pos (show (!false) = true from rfl)]
        walk_at "go"
        exact ⟨_, _, by assumption, fun s' hsub S => ⟨_, _, rfl, hsub, S⟩⟩
      · rw [if_neg (show ¬ (!true) = true by decide)]
        refine BoolOp_one ?_
        walk_at "go"
        have hx0 := List.isEmpty_iff.mp hx
        rw [hx0]
        exact ⟨_, _, by assumption, fun s' hsub S => ⟨_, _, rfl, hsub, S⟩⟩
    · have hab4 := hg4 _ _ hab3
      obtain ⟨hstf2, x0, X, hX, hXl, hx33, hpart⟩ := subX_facts (D := D) hodd
      rw [hst] at hstf2
      simp only [List.map_nil, List.flatten_nil, List.nil_append, hstf2, hX]
      have hxx : ((x0 :: X) == [33]) = false := by simp at hx33 ⊢; exact fun h => absurd h hx33
      show wpAny _ _ _ _ _ _
      walk_at "go"
      rename_i S
      (walk_at "zS"); rw [show ((i + 2 : Nat) : Int) + 1 = ((i + 3 : Nat) : Int) by walk_at "o"] at S
      refine in_tuple_strs (items := #[_, _]) (ys := [T [94], T [91]]) ⟨_, St.gh S _ _ (by assumption), rfl, _, rfl⟩ (.cons _ _ (.cons _ _ .nil)) ?_
      rw [show [T [94], T [91]].any (· == T [x0]) = decide (x0 = 94 ∨ x0 = 91) by
        rw [List.any_cons, List.any_cons, List.any_nil, T_beq, T_beq, Bool.or_false, Bool.eq_iff_iff]; simp; walk_at "o"]
      walk_at "go"
      refine meet (BoxU W φ g g4 L PT t u tn tj sa R0 ab (pre ++ txs ps) m i vc (if x0 = 94 ∨ x0 = 91 then [92] ++ (x0 :: X) else x0 :: X) v10 v11 v12) ?_ (fun hb => ?_) (fun hb => ?_)
      rotate_left
      · walk_at "go"
        have hb' : x0 = 94 ∨ x0 = 91 := by simpa using hb
        rw [if_pos hb']
        exact ⟨rfl, _, _, _, by assumption, by assumption⟩
      · walk_at "go"
        have hb' : ¬ (x0 = 94 ∨ x0 = 91) := by simpa using hb
        rw [if_neg hb']
        exact ⟨rfl, _, _, _, by assumption, by assumption⟩
      · rintro s' ⟨v9, g5, ti5, hg5, S⟩
        have hab5 := hg5 _ _ hab4
        have hyl : (if x0 = 94 ∨ x0 = 91 then [92] ++ (x0 :: X) else x0 :: X).length ≤ 3 := by split <;> simp <;> walk_at "o"
        (walk_at "zS"); generalize (if x0 = 94 ∨ x0 = 91 then [92] ++ (x0 :: X) else x0 :: X) = Y at *
        walk_at "go"
        refine cw_bnd (D := R0) rfl rfl ?_
        walk_at "go"
        refine JoinedStr_many ?_
        refine joinParts_cons ?_
        walk_at "go"
        refine ⟨by show (T [] ++ T [91]).length ≤ _; rw [T_append, T_len, sizeLine_eq]; simp, ?_⟩
        show wpAny _ _ (joinParts (T [] ++ T [91]) _) _ _ _
        rw [T_append]
        refine joinParts_cons ?_
        refine FormattedValue_plain ?_
        walk_at "go"
        refine formatField_str (fun t6 k6 => ?_) (by rw [T_len, sizeLine_eq]; walk_at "o")
        have S6 := St.tk (by assumption) k6
        refine ⟨by rw [T_append, T_len, sizeLine_eq]; simp; walk_at "o", ?_⟩
        rw [T_append]
        refine joinParts_cons ?_
        walk_at "go"
        refine ⟨by rw [T_append, T_len, sizeLine_eq]; simp; walk_at "o", ?_⟩
        rw [T_append]
        refine joinParts_nil ?_ (by rw [T_len, sizeLine_eq]; simp; walk_at "o")
        walk_at "go"
        refine ⟨St.gh (by walk_at "S") _ _ hab5, ?_⟩
        refine call_bnd hab5 (by walk_at "S") (by walk_at "o") fun s' S => ?_
        walk_at "go"
        rw [show ([] ++ [91] ++ Y ++ [93] : List Nat) = partL D c from hpart, List.append_assoc] at S
        have e9 : ∀ tk, txs ps ++ [Value.str (T (partL D c)) tk] = txs (ps ++ [(partL D c, tk)]) := fun tk => (txs_append ps [(partL D c, tk)]).symm
        rw [e9] at S
        exact ⟨_, g5, _, _, _, _, _, _, _, _, hg2.trans (hg3.trans (hg4.trans hg5)), S⟩
end
end
section
open PySem PySem.Calls PyProof.Rows PySem.Spec PySem.W PySem.Builtin.Str
section
variable {W : Wd} {f : Nat → Addr} {g : Gr} {s : Shared} {A : Around} {Q : Value → Shared → Prop}
set_option linter.unusedVariables false
inductive JjC (i c : Nat) : Nat → Nat → Prop
  | done : JjC i c (i + 2) 0
  | one (h : c ≠ 93) : JjC i c (i + 1) 1
inductive JjI (W : Wd) (φ g g' : Gr) (L : Addr) (PT : List Nat) (t u tn : Tok) (sa R0 ab : Addr) (X : List Value) (m i c : Nat) (vch vk vck : Option Value) (k : Nat) (s' : Shared) : Prop
  | mk (jj : Nat) (ti tj : Tok) (v7 v6 : Option Value)
    (S : St W φ g nmsT g' L [some (.str (T PT) t), some (.ref sa), some (.str (T [46]) u), some (.ref R0), some (.ref ab), some (.int ((i + 1 : Nat) : Int) ti), some (.int (PT.length : Nat) tn), v7, some (.int (jj : Nat) tj), v6, vch, vk, vck] [(R0, lst X m)] s')
    (h : JjC i c jj k) : JjI W φ g g' L PT t u tn sa R0 ab X m i c vch vk vck k s'
inductive TrP (pv : List Value) (nm : List Nat) (D : List (PyData × PyData)) (g' : Gr) : Value → Prop
  | mk (R : Addr) (ps : List (List Nat × Tok)) (n : Nat) (h : g' R = some (lst (pv ++ txs ps) n)) (hps : ps.map (·.1) = nm.map (partL D)) : TrP pv nm D g' (.ref R)
theorem odd33 : ∀ c ∈ odd, ([c] == [33]) = false := by decide
theorem no_odd {c x : Nat} (h : c ∉ odd) (hx : x ∈ odd) : ([c] == [x]) = false := beq_false_of_ne fun e => h ((List.cons.inj e).1 ▸ hx)
theorem spell_pos (c : Nat) (b : List Nat) : 1 ≤ (spellL (c :: b)).length := by unfold spellL spell1; rw [List.map_cons, List.flatten_cons]; split <;> simp
theorem spell_snoc (a : List Nat) (c : Nat) : (spellL (a ++ [c])).length = (spellL a).length + (spell1 c).length := by rw [spellL_append, List.length_append]; simp [spellL]
theorem part_snoc {D : List (PyData × PyData)} {ps : List (List Nat × Tok)} {a : List Nat} (h : ps.map (·.1) = a.map (partL D)) (c : Nat) (t : Tok) : (ps ++ [(partL D c, t)]).map (·.1) = (a ++ [c]).map (partL D) := by rw [List.map_append, List.map_append, h]; rfl
theorem mid_at {p a b nm : List Nat} {c : Nat} (hnm : nm = a ++ c :: b) : p ++ spellL nm = (p ++ spellL a) ++ (spell1 c ++ spellL b) := by rw [hnm, spellL_append, List.append_assoc]; simp [spellL]
theorem bnd_txs {pv : List Value} {ps : List (List Nat × Tok)} {a b nm : List Nat} {c : Nat} {D : List (PyData × PyData)} (h1 : pv.length ≤ 1) (hps : ps.map (·.1) = a.map (partL D)) (hnm : nm = a ++ c :: b) (hn : nm.length ≤ 70) : (pv ++ txs ps).length ≤ 900 := by
  have h2 := congrArg List.length hps
  have h3 := congrArg List.length hnm
  simp only [List.length_map, List.length_append, List.length_cons] at h2 h3
  simp only [txs, List.length_append, List.length_map]
  walk_at "o"
theorem len_300 {PT p nm : List Nat} (hPT : PT = p ++ spellL nm) (hpl : p.length ≤ 1) (hn : nm.length ≤ 70) : PT.length ≤ 300 := by
  have := spellL_len nm
  rw [hPT, List.length_append]; walk_at "o"
set_option maxHeartbeats 8000000 in
theorem w_translate_ {t21 : Tb} (hA : Rm 3 A) (R : Rdy W g s) (G : Gl W f) (B : Lb W) (ht : t21 ∈ W.tabs) (hcd : t21.codes = cod21) (hF : FnC W (f 21) t21 (stm 21)) (hP : PatAt W (f 15) cTW1 1) {p nm : List Nat} {pv : List Value} {t u : Tok} {sa : Addr} {D : List (PyData × PyData)}
    (hp : (p = [] ∧ pv = []) ∨ (p = [42] ∧ pv = [.ref sa])) (hn : nm.length ≤ 70)
    (hTab : ∀ h : Heap, (∀ a o, W.h0.get? a = some o → h.get? a = some o) → PyProof.Rows.IntTab PP W.w h (f 18) D)
    (hl : ∀ c ∈ nm, c ∉ odd → lookup (.int c) D = none ∨ lookup (.int c) D = some (.str (T [92, c])))
    (k : ∀ v g' s', Fin' W g s g' s' → TrP pv nm D g' v → Q v s') :
    wpAny (model PP W.w) A (call (.ref (f 21)) [.str (T (p ++ spellL nm)) t, .ref sa, .str (T [46]) u]) Q NoE s := by
  obtain ⟨o, doc, pm, an, ct, ho, hd', hc⟩ := hF
  obtain ⟨PT, hPT⟩ : ∃ PT, PT = p ++ spellL nm := ⟨_, rfl⟩
  rw [← hPT]
  refine enterP ["pat", "STAR", "QUESTION_MARK"] ["res", "add", "i", "n", "c", "j", "stuff", "chunks", "k", "chunk"] ["pat", "STAR", "QUESTION_MARK", "res", "add", "i", "n", "c", "j", "stuff", "chunks", "k", "chunk"]
    [some (.str (T PT) t), some (.ref sa), some (.str (T [46]) u), none, none, none, none, none, none, none, none, none, none] rfl rfl
    (Post := TrP pv nm D) hA R ho hd' hc rfl rfl (by decide) (by decide) (by decide) ?_ k
  intro φ L s₁ S
  have hpl : p.length ≤ 1 := by rcases hp with ⟨rfl, _⟩ | ⟨rfl, _⟩ <;> simp
  have hpvl : pv.length ≤ 1 := by rcases hp with ⟨_, rfl⟩ | ⟨_, rfl⟩ <;> simp
  have hPl := len_300 hPT hpl hn
  have hPn : PT.length = p.length + (spellL nm).length := by rw [hPT, List.length_append]
  walk_at "go"
  rename_i R0 _ _ _ _ S
  refine Attribute_Name_ ?_
  walk_at "1"
  refine a_append S (by walk_at "hp") fun ab g1 s1 hg1 hab S => ?_
  walk_at "go"
  rename_i S
  refine ex_while (TrI W φ g L PT p nm pv t u sa R0 ab D g1) (p.length + nm.length) ⟨_, [], 0, 0, _, _, none, none, none, none, none, none, [], by assumption, S, TrC.start hp⟩ ?_
  clear S hg1
  rintro n s ⟨g', ps, m, i, ti, tn, vc, vj, vs, vch, vk, vck, pre, hg', S, hI⟩
  have hab' := hg' _ _ hab
  walk_at "go"
  refine ⟨fun h => ?_, fun h => ?_⟩
  · walk_at "go"
    rcases hI with ⟨hp1⟩ | ⟨i, ps, a, b, hnm, hi, hps⟩
    · refine s_item S (by walk_at "o") (c := 42) (by rw [hPT, hp1]; rfl) (by with_unfolding_all rfl) fun _ s' S => ?_
      walk_at "go"
      rename_i S
      refine l_tr S (by walk_at "hp") rfl (by simp [txs]) fun s' S => ?_
      walk_at "go"
      refine cw_bnd (D := R0) rfl rfl ?_
      walk_at "go"
      refine ⟨St.gh (by assumption) _ _ hab', ?_⟩
      refine call_bnd hab' (by assumption) (by simp [txs]) fun s' S => ?_
      walk_at "go"
      exact ⟨nm.length, by walk_at "o", g', [], _, 1, _, tn, _, vj, vs, vch, vk, vck, [.ref sa], hg', S, TrC.past hp hp1⟩
    · rcases b with _ | ⟨c, b⟩
      · exfalso
        rw [hPn, hnm, List.append_nil, ← hi] at h
        simp at h
      have hpat : PT = (p ++ spellL a) ++ (spell1 c ++ spellL b) := hPT.trans (mid_at hnm)
      have hil : i = (p ++ spellL a).length := by rw [hi, List.length_append]
      by_cases hodd : c ∈ odd
      · have hsp : spell1 c = [91, c, 93] := if_pos hodd
        rw [hsp] at hpat
        have h0 : PT[i]? = some 91 := by rw [hpat, hil]; exact at_k _ _ 0
        have h1 : PT[i + 1]? = some c := by rw [hpat, hil]; exact at_k _ _ 1
        have h2 : PT[i + 2]? = some 93 := by rw [hpat, hil]; exact at_k _ _ 2
        have hle : i + 3 ≤ PT.length := by rw [hpat, hil, List.length_append (as := p ++ spellL a)]; exact Nat.add_le_add_left (by rw [List.length_append]; exact Nat.le_add_right 3 _) _
        have hdt : (PT.drop (i + 1)).take 1 = [c] := by rw [hpat, hil, dr_k]; rfl
        have t1 : ((i : Int) + 1).toNat = i + 1 := rfl
        refine s_item S (by walk_at "o") h0 (by with_unfolding_all rfl) fun _ s' S => ?_
        walk_at "go"
        have h33 := odd33 c hodd
        rename_i S
        refine s_itemz S (by walk_at "o") (by walk_at "o") (by rw [t1]; exact h1) (by with_unfolding_all rfl) fun _ s' S => ?_
        walk_at "go"
        rename_i S
        refine s_itemz S (by walk_at "o") (by walk_at "o") (by rw [t1]; exact h1) (by with_unfolding_all rfl) fun _ s' S => ?_
        have c1 : ((i : Int) + 1) = ((i + 1 : Nat) : Int) := rfl
        have c2 : ((i + 1 : Nat) : Int) + 1 = ((i + 2 : Nat) : Int) := rfl
        (walk_at "zS"); rw [c1] at S
        repeat walk_at "1"
        refine meet (fun s' => ∃ k, JjI W φ g g' L PT t u tn sa R0 ab (pv ++ txs ps) m i c vch vk vck k s') ?_ (fun hb => ?_) (fun hb => ?_)
        rotate_left
        · walk_at "go"
          rename_i S
          (walk_at "zS"); rw [c2] at S
          exact ⟨rfl, _, _, _, _, _, _, S, .done⟩
        · walk_at "go"
          exact ⟨rfl, _, _, _, _, _, _, by assumption, .one (by simpa using hb)⟩
        clear S
        rintro s' ⟨k, hjj⟩
        walk_at "go"
        refine ex_while (JjI W φ g g' L PT t u tn sa R0 ab (pv ++ txs ps) m i c vch vk vck) k hjj ?_
        clear hjj
        rintro k s' ⟨jj, ti', tj, v7, v6, S, _ | hc93⟩
        rotate_left
        · walk_at "go"
          rename_i S
          refine s_item S (by walk_at "o") h1 (by with_unfolding_all rfl) fun _ s' S => ?_
          have h93 : ([c] != [93]) = true := by simpa using hc93
          walk_at "go"
          rename_i S
          (walk_at "zS"); rw [c2] at S
          exact ⟨0, by walk_at "o", _, _, _, _, _, S, .done⟩
        · walk_at "go"
          rename_i S
          refine s_item S (by walk_at "o") h2 (by with_unfolding_all rfl) fun _ s' S => ?_
          have h93 : ([93] != [93]) = false := rfl
          repeat walk_at "1"
          refine tfF h93 ?_
          repeat walk_at "1"
          refine tfF (by simp; walk_at "o") ?_
          rename_i S
          refine wpAny_mono (w_boxtail (f := f) hA G B ht hcd hP (D := D) S hab' hodd hPl hle hdt (bnd_txs hpvl hps hnm hn)) (fun fl s' hq => ?_) fun _ _ x => x
          obtain ⟨tp, g2, v6, v7, v8, v9, v10, v11, ti2, _, hg2, S⟩ := hq
          walk_at "go"
          have e : i + 3 = p.length + (spellL (a ++ [c])).length := by rw [hi, spell_snoc, hsp]; rfl
          exact ⟨b.length, Nat.lt_succ_self _, g2, ps ++ [(partL D c, tp)], _, i + 3, _, tn, _, _, _, _, _, _, pv, hg'.trans hg2, S, .mid _ _ (a ++ [c]) b (by rw [hnm]; simp) e (part_snoc hps c tp)⟩
      · have hsp : spell1 c = [c] := if_neg hodd
        rw [hsp] at hpat
        have h42 : ([c] == [42]) = false := no_odd hodd (by decide)
        have h63 : ([c] == [63]) = false := no_odd hodd (by decide)
        have h91 : ([c] == [91]) = false := no_odd hodd (by decide)
        have hl' := hl c (by rw [hnm]; simp) hodd
        refine s_item S (by walk_at "o") (c := c) (by rw [hpat, hil]; exact at_k _ _ 0) (by with_unfolding_all rfl) fun _ s' S => ?_
        walk_at "go"
        refine cw_bnd (D := R0) rfl rfl ?_
        walk_at "go"
        refine w_escape (Rm.le (hA.deeper _) (by walk_at "o")) (St.rdy (by assumption)) G hTab hl' fun v g2 s' F hv => ?_
        have S := St.back (by assumption) F
        obtain ⟨tv, rfl⟩ := hv
        have hab2 := F.sub _ _ hab'
        walk_at "go"
        refine ⟨St.gh (by assumption) _ _ hab2, ?_⟩
        refine call_bnd hab2 (by assumption) (Nat.le_trans (bnd_txs hpvl hps hnm hn) (by decide)) fun s' S => ?_
        walk_at "go"
        have hpl : partL D c = if (lookup (.int c) D).isSome then [92, c] else [c] := if_neg hodd
        rw [← hpl, show pv ++ txs ps ++ [Value.str (T (partL D c)) tv] = pv ++ txs (ps ++ [(partL D c, tv)]) by rw [txs_append, List.append_assoc]; rfl] at S
        have e : i + 1 = p.length + (spellL (a ++ [c])).length := by rw [hi, spell_snoc, hsp]; rfl
        exact ⟨b.length, Nat.lt_succ_self _, g2, ps ++ [(partL D c, tv)], _, i + 1, _, tn, _, vj, vs, vch, vk, vck, pv, hg'.trans F.sub, S, .mid _ _ (a ++ [c]) b (by rw [hnm]; simp) e (part_snoc hps c tv)⟩
  · rcases hI with ⟨hp1⟩ | ⟨i, ps, a, b, hnm, hi, hps⟩
    · exfalso
      rw [hPn, hp1] at h
      simp at h; walk_at "o"
    have hb : b = [] := by
      cases b with
      | nil => rfl
      | cons c b =>
        exfalso
        rw [hPn, hi, hnm, spellL_append, List.length_append] at h
        have := spell_pos c b
        simp at h; walk_at "o"
    rw [hb, List.append_nil] at hnm
    rw [← hnm] at hi hps
    walk_at "go"
    refine ex_assert ?_
    walk_at "go"
    refine ⟨by rw [hPn, hi]; simp, ?_⟩
    walk_at "go"
    refine ⟨_, _, _, St.freeze (by assumption), R0, ps, m, gset_self _ _ _, hps⟩
end
end
section
open PySem PySem.Calls PyProof.Rows PySem.Spec PySem.W PySem.Builtin.Str
section
variable {W : Wd} {f : Nat → Addr} {g : Gr} {s : Shared} {A : Around} {Q : Value → Shared → Prop}
set_option linter.unusedVariables false
noncomputable def jtpL (ps : List (List Nat)) : List Nat := [40, 63, 115, 58] ++ ([46, 42] ++ ps.flatten) ++ [41, 92, 90]
noncomputable abbrev nmsJ : List Str := ["inp", "STAR", "res", "add", "i", "n", "fixed"]
inductive JtQ (W : Wd) (φ g : Gr) (L P sa R0 ab : Addr) (ps : List (List Nat × Tok)) : Flow → Shared → Prop
  | mk (g2 : Gr) (ti tn : Tok) (vf : Option Value) (qs : List (List Nat × Tok)) (m' : Nat) (s' : Shared)
    (S : St W φ g nmsJ g2 L [some (.ref P), some (.ref sa), some (.ref R0), some (.ref ab), some (.int ((ps.length + 1 : Nat) : Int) ti), some (.int ((ps.length + 1 : Nat) : Int) tn), vf] [(R0, lst (txs qs) m')] s')
    (h1 : (qs.map (·.1)).flatten = [46, 42] ++ (ps.map (·.1)).flatten) (h2 : qs.length ≤ 2) : JtQ W φ g L P sa R0 ab ps .next s'
inductive JtC (ps : List (List Nat × Tok)) : Nat → Int → List (List Nat × Tok) → Prop
  | one : JtC ps 1 0 []
  | zero (qs : List (List Nat × Tok)) (h1 : (qs.map (·.1)).flatten = [46, 42] ++ (ps.map (·.1)).flatten) (h2 : qs.length ≤ 2) : JtC ps 0 ((ps.length + 1 : Nat) : Int) qs
inductive JtW (W : Wd) (φ g g1 : Gr) (L P sa R0 ab : Addr) (ps : List (List Nat × Tok)) (k : Nat) (s' : Shared) : Prop
  | mk (g3 : Gr) (i : Int) (ti tn : Tok) (vf : Option Value) (qs : List (List Nat × Tok)) (m' : Nat) (hg : Sub g1 g3)
    (S : St W φ g nmsJ g3 L [some (.ref P), some (.ref sa), some (.ref R0), some (.ref ab), some (.int i ti), some (.int ((ps.length + 1 : Nat) : Int) tn), vf] [(R0, lst (txs qs) m')] s') (h : JtC ps k i qs) : JtW W φ g g1 L P sa R0 ab ps k s'
inductive JtX (W : Wd) (φ g g3 : Gr) (L P sa R0 ab F : Addr) (tn : Tok) (m' : Nat) (ps : List (List Nat × Tok)) : Nat → Shared → Prop
  | mk (j : Nat) (ti : Tok) (m2 : Nat) (s' : Shared) (hj : j ≤ ps.length)
    (S : St W φ g nmsJ g3 L [some (.ref P), some (.ref sa), some (.ref R0), some (.ref ab), some (.int ((j + 1 : Nat) : Int) ti), some (.int ((ps.length + 1 : Nat) : Int) tn), some (.ref F)] [(F, lst (txs (ps.take j)) m2), (R0, lst (txs []) m')] s') : JtX W φ g g3 L P sa R0 ab F tn m' ps (ps.length - j) s'
set_option maxHeartbeats 8000000 in
theorem w_jtp (hA : Rm 1 A) (R : Rdy W g s) (G : Gl W f) {P sa : Addr} {ps : List (List Nat × Tok)} {n : Nat} (hP : g P = some (lst (.ref sa :: txs ps) n)) (hpl : ps.length ≤ 100) (hsum : ((ps.map (·.1)).map (·.length)).sum ≤ 1000)
    (k : ∀ v g' s', Fin' W g s g' s' → (∃ t, v = .str (T (jtpL (ps.map (·.1)))) t) → Q v s') :
    wpAny (model PP W.w) A (call (.ref (f 22)) [.ref P, .ref sa]) Q NoE s := by
  obtain ⟨o, doc, pm, an, cd, ct, ho, hd', hc⟩ := G.fn 22 rfl
  refine enterP ["inp", "STAR"] ["res", "add", "i", "n", "fixed"] nmsJ [some (.ref P), some (.ref sa), none, none, none, none, none] rfl rfl
    (Post := fun g' v => ∃ t, v = .str (T (jtpL (ps.map (·.1)))) t) hA R ho hd' hc rfl rfl (by decide) (by decide) (by decide) ?_ k
  intro φ L s₁ S
  walk_at "go"
  rename_i R0 _ _ _ _ S
  refine Attribute_Name_ ?_
  walk_at "1"
  refine a_append S (by walk_at "hp") fun ab g1 s1 hg1 hab S => ?_
  have hP1 := hg1 _ _ hP
  walk_at "go"
  refine l_len (by assumption) (by walk_at "hp") rfl (by simp [txs]; walk_at "o") ?_
  intros
  walk_at "go"
  rename_i S
  have hg2 := ‹Sub g1 _›
  have hP2 := hg2 _ _ hP1
  have hab2 := hg2 _ _ hab
  have hlen : (Value.ref sa :: txs ps).length = ps.length + 1 := by simp [txs]
  (walk_at "zS"); rw [hlen] at S
  refine ex_while (fun _ s' => St W φ g nmsJ _ L _ _ s') 0 S ?_
  intro n0 s' S
  walk_at "go"
  refine wpAny_isNot_ref_self ?_
  walk_at "go"
  refine wpAny_mono (Q := JtQ W φ g L P sa R0 ab ps) ?_ (fun fl s' hq => ?_) fun _ _ x => x
  · rename_i S
    refine ex_while (JtW W φ g g1 L P sa R0 ab ps) 1 ⟨_, _, _, _, _, [], _, hg2, S, .one⟩ ?_
    rintro k s' ⟨g3, i, ti, tn, vf, qs, m', hg3, S, _ | ⟨_, hqs, hql⟩⟩
    rotate_left
    · walk_at "go"
      exact ⟨g3, _, _, _, _, _, _, by assumption, hqs, hql⟩
    · have hP3 := hg3 _ _ hP1
      have hab3 := hg3 _ _ hab
      walk_at "go"
      refine ex_assert ?_
      walk_at "go"
      refine wpAny_is_ref_self ?_
      walk_at "go"
      refine ⟨rfl, ?_⟩
      walk_at "go"
      rcases ps with _ | ⟨q, ps⟩
      · refine ⟨fun h => ?_, fun h => absurd h (by decide)⟩
        walk_at "go"
        refine cw_bnd (D := R0) rfl rfl ?_
        walk_at "go"
        refine ⟨St.gh (by assumption) _ _ hab3, ?_⟩
        refine call_bnd hab3 (by assumption) (by simp [txs]) fun s' S => ?_
        walk_at "go"
        exact ⟨g3, _, _, _, [([46, 42], _)], _, _, by assumption, rfl, by simp⟩
      · refine ⟨fun h => absurd h (by simp; walk_at "o"), fun h => ?_⟩
        walk_at "go"
        refine ex_assert ?_
        walk_at "go"
        refine wpAny_isNot_other rfl (by simp) ?_
        walk_at "go"
        refine ⟨rfl, ?_⟩
        walk_at "go"
        rename_i F _ _ _ _ S
        refine ex_while (JtX W φ g g3 L P sa R0 ab F _ m' (q :: ps))
          (q :: ps).length ⟨0, _, _, _, Nat.zero_le _, S⟩ ?_
        rintro k s' ⟨j, ti, m2, _, hj, S⟩
        rcases Nat.lt_or_ge j (q :: ps).length with hlt | hge
        · have hb : decide (((j + 1 : Nat) : Int) < (((q :: ps).length + 1 : Nat) : Int)) = true := by rw [decide_eq_true_eq]; walk_at "o"
          walk_at "go"
          refine l_item (x := .str (T ((q :: ps)[j]).1) ((q :: ps)[j]).2) (St.gh (by assumption) _ _ hP3) rfl (by walk_at "o") (by walk_at "o") (by
            rw [show (((j + 1 : Nat) : Int)).toNat = j + 1 by walk_at "o", List.getElem?_cons_succ]; simp only [txs]; rw [List.getElem?_map, List.getElem?_eq_getElem hlt]; rfl) (by with_unfolding_all rfl) ?_
          walk_at "go"
          refine wpAny_isNot_other rfl (by simp) ?_
          walk_at "go"
          refine l_item (x := .str (T ((q :: ps)[j]).1) ((q :: ps)[j]).2) (St.gh (by assumption) _ _ hP3) rfl (by walk_at "o") (by walk_at "o") (by
            rw [show (((j + 1 : Nat) : Int)).toNat = j + 1 by walk_at "o", List.getElem?_cons_succ]; simp only [txs]; rw [List.getElem?_map, List.getElem?_eq_getElem hlt]; rfl) (by with_unfolding_all rfl) ?_
          walk_at "go"
          refine append0 (by assumption) (by simp only [txs, List.length_map, List.length_take]; walk_at "o") fun s' S => ?_
          walk_at "go"
          rename_i S
          have e1 : txs ((q :: ps).take j) ++ [Value.str (T ((q :: ps)[j]).1) ((q :: ps)[j]).2] = txs ((q :: ps).take (j + 1)) := by
            rw [List.take_succ_eq_append_getElem hlt, txs_append]; rfl
          (walk_at "zS"); rw [e1, show ((j + 1 : Nat) : Int) + 1 = ((j + 1 + 1 : Nat) : Int) by walk_at "o"] at S
          exact ⟨(q :: ps).length - (j + 1), by walk_at "o", j + 1, _, _, _, hlt, S⟩
        · have hje : j = (q :: ps).length := by walk_at "o"
          subst hje
          rw [List.take_length] at S
          have hq1 : ((q :: ps).map (·.1)).flatten.length ≤ 1000 := by rw [List.length_flatten]; exact hsum
          walk_at "go"
          refine s_join (sep := []) (ps := q :: ps) (by assumption) (by walk_at "hp") rfl (by rw [List.length_nil, Nat.mul_zero]; walk_at "o") ?_
          intro tj s' S
          have hjn : joinL [] ((q :: ps).map (·.1)) = ((q :: ps).map (·.1)).flatten := joinL_nil _
          rw [hjn]
          walk_at "go"
          rename_i S
          have S := St.dropPre (new := [_]) S
          refine cw_bnd (D := R0) rfl rfl ?_
          walk_at "go"
          refine ⟨St.gh (by assumption) _ _ hab3, ?_⟩
          refine call_bnd hab3 (by assumption) (by simp [txs]) fun s' S => ?_
          walk_at "go"
          refine cw_bnd (D := R0) rfl rfl ?_
          walk_at "go"
          refine ⟨St.gh (by assumption) _ _ hab3, ?_⟩
          refine call_bnd hab3 (by assumption) (by simp [txs]) fun s' S => ?_
          walk_at "go"
          exact ⟨0, by walk_at "o", g3, _, _, _, _, [([46, 42], _), (((q :: ps).map (·.1)).flatten, _)], _, hg3, S, .zero _ (by simp) (by simp)⟩
  · obtain ⟨g2, ti, tn, vf, qs, m', _, S, hqs, hql⟩ := hq
    walk_at "go"
    refine ex_assert ?_
    walk_at "go"
    refine ⟨by simp, ?_⟩
    walk_at "go"
    have hjl : ((qs.map (·.1)).map (·.length)).sum ≤ 1002 := by
      have := congrArg List.length hqs
      rw [List.length_flatten, List.length_append, List.length_flatten] at this
      have h2 : ((ps.map (·.1)).map List.length).sum ≤ 1000 := hsum
      show ((qs.map (·.1)).map List.length).sum ≤ 1002
      simp only [List.length_cons, List.length_nil] at this; walk_at "o"
    refine s_join (ps := qs) (by assumption) (by walk_at "hp") rfl (by simp at hjl ⊢; walk_at "o") ?_
    intro tj s' S
    have hjn : joinL [] (qs.map (·.1)) = [46, 42] ++ (ps.map (·.1)).flatten := by rw [joinL_nil, hqs]
    have hfl : (ps.map (·.1)).flatten.length ≤ 1000 := by rw [List.length_flatten]; exact hsum
    rw [hjn]
    obtain ⟨FL, hFL⟩ : ∃ FL, FL = (ps.map (·.1)).flatten := ⟨_, rfl⟩
    rw [← hFL] at hfl ⊢
    have hres : ∀ t, Value.str (T ([] ++ [40, 63, 115, 58] ++ ([46, 42] ++ FL) ++ [41, 92, 90])) t = Value.str (T (jtpL (ps.map (·.1)))) t := fun t => by rw [hFL]; rfl
    walk_at "go"
    refine JoinedStr_many ?_
    refine joinParts_cons ?_
    refine ev_str (l := [40, 63, 115, 58]) (by decide +kernel) ?_
    refine ⟨by show (T [] ++ T [40, 63, 115, 58]).length ≤ _; rw [T_append, T_len, sizeLine_eq]; simp, ?_⟩
    show wpAny _ _ (joinParts (T [] ++ T [40, 63, 115, 58]) _) _ _ _
    rw [T_append]
    refine joinParts_cons ?_
    refine FormattedValue_plain ?_
    walk_at "go"
    refine formatField_str (fun t6 k6 => ?_) (by rw [T_len, sizeLine_eq, List.length_append]; simp; walk_at "o")
    have S6 := (St.tk (by walk_at "S") k6 : St W φ g nmsJ _ L _ _ _)
    refine ⟨by rw [T_append, T_len, sizeLine_eq]; simp; walk_at "o", ?_⟩
    rw [T_append]
    refine joinParts_cons ?_
    refine ev_str (l := [41, 92, 90]) (by decide +kernel) ?_
    refine ⟨by rw [T_append, T_len, sizeLine_eq]; simp; walk_at "o", ?_⟩
    rw [T_append]
    refine joinParts_nil ?_ (by rw [T_len, sizeLine_eq]; simp; walk_at "o")
    rw [hres]
    (repeat walk_at "kn"); exact ⟨_, _, _, S6.tk _, _, rfl⟩
end
end
section
open PySem PySem.Calls PyProof.Rows PySem.Spec PySem.W PySem.Builtin.Str
section
variable {W : Wd} {φ g0 g g' : Gr} {names : List Str} {L : Addr} {vals vals' : List (Option Value)} {mu : List (Addr × Obj)} {s s' : Shared} {A : Around} {E : Value → Shared → Prop}
noncomputable abbrev objO : Obj := { cls := .type "object", data := .plain }
theorem mro_obj : mroOf (.type "object") = pure [.type "object"] := by rw [mroOf_type]; kernel_rfl
theorem lk_obj_new : typeLookup (.type "object") "__new__" = pure (some (.builtin "object.__new__")) := by rw [typeLookup_type, builtinLookup_eq_fast]; kernel_rfl
theorem called_obj : TypeCalled "object" "object.__new__" "object.__init__" :=
  ⟨by decide +kernel, by decide +kernel, ⟨_, _, mro_obj⟩, madeBy_type mro_obj lk_obj_new (by decide +kernel), by decide +kernel, by rw [isSubtype_type]; kernel_rfl, F.slot_object_init⟩
theorem tc_obj : checkTypeCall "object" ⟨[], []⟩ = pure () := by kernel_rfl
theorem nc_obj : checkBuiltinCall "object.__new__" ⟨[.type "object"], []⟩ = pure () := by kernel_rfl
theorem here_obj : Bind.madeHere "object.__new__" (.type "object") = pure () := by
  unfold Bind.madeHere; kernel_rfl
theorem new_obj_in : MeetsIn PP W.w (Builtin.«object.__new__» ⟨[.type "object"], []⟩) (fun A R s => R (.ok (.ret (.ref s.heap.objs.size))) { s with heap := s.heap.push objO }) :=
  .of_wp fun A R s h => by
    obtain ⟨hp, g, d, tk, os⟩ := s
    have f1 := here_obj
    unfold Builtin.«object.__new__»
    repeat (any_goals (first | assumption | wp_step))
    exact ⟨_, rfl, h⟩
theorem init_obj (obj : Value) : Meets (Builtin.«object.__init__» ⟨[obj], []⟩) (fun A R s => R (.ok (.ret .none)) s) :=
  .of_wp fun _ _ A R s h => wpAny_pure ⟨_, rfl, h⟩
theorem new_object {Q : Value → Shared → Prop} (S : St W φ g0 names g L vals mu s) (h : ∀ a g' s', Sub g g' → St W φ g0 names g' L vals mu s' → Q (.ref a) s') : wpAny (model PP W.w) A (call (.type "object") []) Q E s := by
  refine callType_meetsIn (Q₁ := fun obj s₁ => obj = .ref s.heap.objs.size ∧ s₁ = { s with heap := s.heap.push objO }) called_obj tc_obj nc_obj F.entry_object_new F.entry_object_init new_obj_in ⟨rfl, rfl⟩ fun obj s₁ hq => ?_
  obtain ⟨rfl, rfl⟩ := hq
  have hg0 : g s.heap.objs.size = none := by
    cases q : g s.heap.objs.size with
    | none => rfl
    | some o => exact absurd (Heap.lt_size (S.gh _ _ q)) (Nat.lt_irrefl _)
  exact ⟨⟨_, Heap.get?_push_size _ rfl, rfl⟩, F.args_object_init_1 _, _, init_obj _, rfl, h _ _ _ (gset_sub hg0) (S.push_g objO rfl)⟩
variable {f : Nat → Addr} {Q : Value → Shared → Prop}
set_option linter.unusedVariables false
set_option maxHeartbeats 1000000 in
theorem w_translate {t21 : Tb} (hA : Rm 4 A) (R : Rdy W g s) (G : Gl W f) (B : Lb W) (ht : t21 ∈ W.tabs) (hcd : t21.codes = cod21) (hF : FnC W (f 21) t21 (stm 21)) (hP : PatAt W (f 15) cTW1 1) {nm : List Nat} {t : Tok} {D : List (PyData × PyData)} (hn : nm.length ≤ 70)
    (hTab : ∀ h : Heap, (∀ a o, W.h0.get? a = some o → h.get? a = some o) → PyProof.Rows.IntTab PP W.w h (f 18) D)
    (hl : ∀ c ∈ nm, c ∉ odd → lookup (.int c) D = none ∨ lookup (.int c) D = some (.str (T [92, c])))
    (k : ∀ v g' s', Fin' W g s g' s' → (∃ t, v = .str (T (jtpL (nm.map (partL D)))) t) → Q v s') :
    wpAny (model PP W.w) A (call (.ref (f 16)) [.str (T ([42] ++ spellL nm)) t]) Q NoE s := by
  obtain ⟨o, doc, pm, an, cd, ct, ho, hd', hc⟩ := G.fn 16 rfl
  refine enterP ["pat"] ["STAR", "parts"] ["pat", "STAR", "parts"] [some (.str (T ([42] ++ spellL nm)) t), none, none] rfl rfl
    (Post := fun g' v => ∃ t, v = .str (T (jtpL (nm.map (partL D)))) t) hA R ho hd' hc rfl rfl (by decide) (by decide) (by decide) ?_ k
  intro φ L s₁ S
  walk_at "go"
  refine callWith_type0 ?_
  refine new_object (by assumption) fun sa g1 s' hg1 S => ?_
  walk_at "go"
  refine w_translate_ (hA.deeper _) (St.rdy (by assumption)) G B ht hcd hF hP (.inr ⟨rfl, rfl⟩) hn hTab hl fun v g2 s' F hv => ?_
  have S := St.back (by assumption) F
  obtain ⟨RR, ps, n, hRR, hps⟩ := hv
  walk_at "go"
  have hpsl : ps.length = nm.length := by have := congrArg List.length hps; simpa using this
  refine w_jtp (Rm.le (hA.deeper _) (by walk_at "o")) (St.rdy (by assumption)) G hRR (by walk_at "o") ?_ fun v g3 s' F hv => ?_
  · rw [hps]
    have : ∀ l : List Nat, ((l.map (partL D)).map (·.length)).sum ≤ 4 * l.length := by
      intro l
      induction l with
      | nil => simp
      | cons c r ih =>
        have h1 : (partL D c).length ≤ 4 := by unfold partL; split <;> split <;> simp
        simp only [List.map_cons, List.sum_cons, List.length_cons]; walk_at "o"
    have := this nm
    walk_at "o"
  · have S := St.back (by assumption) F
    obtain ⟨tv, rfl⟩ := hv
    rw [hps]
    walk_at "go"
    exact ⟨_, _, _, by assumption, _, rfl⟩
end
end
section
open PySem PySem.Calls PyProof.Rows PySem.Spec PySem.W PySem.Builtin.Str
section
set_option linter.unusedVariables false
theorem tk105 : Tk cTOK 23 105 true := fun sn => ⟨_, rfl⟩
theorem tk110 : Tk cTOK 23 110 true := fun sn => ⟨_, rfl⟩
theorem tk102 : Tk cTOK 23 102 true := fun sn => ⟨_, rfl⟩
theorem tk109 : Tk cTOK 23 109 true := fun sn => ⟨_, rfl⟩
theorem tk59 : Tk cTOK 23 59 false := fun sn => ⟨_, rfl⟩
theorem tk44 : Tk cTOK 23 44 false := fun sn => ⟨_, rfl⟩
theorem tk61 : Tk cTOK 23 61 false := fun sn => ⟨_, rfl⟩
theorem tokB_facts {c : Nat} (h : tokB c = true) : Unicode.isSpace c = false ∧ c ≠ 34 ∧ c ≠ 59 ∧ c ≠ 44 := by
  have h256 : c < 256 := by
    unfold tokB at h; simp at h; exact h.1
  have : ∀ c : Fin 256, tokB c.val = true → Unicode.isSpace c.val = false ∧ c.val ≠ 34 ∧ c.val ≠ 59 ∧ c.val ≠ 44 := by decide +kernel
  exact this ⟨c, h256⟩ h
noncomputable abbrev KV := List Nat × List Nat
noncomputable def bareV (v : List Nat) : Bool := !v.isEmpty && v.all tokB
noncomputable def wvL (v : List Nat) : List Nat := if bareV v then v else [34] ++ escL v ++ [34]
noncomputable def pairL (p : KV) : List Nat := p.1 ++ 61 :: wvL p.2
noncomputable def restS : List (Bool × KV) → List Nat
  | [] => []
  | (b, p) :: r => (if b then 44 else 59) :: 32 :: (pairL p ++ restS r)
noncomputable def grS : List KV → List (Bool × KV) → List (List KV)
  | cur, [] => [cur]
  | cur, (b, p) :: r => if b then cur :: grS [p] r else grS (cur ++ [p]) r
noncomputable def KeyOk (k : List Nat) : Prop := k ≠ [] ∧ ∀ c ∈ k, c ∈ [105, 110, 102, 109]
theorem KeyOk.tk {k : List Nat} (h : KeyOk k) : (∀ c ∈ k, Unicode.isSpace c = false) ∧ (∀ c ∈ k, Tk cTOK 23 c true) ∧ (∀ c ∈ k, (c == 61 || Unicode.isSpace c || c == 59) = false) := by
  refine ⟨fun c hc => ?_, fun c hc => ?_, fun c hc => ?_⟩ <;> have := h.2 c hc <;> simp only [List.mem_cons, List.not_mem_nil, or_false] at this <;> rcases this with rfl | rfl | rfl | rfl
  · rfl
  · rfl
  · rfl
  · rfl
  · exact tk105
  · exact tk110
  · exact tk102
  · exact tk109
  · rfl
  · rfl
  · rfl
  · rfl
theorem escL_split : ∀ v : List Nat, ∃ p ts, escL v = p ++ tailL ts ∧ p ++ unesc ts = v ∧ (∀ x ∈ p, x ≠ 34 ∧ x ≠ 92) ∧ (∀ t ∈ ts, t.1 ≠ 10 ∧ ∀ x ∈ t.2, x ≠ 34 ∧ x ≠ 92) ∧ ts.length ≤ v.length
  | [] => ⟨[], [], rfl, rfl, by simp, by simp, Nat.le_refl _⟩
  | c :: r => by
    obtain ⟨p, ts, h1, h2, h3, h4, h5⟩ := escL_split r
    have e : escL (c :: r) = (if BJ c then [92, c] else [c]) ++ escL r := by unfold escL; simp
    cases hb : BJ c with
    | true =>
      refine ⟨[], (c, p) :: ts, by rw [e, hb, h1]; simp [tailL], by rw [← h2]; simp [unesc], by simp, ?_, by simp; walk_at "o"⟩
      intro t ht
      rcases List.mem_cons.mp ht with rfl | ht
      · exact ⟨fun e => (by have e' : c = 10 := e; subst e'; cases hb), h3⟩
      · exact h4 t ht
    | false =>
      refine ⟨c :: p, ts, by rw [e, hb, h1]; simp, by rw [← h2]; simp, ?_, h4, by simp; walk_at "o"⟩
      intro x hx
      rcases List.mem_cons.mp hx with rfl | hx
      · unfold BJ at hb; simp at hb; exact hb
      · exact h3 x hx
theorem rstrip_none {v : List Nat} (h : ∀ c ∈ v, Unicode.isSpace c = false) : (v.reverse.dropWhile Unicode.isSpace).reverse = v := by
  have : v.reverse.dropWhile Unicode.isSpace = v.reverse := by
    cases hr : v.reverse with
    | nil => rfl
    | cons x r =>
      have hx : x ∈ v := by rw [← List.mem_reverse, hr]; exact .head _
      rw [List.dropWhile_cons, h x hx]; rfl
  rw [this, List.reverse_reverse]
theorem bare_facts {v : List Nat} (h : bareV v = true) : v ≠ [] ∧ (∀ c ∈ v, (Unicode.isSpace c || c == 59 || c == 44) = false) ∧ (∀ c ∈ v, Unicode.isSpace c = false) ∧ ∀ c ∈ v, c ≠ 34 := by
  unfold bareV at h
  simp only [Bool.and_eq_true, Bool.not_eq_true', List.all_eq_true] at h
  refine ⟨fun e => (by rw [e] at h; exact absurd h.1 (by decide)), fun c hc => ?_, fun c hc => (tokB_facts (h.2 c hc)).1, fun c hc => (tokB_facts (h.2 c hc)).2.1⟩
  obtain ⟨a, b, d, e⟩ := tokB_facts (h.2 c hc)
  simp [a, d, e]
theorem restS_head (r : List (Bool × KV)) : restS r = [] ∨ ∃ c t, restS r = c :: t ∧ (c = 59 ∨ c = 44) := by
  cases r with
  | nil => exact .inl rfl
  | cons x r =>
    obtain ⟨b, p⟩ := x
    cases b
    · exact .inr ⟨_, _, rfl, .inl rfl⟩
    · exact .inr ⟨_, _, rfl, .inr rfl⟩
end
section
noncomputable def PairAt (g : Gr) (v : Value) (p : KV) : Prop := ∃ a t u, v = .ref a ∧ g a = some (tup [.str (T p.1) t, .str (T p.2) u])
inductive All2 {α β : Type} (R : α → β → Prop) : List α → List β → Prop
  | nil : All2 R [] []
  | cons {a b as bs} : R a b → All2 R as bs → All2 R (a :: as) (b :: bs)
theorem All2.mono {α β : Type} {R R' : α → β → Prop} (hr : ∀ a b, R a b → R' a b) {as : List α} {bs : List β} (h : All2 R as bs) : All2 R' as bs := by
  induction h with
  | nil => exact .nil
  | cons h _ ih => exact .cons (hr _ _ h) ih
theorem All2.app {α β : Type} {R : α → β → Prop} {as as' : List α} {bs bs' : List β} (h : All2 R as bs) (h' : All2 R as' bs') : All2 R (as ++ as') (bs ++ bs') := by
  induction h with
  | nil => exact h'
  | cons h _ ih => exact .cons h ih
theorem All2.len {α β : Type} {R : α → β → Prop} {as : List α} {bs : List β} (h : All2 R as bs) : as.length = bs.length := by
  induction h with
  | nil => rfl
  | cons _ _ ih => simp [ih]
theorem All2.get {α β : Type} {R : α → β → Prop} {as : List α} {bs : List β} (h : All2 R as bs) : ∀ (i : Nat) (a : α), as[i]? = some a → ∃ b, bs[i]? = some b ∧ R a b := by
  induction h with
  | nil => intro i a e; simp at e
  | cons h _ ih =>
    intro i a e
    cases i with
    | zero => simp at e; subst e; exact ⟨_, rfl, h⟩
    | succ i => simpa using ih i a (by simpa using e)
noncomputable def ListAt (g : Gr) (v : Value) (ps : List KV) : Prop := ∃ a vs n, v = .ref a ∧ g a = some (lst vs n) ∧ All2 (PairAt g) vs ps
theorem PairAt.mono {g g' : Gr} (hg : Sub g g') {v : Value} {p : KV} (h : PairAt g v p) : PairAt g' v p := by
  obtain ⟨a, t, u, e, h⟩ := h; exact ⟨a, t, u, e, hg _ _ h⟩
theorem ListAt.mono {g g' : Gr} (hg : Sub g g') {v : Value} {p : List KV} (h : ListAt g v p) : ListAt g' v p := by
  obtain ⟨a, vs, n, e, h, hp⟩ := h; exact ⟨a, vs, n, e, hg _ _ h, hp.mono fun _ _ => PairAt.mono hg⟩
end
end
section
open PySem PySem.Calls PyProof.Rows PySem.Spec PySem.W PySem.Builtin.Str
section
variable {W : Wd} {φ g0 g g' : Gr} {names : List Str} {L : Addr} {vals vals' : List (Option Value)} {mu : List (Addr × Obj)} {s s' : Shared} {A : Around} {E : Value → Shared → Prop}
theorem for_loopT {I l : Addr} {n : Nat} {P : Nat → Value → Prop} {C : Gr → Prop} {elts : List Expr} {x1} {pos : Pos} {body : List Stmt} {env : Env} {o : Obj} {R : Result → Shared → Prop}
    (J : Nat → Gr → List (Option Value) → List (Addr × Obj) → Prop) (N : Nx W A φ I (IOlist l) n P C) (hC : ∀ i g vals mu, J i g vals mu → C g) (hI : IOlist l 0 o)
    (S : St W φ g0 names g L vals ((I, o) :: mu) s) (h0 : J 0 g vals mu) (hP : ∀ i v, P i v → ∃ a, v = .ref a)
    (step : ∀ i g vals mu v s o, i < n → J i g vals mu → P i v → St W φ g0 names g L vals ((I, o) :: mu) s →
      ∀ K, HD K (LQ W φ g0 names L [(I, o)] J (i + 1) R) → wpAny (model PP W.w) A (assign (.Tuple elts x1 pos) env v) (bdK (model PP W.w) A NoE env body K) NoE s)
    (fin : ∀ g vals mu s, J n g vals mu → St W φ g0 names g L vals mu s → R (.ok .next) s) :
    codeAny (model PP W.w) A (.forLoop (.Tuple elts x1 pos) (.ref I) body [] env) R s := by
  refine codeAny_forLoop_any (fun k s => ∃ i g vals mu o, k = n + 1 - i ∧ i ≤ n ∧ IOlist l i o ∧ J i g vals mu ∧ St W φ g0 names g L vals ((I, o) :: mu) s) ?_ (n + 1) ⟨0, g, vals, mu, o, rfl, Nat.zero_le _, hI, h0, S⟩
  rintro k s ⟨i, g, vals, mu, o, rfl, hi, hIO, hJ, S⟩
  refine N.nx (hC _ _ _ _ hJ) hIO S (fun v o' s' hlt hPv hIO' S' => ?_) fun s' hge S' => ?_
  · obtain ⟨T, rfl⟩ := hP i v hPv
    refine wpAny_letOwnedTupleGo_listiter (i := i + 1) (l := l) ⟨o', (S'.mus _ (List.mem_cons_self)).1, hIO'.1, hIO'.2⟩ ?_
    refine NoE_to (wpAny_mono (step i g vals mu _ s' o' hlt hJ hPv S' _ fun _ _ x => x) (fun _ s₂ h₂ => ?_) fun _ _ x => x.elim)
    refine NoE_to (wpAny_mono h₂ (fun f s₃ h₃ => ?_) fun _ _ x => x.elim)
    have key : Bk W φ g0 names L [(I, o')] J (i + 1) s₃ → ∃ m, m < n + 1 - i ∧ ∃ i g vals mu o, m = n + 1 - i ∧ i ≤ n ∧ IOlist l i o ∧ J i g vals mu ∧ St W φ g0 names g L vals ((I, o) :: mu) s₃ := by
      rintro ⟨g', vals', mu', new, S₃, hJ'⟩
      exact ⟨n + 1 - (i + 1), by walk_at "o", i + 1, g', vals', mu', o', rfl, hlt, hIO', hJ', S₃.dropPre⟩
    cases f with
    | next => exact key h₃
    | cont => exact key h₃
    | brk => exact h₃
    | ret v => exact h₃
  · have : i = n := by walk_at "o"
    subst this
    exact wpAny_execs_nil (fin _ _ _ _ hJ S')
end
end
section
open PySem PySem.Calls PyProof.Rows PySem.Spec PySem.W PySem.Builtin.Str
section
variable {W : Wd} {φ g0 g g' : Gr} {names : List Str} {L : Addr} {vals vals' : List (Option Value)} {mu : List (Addr × Obj)} {s s' : Shared} {A : Around} {E : Value → Shared → Prop}
theorem St.turn2 {e i : Addr} {o1 o2 o1' o2' : Obj} {h' : Heap} {k : Nat} (S : St W φ g0 names g L vals ((e, o1) :: (i, o2) :: mu) s) (hk : ∀ b o, b ≠ e → b ≠ i → s.heap.get? b = some o → h'.get? b = some o)
    (h1 : h'.get? e = some o1') (h2 : h'.get? i = some o2') : St W φ g0 names g L vals ((e, o1') :: (i, o2') :: mu) { s with heap := h', toks := k } := by
  obtain ⟨a1, a2, a3, a4⟩ := S.mus _ (.head _)
  obtain ⟨b1, b2, b3, b4⟩ := S.mus _ (.tail _ (.head _))
  obtain ⟨oL, es, ep, hL, r⟩ := id S.ns
  have nd := S.nd
  refine ⟨S.base, S.stat, S.g0g, fun b o x => hk b o (fun q => ?_) (fun q => ?_) (S.gh b o x), fun b o x => hk b o (fun q => ?_) (fun q => ?_) (S.fh b o x), ⟨oL, es, ep, hk _ _ (Ne.symm a2) (Ne.symm b2) hL, r⟩, S.len, S.gL, S.fL, fun p hp => ?_, ?_, S.sep, fun t ht => ?_, S.os, S.gens⟩
  · subst q; rw [a3] at x; cases x
  · subst q; rw [b3] at x; cases x
  · subst q; rw [a4] at x; cases x
  · subst q; rw [b4] at x; cases x
  · rcases List.mem_cons.mp hp with rfl | hp
    · exact ⟨h1, a2, a3, a4⟩
    · rcases List.mem_cons.mp hp with rfl | hp
      · exact ⟨h2, b2, b3, b4⟩
      · obtain ⟨c1, c2⟩ := S.mus p (.tail _ (.tail _ hp))
        simp only [List.map_cons, List.nodup_cons, List.mem_cons, not_or] at nd
        exact ⟨hk _ _ (fun q => nd.1.2 (List.mem_map.mpr ⟨p, hp, q⟩)) (fun q => nd.2.1 (List.mem_map.mpr ⟨p, hp, q⟩)) c1, c2⟩
  · exact nd
  · obtain ⟨x, y1, y2, y3, y4⟩ := S.tabs t ht
    obtain ⟨ps, hp, r⟩ := id x
    refine ⟨x.mono (.refl _) ((hk _ _ (Ne.symm (y4 _ (.head _))) (Ne.symm (y4 _ (.tail _ (.head _)))) hp).trans hp.symm), y1, y2, y3, fun p hp' => ?_⟩
    rcases List.mem_cons.mp hp' with rfl | hp'
    · exact y4 (e, o1) (.head _)
    · rcases List.mem_cons.mp hp' with rfl | hp'
      · exact y4 (i, o2) (.tail _ (.head _))
      · exact y4 p (.tail _ (.tail _ hp'))
noncomputable abbrev enO (it : Addr) (i : Int) (old : Value) : Obj := { cls := .type "enumerate", data := .fields #[.none, .bool false, .ref it, rawInt i, .none, old] }
noncomputable def Far (W : Wd) (φ g : Gr) (L : Addr) (mu : List (Addr × Obj)) (a : Addr) : Prop := g a = none ∧ φ a = none ∧ a ≠ L ∧ (∀ p ∈ mu, p.1 ≠ a) ∧ ∀ t ∈ W.tabs, t.P ≠ a
theorem St.far (S : St W φ g0 names g L vals mu s) {a : Addr} (hs : s.heap.objs.size ≤ a) : Far W φ g L mu a := by
  have none_of : ∀ {g : Gr}, Sub g s.heap.get? → g a = none := fun {g} hg => by
    cases q : g a with
    | none => rfl
    | some o' => exact absurd (Heap.lt_size (hg _ _ q)) (Nat.not_lt.mpr hs)
  obtain ⟨oL, es, ep, hL, r⟩ := id S.ns
  refine ⟨none_of S.gh, none_of S.fh, Nat.ne_of_gt (Nat.lt_of_lt_of_le (Heap.lt_size hL) hs), fun p hp => Nat.ne_of_lt (Nat.lt_of_lt_of_le (Heap.lt_size (S.mus p hp).1) hs), fun t ht => ?_⟩
  obtain ⟨⟨ps, hp', _⟩, _⟩ := S.tabs t ht
  exact Nat.ne_of_lt (Nat.lt_of_lt_of_le (Heap.lt_size hp') hs)
theorem St.take (S : St W φ g0 names g L vals mu s) {a : Addr} {o : Obj} (ha : s.heap.get? a = some o) (F : Far W φ g L mu a) : St W φ g0 names g L vals ((a, o) :: mu) s := by
  obtain ⟨f1, f2, f3, f4, f5⟩ := F
  refine ⟨S.base, S.stat, S.g0g, S.gh, S.fh, S.ns, S.len, S.gL, S.fL, fun p hp => ?_, ?_, S.sep, fun t ht => ?_, S.os, S.gens⟩
  · rcases List.mem_cons.mp hp with rfl | hp
    · exact ⟨ha, f3, f1, f2⟩
    · exact S.mus p hp
  · rw [List.map_cons, List.nodup_cons]
    exact ⟨fun hm => by obtain ⟨p, hp, e⟩ := List.mem_map.mp hm; exact f4 p hp e, S.nd⟩
  · obtain ⟨x, y1, y2, y3, y4⟩ := S.tabs t ht
    refine ⟨x, y1, y2, y3, fun p hp => ?_⟩
    rcases List.mem_cons.mp hp with rfl | hp
    · exact Ne.symm (f5 t ht)
    · exact y4 p hp
theorem new_enum {l : Addr} {vs : List Value} {n : Nat} {Q : Value → Shared → Prop} (S : St W φ g0 names g L vals mu s) (hl : s.heap.get? l = some (lst vs n))
    (h : ∀ e i o s', IOlist l 0 o → St W φ g0 names g L vals ((e, enO i 0 .none) :: (i, o) :: mu) s' → Q (.ref e) s') : wpAny (model PP W.w) A (call (.type "enumerate") [.ref l]) Q E s := by
  refine call_enumerate_list (items := vs.toArray) ⟨_, hl, rfl, n, rfl⟩ fun h' he hit hz hk => ?_
  obtain ⟨o, ho, c1, c2⟩ := hit
  have F1 := S.far (Nat.le_refl s.heap.objs.size)
  have F2 := S.far (Nat.le_succ s.heap.objs.size)
  have S1 := (S.ext (h' := h') (k := s.toks) hk).take ho F1
  have S2 := S1.take (a := s.heap.objs.size + 1) he ⟨F2.1, F2.2.1, F2.2.2.1, fun p hp => by
    rcases List.mem_cons.mp hp with rfl | hp
    · exact Nat.ne_of_lt (Nat.lt_succ_self _)
    · exact F2.2.2.2.1 p hp, F2.2.2.2.2⟩
  exact h _ _ o _ ⟨c1, c2⟩ S2
theorem for_enum {e I l : Addr} {vs : List Value} {elts : List Expr} {x1} {pos : Pos} {body : List Stmt} {env : Env} {o : Obj} {R : Result → Shared → Prop} (hh : A.handled = none)
    (J : Nat → Gr → List (Option Value) → List (Addr × Obj) → Prop) (hC : ∀ i g vals mu, J i g vals mu → ∃ m, g l = some (lst vs m)) (hI : IOlist l 0 o)
    (S : St W φ g0 names g L vals ((e, enO I 0 .none) :: (I, o) :: mu) s) (h0 : J 0 g vals mu)
    (step : ∀ i g vals mu tk v a s oe o, i < vs.length → J i g vals mu → vs[i]? = some v → g a = none → St W φ g0 names (gset g a (tup [.int i tk, v])) L vals ((e, oe) :: (I, o) :: mu) s →
      ∀ K, HD K (LQ W φ g0 names L [(e, oe), (I, o)] J (i + 1) R) → wpAny (model PP W.w) A (assign (.Tuple elts x1 pos) env (.ref a)) (bdK (model PP W.w) A NoE env body K) NoE s)
    (fin : ∀ g vals mu s, J vs.length g vals mu → St W φ g0 names g L vals mu s → R (.ok .next) s) :
    codeAny (model PP W.w) A (.forLoop (.Tuple elts x1 pos) (.ref e) body [] env) R s := by
  refine codeAny_forLoop_any (fun k s => ∃ i g vals mu o old, k = vs.length + 1 - i ∧ i ≤ vs.length ∧ IOlist l i o ∧ J i g vals mu ∧ St W φ g0 names g L vals ((e, enO I (i : Nat) old) :: (I, o) :: mu) s) ?_ (vs.length + 1) ⟨0, g, vals, mu, o, _, rfl, Nat.zero_le _, hI, h0, S⟩
  rintro k s ⟨i, g, vals, mu, o, old, rfl, hi, hIO, hJ, S⟩
  obtain ⟨m, hC'⟩ := hC _ _ _ _ hJ
  have he := (S.mus _ (.head _)).1
  have hit : s.heap.IsListIter I l i := ⟨o, (S.mus _ (.tail _ (.head _))).1, hIO.1, hIO.2⟩
  have hl : s.heap.IsList l vs.toArray := ⟨_, S.gh _ _ hC', rfl, m, rfl⟩
  have hne : e ≠ I := by
    have nd := S.nd
    simp only [List.map_cons, List.nodup_cons, List.mem_cons, not_or] at nd
    exact nd.1.1
  cases hv : vs[i]? with
  | none =>
    refine wpAny_pyNext_enum_end hh he hit hl (by simpa using hv) fun h' he' => ?_
    have hin : i = vs.length := by have := List.getElem?_eq_none_iff.mp hv; walk_at "o"
    subst hin
    have S1 : St W φ g0 names g L vals ((I, o) :: mu) s := St.dropPre (new := [_]) S
    exact wpAny_execs_nil (fin _ _ _ _ hJ (S1.let_go (k := s.toks) he'))
  | some v =>
    refine wpAny_pyNext_enum_item he hit hl (by simpa using hv) hne fun h1 heo hit1 ht1 hz1 hk1 => ?_
    refine wpAny_letOwnedTupleGo_enum heo fun h2 he2 hs2 => ?_
    replace hs2 : Heap.SameBut e h1 h2 := hs2
    obtain ⟨o1, ho1, c1, c2⟩ := hit1
    have elt : e < s.heap.objs.size := Heap.lt_size he
    have ga : g s.heap.objs.size = none := by
      cases q : g s.heap.objs.size with
      | none => rfl
      | some o' => exact absurd (Heap.lt_size (S.gh _ _ q)) (Nat.lt_irrefl _)
    have S1 := S.turn2 (h' := h2) (k := s.toks + 1) (o1' := enO I ((i : Int) + 1) v) (o2' := o1) (fun b o' b1 b2 e' => hs2.extBut b o' b1 (hk1 b o' b1 b2 e')) he2 (hs2.extBut _ _ (Ne.symm hne) ho1)
    have ht2 : h2.get? s.heap.objs.size = some (tup [.int i s.toks, v]) := hs2.extBut _ _ (Nat.ne_of_gt elt) ht1
    have F1 := S.far (Nat.le_refl s.heap.objs.size)
    have S2 := (S1.take ht2 ⟨F1.1, F1.2.1, F1.2.2.1, fun p hp => by
      rcases List.mem_cons.mp hp with rfl | hp
      · exact F1.2.2.2.1 (e, enO I (i : Nat) old) (.head _)
      · rcases List.mem_cons.mp hp with rfl | hp
        · exact F1.2.2.2.1 (I, o) (.tail _ (.head _))
        · exact F1.2.2.2.1 p (.tail _ (.tail _ hp)), F1.2.2.2.2⟩).freeze
    have hlt : i < vs.length := (List.getElem?_eq_some_iff.mp hv).1
    refine NoE_to (wpAny_mono (step i g vals mu _ v _ _ _ o1 hlt hJ hv ga S2 _ fun _ _ x => x) (fun _ s₂ h₂ => ?_) fun _ _ x => x.elim)
    refine NoE_to (wpAny_mono h₂ (fun f s₃ h₃ => ?_) fun _ _ x => x.elim)
    have key : Bk W φ g0 names L [(e, enO I ((i : Int) + 1) v), (I, o1)] J (i + 1) s₃ → ∃ m, m < vs.length + 1 - i ∧ ∃ i g vals mu o old, m = vs.length + 1 - i ∧ i ≤ vs.length ∧ IOlist l i o ∧ J i g vals mu ∧ St W φ g0 names g L vals ((e, enO I (i : Nat) old) :: (I, o) :: mu) s₃ := by
      rintro ⟨g', vals', mu', new, S₃, hJ'⟩
      refine ⟨vs.length + 1 - (i + 1), by walk_at "o", i + 1, g', vals', mu', o1, v, rfl, hlt, ⟨c1, c2⟩, hJ', ?_⟩
      rw [show ((i + 1 : Nat) : Int) = (i : Int) + 1 by walk_at "o"]
      exact S₃.dropPre
    cases f with
    | next => exact key h₃
    | cont => exact key h₃
    | brk => exact h₃
    | ret v => exact h₃
end
end
section
open PySem PySem.Calls PyProof.Rows PySem.Spec PySem.W PySem.Builtin.Str
section
variable {W : Wd} {φ g0 g g' : Gr} {names : List Str} {L : Addr} {vals vals' : List (Option Value)} {mu : List (Addr × Obj)} {s s' : Shared} {A : Around} {E : Value → Shared → Prop}
set_option maxHeartbeats 4000000 in
theorem pct1 {t u : Tok} : ∀ z : Str, z.length ≤ 1000000 → Meets (Builtin.«str.__mod__» ⟨[.str ⟨#[34, 37, 115, 34]⟩ t, .str z u], []⟩) (fun _ R s => ∀ t' k, R (.ok (.ret (.str (Str.ofString "\"" ++ z ++ Str.ofString "\"") t'))) { s with toks := k }) := by
  kpc_run_s
theorem s_pct1 {z : List Nat} {t u : Tok} {Q : Value → Shared → Prop} (S : St W φ g0 names g L vals mu s) (hz : z.length ≤ 100000) (h : ∀ t' s', St W φ g0 names g L vals mu s' → Q (.str (T ([34] ++ z ++ [34])) t') s') :
    wpAny (model PP W.w) A (binaryOp .Mod (.str (T [34, 37, 115, 34]) t) (.str (T z) u)) Q E s := by
  refine KPc.mod_str (T := fun z => Str.ofString "\"" ++ z ++ Str.ofString "\"") (X' := ⟨#[34, 37, 115, 34]⟩) rfl (by rw [T_len]; walk_at "o") pct1 fun t' k => ?_
  have e : Str.ofString "\"" = T [34] := by decide +kernel
  show Q (.str (Str.ofString "\"" ++ T z ++ Str.ofString "\"") t') _
  rw [e, T_append, T_append]
  exact h _ _ (S.tk k)
theorem fv_s {x : List Nat} {pos : Pos} {value : Expr} {env : Env} {t : Tok} {Q : Value → Shared → Prop} (S : St W φ g0 names g L vals mu s) (hx : x.length ≤ 100000) (hv : ∀ Q : Value → Shared → Prop, Q (.str (T x) t) s → wpAny (model PP W.w) A (eval value env) Q E s)
    (h : ∀ t' s', St W φ g0 names g L vals mu s' → Q (.str (T x) t') s') : wpAny (model PP W.w) A (eval (.FormattedValue value 115 none pos) env) Q E s := by
  refine wpAny_FormattedValue_s (hv _ ?_)
  show wpAny _ _ (habitSame "fstring-hands-on-the-str" (.str (T x) t)) _ _ _
  refine habitSame_str (fun t1 k1 => ?_) (by rw [T_len, sizeLine_eq]; walk_at "o")
  exact formatField_str (fun t2 k2 => h _ _ ((S.tk k1).tk k2)) (by rw [T_len, sizeLine_eq]; walk_at "o")
theorem js3 {x y c : List Nat} {cs : Str} {k : Nat} {pos p1 p2 pc : Pos} {e1 e2 : Expr} {env : Env} {t u : Tok} {Q : Value → Shared → Prop} (S : St W φ g0 names g L vals mu s) (hx : x.length ≤ 100000) (hy : y.length ≤ 100000) (hc : cs = T c) (hcl : c.length ≤ 10)
    (hv1 : ∀ (s' : Shared) (Q : Value → Shared → Prop), St W φ g0 names g L vals mu s' → Q (.str (T x) t) s' → wpAny (model PP W.w) A (eval e1 env) Q E s') (hv2 : ∀ (s' : Shared) (Q : Value → Shared → Prop), St W φ g0 names g L vals mu s' → Q (.str (T y) u) s' → wpAny (model PP W.w) A (eval e2 env) Q E s')
    (h : ∀ t' s', St W φ g0 names g L vals mu s' → Q (.str (T (x ++ c ++ y)) t') s') :
    wpAny (model PP W.w) A (eval (.JoinedStr [.FormattedValue e1 115 none p1, .Constant (.str cs) k pc, .FormattedValue e2 115 none p2] pos) env) Q E s := by
  refine JoinedStr_many ?_
  refine joinParts_cons ?_
  refine fv_s S hx (fun Q hQ => hv1 _ _ S hQ) fun t1 s1 S => ?_
  refine ⟨by show (T [] ++ T x).length ≤ _; rw [T_append, T_len, sizeLine_eq]; simp; walk_at "o", ?_⟩
  show wpAny _ _ (joinParts (T [] ++ T x) _) _ _ _
  rw [T_append]
  refine joinParts_cons ?_
  refine ev_str (l := c) hc ?_
  have S := S.tk (s1.toks + 1)
  refine ⟨by rw [T_append, T_len, sizeLine_eq]; simp; walk_at "o", ?_⟩
  rw [T_append]
  refine joinParts_cons ?_
  refine fv_s S hy (fun Q hQ => hv2 _ _ S hQ) fun t1 s1 S => ?_
  refine ⟨by rw [T_append, T_len, sizeLine_eq]; simp; walk_at "o", ?_⟩
  rw [T_append]
  refine joinParts_nil ?_ (by rw [T_len, sizeLine_eq]; simp; walk_at "o")
  have := h s1.toks _ (S.tk (s1.toks + 1))
  simpa using this
end
end
section
open PySem PySem.Calls PyProof.Rows PySem.Spec PySem.W PySem.Builtin.Str
section
variable {W : Wd} {f : Nat → Addr} {g : Gr} {s : Shared} {A : Around} {Q : Value → Shared → Prop}
set_option linter.unusedVariables false
noncomputable abbrev nmsH : List Str := ["lists", "headers", "pairs", "attr", "k", "v"]
noncomputable def listL (ps : List KV) : List Nat := joinL [59, 32] (ps.map pairL)
noncomputable def headL (ls : List (List KV)) : List Nat := joinL [44, 32] (ls.map listL)
theorem joinL_len (sep : List Nat) : ∀ ls : List (List Nat), (joinL sep ls).length ≤ (ls.map (·.length)).sum + ls.length * sep.length
  | [] => by simp [joinL]
  | [x] => by simp [joinL]
  | x :: y :: r => by
    have ih := joinL_len sep (y :: r)
    have e : (joinL sep (x :: y :: r)).length = x.length + sep.length + (joinL sep (y :: r)).length := by simp [joinL]; walk_at "o"
    rw [e]
    simp only [List.map_cons, List.sum_cons, List.length_cons] at ih ⊢
    have : (r.length + 1 + 1) * sep.length = (r.length + 1) * sep.length + sep.length := by rw [Nat.add_mul, Nat.one_mul]
    walk_at "o"
theorem escL_len : ∀ l : List Nat, (escL l).length ≤ 2 * l.length := by
  intro l
  induction l with
  | nil => simp [escL]
  | cons c r ih =>
    have e : escL (c :: r) = (if BJ c then [92, c] else [c]) ++ escL r := by unfold escL; simp
    rw [e]; split <;> simp <;> walk_at "o"
theorem wvL_len (v : List Nat) : (wvL v).length ≤ 2 * v.length + 2 := by
  have := escL_len v
  unfold wvL; split <;> simp <;> walk_at "o"
theorem sum_le {α : Type} (f : α → Nat) (b : Nat) : ∀ l : List α, (∀ x ∈ l, f x ≤ b) → (l.map f).sum ≤ b * l.length
  | [], _ => by simp
  | x :: r, h => by
    have := sum_le f b r fun y hy => h y (.tail _ hy)
    have := h x (.head _)
    simp only [List.map_cons, List.sum_cons, List.length_cons, Nat.mul_add, Nat.mul_one]; walk_at "o"
theorem pairL_len {p : KV} (h1 : p.1.length ≤ 10) (h2 : p.2.length ≤ 220) : (pairL p).length ≤ 460 := by
  have := wvL_len p.2
  unfold pairL; simp; walk_at "o"
theorem listL_len {ps : List KV} (hl : ps.length ≤ 20) (h : ∀ p ∈ ps, p.1.length ≤ 10 ∧ p.2.length ≤ 220) : (((ps.map pairL).map (·.length)).sum ≤ 9200) ∧ (listL ps).length ≤ 9240 := by
  have h1 : ((ps.map pairL).map (·.length)).sum ≤ 9200 := by
    rw [List.map_map]
    show (ps.map fun p => (pairL p).length).sum ≤ 9200
    have := sum_le (fun p => (pairL p).length) 460 ps fun p hp => pairL_len (h p hp).1 (h p hp).2
    walk_at "o"
  have h2 := joinL_len [59, 32] (ps.map pairL)
  refine ⟨h1, ?_⟩
  unfold listL
  simp only [List.length_map, List.length_cons, List.length_nil] at h2
  walk_at "o"
theorem take_snoc {α : Type} {l : List α} {j : Nat} {p : α} (h : l[j]? = some p) : l.take (j + 1) = l.take j ++ [p] := by
  rw [List.take_add_one, h]; rfl
theorem txs_snoc (qs : List (List Nat × Tok)) (x : List Nat) (t : Tok) : txs qs ++ [Value.str (T x) t] = txs (qs ++ [(x, t)]) := (txs_append qs [(x, t)]).symm
theorem jtk_fail {v : List Nat} (hb : bareV v = false) (hl : v.length ≤ 1000000) : Ends 3000000 (Sre.forMatch cJTK v.toArray 0 0 v.length true false) Failed := by
  cases v with
  | nil => exact Ends.mono jtk_empty (by decide)
  | cons x y =>
    rcases split_first (fun c => !tokB c) (x :: y) with hno | ⟨p, c, r, e, hp, hc⟩
    · exfalso
      have : (x :: y).all tokB = true := List.all_eq_true.mpr fun c hc => by simpa using hno c hc
      unfold bareV at hb
      rw [this] at hb; simp at hb
    · rw [e] at hl ⊢
      exact jtk_none (fun x hx => by simpa using hp x hx) (by simpa using hc) hl
inductive JhO (g : Gr) (P HD : Addr) (ls : List (List KV)) (i : Nat) (g' : Gr) : List (Option Value) → List (Addr × Obj) → Prop
  | mk (h : Sub g g') (v2 v3 v4 v5 : Option Value) (hs : List (List Nat × Tok)) (n2 : Nat) (e : hs.map (·.1) = (ls.take i).map listL) : JhO g P HD ls i g' [some (.ref P), some (.ref HD), v2, v3, v4, v5] [(HD, lst (txs hs) n2)]
theorem JhO.sub {g g' : Gr} {P HD : Addr} {ls : List (List KV)} {i : Nat} {vals : List (Option Value)} {mu : List (Addr × Obj)} : JhO g P HD ls i g' vals mu → Sub g g' := fun x => by cases x; assumption
inductive JhN (g' : Gr) (P HD pa AT I : Addr) (o : Obj) (hs : List (List Nat × Tok)) (n2 : Nat) (ps : List KV) (j : Nat) (g2 : Gr) : List (Option Value) → List (Addr × Obj) → Prop
  | mk (h : Sub g' g2) (w4 w5 : Option Value) (qs : List (List Nat × Tok)) (n3 : Nat) (e : qs.map (·.1) = (ps.take j).map pairL) : JhN g' P HD pa AT I o hs n2 ps j g2 [some (.ref P), some (.ref HD), some (.ref pa), some (.ref AT), w4, w5] [(AT, lst (txs qs) n3), (I, o), (HD, lst (txs hs) n2)]
theorem JhN.sub {g' g2 : Gr} {P HD pa AT I : Addr} {o : Obj} {hs : List (List Nat × Tok)} {n2 : Nat} {ps : List KV} {j : Nat} {vals : List (Option Value)} {mu : List (Addr × Obj)} : JhN g' P HD pa AT I o hs n2 ps j g2 vals mu → Sub g' g2 := fun x => by cases x; assumption
set_option maxHeartbeats 8000000 in
theorem w_join_hw {t13 : Tb} (hA : Rm 3 A) (R : Rdy W g s) (G : Gl W f) (B : Lb W) (ht : t13 ∈ W.tabs) (hcd : t13.codes = cod13) (hF : FnC W (f 13) t13 (stm 13)) (hPT : PatAt W (f 11) cJTK 0) (hPE : PatAt W (f 12) cJES 1)
    {P : Addr} {vs : List Value} {n : Nat} {ls : List (List KV)} (hP : g P = some (lst vs n)) (hls : All2 (ListAt g) vs ls) (hk : ∀ ps ∈ ls, ps ≠ [] ∧ ps.length ≤ 20 ∧ ∀ p ∈ ps, p.1.length ≤ 10 ∧ p.2.length ≤ 220) (hll : ls.length ≤ 10)
    (k : ∀ v g' s', Fin' W g s g' s' → (∃ t, v = .str (T (headL ls)) t) → Q v s') :
    wpAny (model PP W.w) A (call (.ref (f 13)) [.ref P]) Q NoE s := by
  obtain ⟨o, doc, pm, an, ct, ho, hd', hc⟩ := hF
  refine enterP ["lists"] ["headers", "pairs", "attr", "k", "v"] nmsH [some (.ref P), none, none, none, none, none] rfl rfl
    (Post := fun g' v => ∃ t, v = .str (T (headL ls)) t) hA R ho hd' hc rfl rfl (by decide) (by decide) (by decide) ?_ k
  intro φ L s₁ S
  walk_at "go"
  rename_i HD _ _ _ _ S
  refine it_list S (S.gh _ _ hP) rfl ?_
  intro I o s₂ hI S
  refine for_loop (JhO g P HD ls) (Nx.of_g (hA.deeper _).1 _) (fun i g' vals mu h => ⟨_, h.sub _ _ hP⟩) hI S ⟨.refl _, _, _, _, _, [], _, rfl⟩ (fun _ => rfl) ?_ ?_
  · rintro i g' vals mu v s o hi ⟨hg', v2, v3, v4, v5, hs, n2, hhs⟩ hv S
    obtain ⟨ps, hps, pa, pvs, pn, rfl, hpa, hpv⟩ := hls.get i v hv
    replace hpa := hg' _ _ hpa
    replace hpv := hpv.mono fun _ _ => PairAt.mono hg'
    have hil : i < ls.length := (List.getElem?_eq_some_iff.mp hps).1
    obtain ⟨hpne, hpl, hpk⟩ := hk ps (List.mem_of_getElem? hps)
    have hhl : hs.length = i := by have := congrArg List.length hhs; simp at this; walk_at "o"
    walk_at "go"
    rename_i AT _ _ _ _ S
    refine it_list S (S.gh _ _ hpa) rfl ?_
    intro I2 o2 s₂ hI2 S
    refine for_loopT (JhN g' P HD pa AT I o hs n2 ps) (Nx.of_g (hA.deeper _).1 _) (fun i g2 vals mu h => ⟨_, h.sub _ _ hpa⟩) hI2 S ⟨.refl _, _, _, [], _, rfl⟩ (fun j v hv => by obtain ⟨p, hp, ta, tk, tv, rfl, hta⟩ := hpv.get j v hv; exact ⟨_, rfl⟩) ?_ ?_
    · rintro j g2 vals mu v s o2 hj ⟨hg2, w4, w5, qs, n3, hqs⟩ hv S
      obtain ⟨p, hp, ta, tk, tv, rfl, hta⟩ := hpv.get j v hv
      replace hta := hg2 _ _ hta
      obtain ⟨hk10, hv140⟩ := hpk p (List.mem_of_getElem? hp)
      walk_at "go"
      refine wpAny_isNot_other rfl (by simp) ?_
      walk_at "go"
      refine gm_pat hPT (by assumption) sl_full ty_full ?_
      walk_at "go"
      rename_i S
      have hwl := wvL_len p.2
      have hql : qs.length ≤ 20 := by have := congrArg List.length hqs; simp at this; walk_at "o"
      cases hb : bareV p.2 with
      | true =>
        have hb2 := hb
        unfold bareV at hb2
        simp only [Bool.and_eq_true, Bool.not_eq_true', List.all_eq_true] at hb2
        have ewv : wvL p.2 = p.2 := by unfold wvL; rw [hb]; rfl
        refine c_full1 S hPT (by walk_at "o") (jtk_match (fun e => by rw [e] at hb2; exact absurd hb2.1 (by decide)) hb2.2 (by walk_at "o")) (by decide) fun v g3 s' hg3 hM S => ?_
        walk_at "go"
        refine tr_match (by assumption) hM ?_
        walk_at "go"
        refine js3 (x := p.1) (y := p.2) (c := [61]) (by assumption) (by walk_at "o") (by walk_at "o") (by decide +kernel) (by simp) (fun s' Q S hQ => by walk_at "1"; exact hQ) (fun s' Q S hQ => by walk_at "1"; exact hQ) fun t1 s1 S => ?_
        have ep : p.1 ++ [61] ++ p.2 = pairL p := by unfold pairL; rw [ewv]; simp
        rw [ep]
        walk_at "go"
        refine append1 (by assumption) (by simp only [txs, List.length_map]; walk_at "o") fun s' S => ?_
        walk_at "go"
        rw [txs_snoc] at S
        (repeat walk_at "kn"); exact ⟨_, _, [(AT, _), (I, o), (HD, _)], [], S, hg2.trans hg3, _, _, _, _, by rw [take_snoc hp, List.map_append, List.map_append, hqs]; rfl⟩
      | false =>
        have ewv : wvL p.2 = [34] ++ escL p.2 ++ [34] := by unfold wvL; rw [hb]; rfl
        refine c_full0 S hPT (by walk_at "o") (jtk_fail hb (by walk_at "o")) (by decide) ?_
        walk_at "go"
        refine gm_pat hPE (by assumption) sl_sub ty_sub ?_
        walk_at "go"
        refine ev_lam B ht (qual := "join_header_words.<locals>.<lambda>") (by rw [hcd]; exact .head _) (by show (Str.ofString "join_header_words" ++ Str.ofString ".<locals>.") ++ Str.ofString "<lambda>" = _; decide +kernel) (by assumption) rfl rfl rfl (by decide) fun lv g6 s' hg6 hLm S => ?_
        walk_at "go"
        refine sub_start S hPE hLm fun SD s' S => ?_
        refine sub_jes (l := p.2) hPE (by walk_at "o") p.2.length p.2 [] 0 0 false g6 s' [] (Nat.le_refl _) rfl rfl S ?_ (by simp; walk_at "o") (by simp) fun t' g7 s' hg7 S => ?_
        · intro v g' st hd b e mu' s' hs hM hbe hel S
          refine call_lam (n := 0) (nm := "_m") (new := []) (mu0 := mu') (Rm.le (Rm.in1 (hA.deeper _)) (by walk_at "o")) S (hLm.mono hs) (fun _ _ _ => rfl) (by decide +kernel) rfl rfl rfl (by decide) ?_
          intro φ' L' s₁ a c env henv S'
          subst henv
          walk_at "go"
          refine BoolOp_or ?_
          walk_at "go"
          refine gm_mat hM (by assumption) sl_group ty_group ?_
          walk_at "go"
          refine c_group1 (by assumption) hM hbe hel (by walk_at "o") fun t3 s3 S3 => ?_
          walk_at "go"
          cases hx : ((p.2.drop b).take (e - b)).isEmpty
          · rw [if_pos (show (!false) = true from rfl)]
            walk_at "go"
            exact ⟨_, _, by assumption, fun s' hsub S => ⟨_, _, rfl, hsub, S⟩⟩
          · rw [if_neg (show ¬ (!true) = true by decide)]
            refine BoolOp_one ?_
            walk_at "go"
            have hx0 := List.isEmpty_iff.mp hx
            rw [hx0]
            exact ⟨_, _, by assumption, fun s' hsub S => ⟨_, _, rfl, hsub, S⟩⟩
        · simp only [List.map_nil, List.flatten_nil, List.nil_append]
          show wpAny _ _ _ _ _ _
          have hel := escL_len p.2
          walk_at "go"
          refine s_pct1 (by assumption) (by walk_at "o") fun tk8 s' S => ?_
          walk_at "go"
          refine js3 (x := p.1) (y := [34] ++ escL p.2 ++ [34]) (c := [61]) (by assumption) (by walk_at "o") (by simp; walk_at "o") (by decide +kernel) (by simp) (fun s' Q S hQ => by walk_at "1"; exact hQ) (fun s' Q S hQ => by walk_at "1"; exact hQ) fun t1 s1 S => ?_
          have ep : p.1 ++ [61] ++ ([34] ++ escL p.2 ++ [34]) = pairL p := by unfold pairL; rw [ewv]; simp
          rw [ep]
          walk_at "go"
          refine append1 (by assumption) (by simp only [txs, List.length_map]; walk_at "o") fun s' S => ?_
          walk_at "go"
          rw [txs_snoc] at S
          (repeat walk_at "kn"); exact ⟨_, _, [(AT, _), (I, o), (HD, _)], [], S, hg2.trans (hg6.trans hg7), _, _, _, _, by rw [take_snoc hp, List.map_append, List.map_append, hqs]; rfl⟩
    · rintro g2 vals mu s ⟨hg2, w4, w5, qs, n3, hqs⟩ S
      have hqs' : qs.map (·.1) = ps.map pairL := by rw [hqs, List.take_of_length_le (by rw [hpv.len]; exact Nat.le_refl _)]
      have hql : qs.length = ps.length := by have := congrArg List.length hqs'; simpa using this
      obtain ⟨hs1, hs2⟩ := listL_len (by walk_at "o") hpk
      walk_at "go"
      refine l_tr S (by walk_at "hp") rfl (by simp [txs]; walk_at "o") fun s' S => ?_
      have hne : (!(txs qs).isEmpty) = true := by
        cases qs with
        | nil => simp at hql; exact absurd (List.length_eq_zero_iff.mp hql.symm) hpne
        | cons _ _ => rfl
      walk_at "go"
      refine s_join (ps := qs) (by assumption) (by walk_at "hp") rfl (by rw [hqs']; simp only [List.length_cons, List.length_nil]; walk_at "o") ?_
      intro tj s' S
      rw [hqs']
      walk_at "go"
      have eL : joinL [59, 32] (ps.map pairL) = listL ps := rfl
      refine append2 (by assumption) (by simp only [txs, List.length_map]; walk_at "o") fun s' S => ?_
      walk_at "go"
      rw [txs_snoc] at S
      (repeat walk_at "kn"); exact ⟨_, _, [(HD, _)], [_], S, hg'.trans hg2, _, _, _, _, _, _, by rw [take_snoc hps, List.map_append, List.map_append, hhs]; rfl⟩
  · rintro g' vals mu s ⟨hg', v2, v3, v4, v5, hs, n2, hhs⟩ S
    have hhs' : hs.map (·.1) = ls.map listL := by rw [hhs, List.take_of_length_le (by rw [hls.len]; exact Nat.le_refl _)]
    have hhl : hs.length = ls.length := by have := congrArg List.length hhs'; simpa using this
    have hsum : ((ls.map listL).map (·.length)).sum ≤ 9240 * ls.length := by
      rw [List.map_map]
      show (ls.map fun p => (listL p).length).sum ≤ _
      exact sum_le (fun p => (listL p).length) 9240 ls fun p hp => (listL_len (hk p hp).2.1 (hk p hp).2.2).2
    walk_at "go"
    refine s_join (ps := hs) (by assumption) (by walk_at "hp") rfl (by rw [hhs']; simp only [List.length_cons, List.length_nil]; walk_at "o") ?_
    intro tj s' S
    rw [hhs']
    (repeat walk_at "kn"); exact ⟨_, _, _, S, _, rfl⟩
end
end
section
open PySem PySem.Calls PyProof.Rows PySem.Spec PySem.W PySem.Builtin.Str
section
variable {W : Wd} {f : Nat → Addr} {g : Gr} {s : Shared} {A : Around} {Q : Value → Shared → Prop}
set_option linter.unusedVariables false
noncomputable def poolL : List Nat := [97, 98, 46, 46, 46, 47, 47, 47, 47, 42, 63, 91, 93, 34, 92, 61, 59, 44, 32, 45, 94, 33, 124, 233]
noncomputable def alph : List Nat := poolL ++ [99, 100, 120, 121]
noncomputable abbrev nmsP : List Str := ["script", "pool", "paths", "place", "x"]
noncomputable def Gd (i : Nat) (q : List (List Nat × Tok)) : Prop := q.length ≤ i + 1 ∧ ((q.map (·.1)).map (·.length)).sum ≤ 7 + i ∧ ∀ p ∈ q, ∀ c ∈ p.1, c ∈ alph
theorem Gd.up {i : Nat} {q : List (List Nat × Tok)} (h : Gd i q) : Gd (i + 1) q := ⟨by have := h.1; walk_at "o", by have := h.2.1; walk_at "o", h.2.2⟩
theorem Gd.snoc {i : Nat} {q : List (List Nat × Tok)} (h : Gd i q) {c : Nat} (hc : c ∈ poolL) (t : Tok) : Gd (i + 1) (q ++ [([c], t)]) := by
  refine ⟨by have := h.1; simp; walk_at "o", by have := h.2.1; simp at this ⊢; walk_at "o", fun p hp x hx => ?_⟩
  rcases List.mem_append.mp hp with hp | hp
  · exact h.2.2 p hp x hx
  · rw [List.mem_singleton.mp hp] at hx
    rw [List.mem_singleton.mp hx]; exact List.mem_append_left _ hc
theorem i_mod {φ g0 : Gr} {names : List Str} {L : Addr} {vals : List (Option Value)} {mu : List (Addr × Obj)} {E : Value → Shared → Prop} {a b : Int} {t u : Tok} (S : St W φ g0 names g L vals mu s) (hb : b ≠ 0) (h : ∀ k s', St W φ g0 names g L vals mu s' → Q (.int (a.fmod b) k) s') :
    wpAny (model PP W.w) A (binaryOp .Mod (.int a t) (.int b u)) Q E s := mod_int hb (h _ _ (S.tk _))
theorem i_pow {φ g0 : Gr} {names : List Str} {L : Addr} {vals : List (Option Value)} {mu : List (Addr × Obj)} {E : Value → Shared → Prop} {t u : Tok} (S : St W φ g0 names g L vals mu s) (h : ∀ k s', St W φ g0 names g L vals mu s' → Q (.int 1000000 k) s') :
    wpAny (model PP W.w) A (binaryOp .Pow (.int 10 t) (.int 6 u)) Q E s :=
  AutoIntOps.pow_4 (by decide) (by decide) (by decide) (by decide) (by decide) (h _ _ (S.tk _))
theorem Gd.start {l : List Nat} {t : Tok} (h : l.length ≤ 7) (hc : ∀ c ∈ l, c ∈ alph) : Gd 0 [(l, t)] :=
  ⟨by simp, by simp; walk_at "o", fun p hp => by rw [List.mem_singleton.mp hp]; exact hc⟩
noncomputable def PthPost (W : Wd) (φ g : Gr) (L : Addr) (v : Value) (s : Shared) : Prop := ∃ g' vals' mu', St W φ g nmsP g' L vals' mu' s ∧ ∃ a ps n, v = .ref a ∧ g' a = some (lst (txs ps) n) ∧ ps.length = 5 ∧ ∀ p ∈ ps, p.1.length ≤ 70 ∧ ∀ c ∈ p.1, c ∈ alph
theorem pth_start {t0 t1 t2 t3 t4 : Tok} {n0 n1 n2 n3 n4 : Nat} {d0 d1 d2 d3 d4 : Addr} : ∀ t ∈ [(d4, [(([] : List Nat), t4)], n4), (d3, [([100, 47, 47, 120, 46, 121, 46], t3)], n3), (d2, [([100, 47, 97, 46, 98], t2)], n2), (d1, [([47, 99], t1)], n1), (d0, [([97, 46, 98], t0)], n0)], Gd 0 t.2.1 := by
  have key : ∀ l ∈ [[], [100, 47, 47, 120, 46, 121, 46], [100, 47, 97, 46, 98], [47, 99], [97, 46, 98]], l.length ≤ 7 ∧ ∀ c ∈ l, c ∈ alph := by decide
  intro t ht
  have : ∃ l ∈ [[], [100, 47, 47, 120, 46, 121, 46], [100, 47, 97, 46, 98], [47, 99], [97, 46, 98]], ∃ u, t.2.1 = [(l, u)] := by
    simp only [List.mem_cons, List.not_mem_nil, or_false] at ht
    rcases ht with rfl | rfl | rfl | rfl | rfl <;> exact ⟨_, by decide, _, rfl⟩
  obtain ⟨l, hl, u, e⟩ := this
  rw [e]
  exact .start (key l hl).1 (key l hl).2
noncomputable abbrev Lg := Addr × List (List Nat × Tok) × Nat
noncomputable def led (t : Lg) : Addr × Obj := (t.1, lst (txs t.2.1) t.2.2)
inductive JPth (P OUT : Addr) (as : List Addr) (g2 : Gr) (i : Nat) (g' : Gr) (vals : List (Option Value)) (mu : List (Addr × Obj)) : Prop
  | mk (h : Sub g2 g') (v1 : Tok) (v3 v4 : Option Value) (ds : List Lg) (hv : vals = [some (.ref P), some (.str (T poolL) v1), some (.ref OUT), v3, v4]) (hm : mu = ds.map led) (ha : ds.map (·.1) = as) (hd : ∀ t ∈ ds, Gd i t.2.1)
theorem pth_pick {ds : List Lg} {as : List Addr} (ha : ds.map (·.1) = as) {k : Nat} (hk : k < as.length) : ∃ D q n pre post, ds = pre ++ (D, q, n) :: post ∧ (as.reverse.map Value.ref)[k]? = some (.ref D) := by
  have h : as.reverse[k]'(by simpa using hk) ∈ ds.map (·.1) := by rw [ha]; exact List.mem_reverse.mp (List.getElem_mem _)
  obtain ⟨⟨D, q, n⟩, ht, e⟩ := List.mem_map.mp h
  obtain ⟨pre, post, rfl⟩ := List.append_of_mem ht
  exact ⟨D, q, n, pre, post, rfl, by rw [List.getElem?_map, List.getElem?_eq_getElem (by simpa using hk), ← e]; rfl⟩
theorem pth_next {pre post : List Lg} {D : Addr} {q : List (List Nat × Tok)} {n i c : Nat} (h : ∀ t ∈ pre ++ (D, q, n) :: post, Gd i t.2.1) (hc : c ∈ poolL) (tc : Tok) : ∀ t ∈ pre ++ (D, q ++ [([c], tc)], n + 1) :: post, Gd (i + 1) t.2.1 := by
  intro t ht
  rcases List.mem_append.mp ht with ht | ht
  · exact (h t (List.mem_append_left _ ht)).up
  · rcases List.mem_cons.mp ht with rfl | ht
    · exact (h (D, q, n) (List.mem_append_right _ (.head _))).snoc hc tc
    · exact (h t (List.mem_append_right _ (.tail _ ht))).up
theorem pth_sign (x : Int) : ∃ c, poolL[((x.fmod 1000000).fmod 24).toNat]? = some c ∧ c ∈ poolL ∧ 0 ≤ (x.fmod 1000000).fmod 24 := by
  have h1 := Int.fmod_nonneg_of_pos (x.fmod 1000000) (b := 24) (by decide)
  have h2 := Int.fmod_lt_of_pos (x.fmod 1000000) (b := 24) (by decide)
  have h3 : ((x.fmod 1000000).fmod 24).toNat < poolL.length := by show _ < 24; walk_at "o"
  exact ⟨_, List.getElem?_eq_getElem h3, List.getElem_mem h3, h1⟩
theorem pth_five (i : Nat) : (i : Int).fmod 5 = ((i % 5 : Nat) : Int) := by rw [Int.fmod_eq_emod_of_nonneg _ (by decide)]; walk_at "o"
theorem pth_int {ns : List (Int × Tok)} {i : Nat} {v : Value} (hv : (ns.map fun x => Value.int x.1 x.2)[i]? = some v) : ∃ x tx, v = .int x tx := by
  rw [List.getElem?_map] at hv
  cases hq : ns[i]? with
  | none => rw [hq] at hv; cases hv
  | some y => rw [hq] at hv; cases hv; exact ⟨_, _, rfl⟩
theorem pth_outs {ds : List Lg} {as : List Addr} (ha : ds.map (·.1) = as) : as.reverse.map Value.ref = ds.reverse.map fun t => Value.ref t.1 := by subst ha; simp
theorem pth_stand {φ g0 : Gr} {names : List Str} {L I : Addr} {o : Obj} {vals : List (Option Value)} {ds : List Lg} (S : St W φ g0 names g L vals ((I, o) :: ds.map led) s) : ∀ t ∈ ds, s.heap.get? t.1 = some (lst (txs t.2.1) t.2.2) ∧ t.1 ≠ I ∧ (∀ u ∈ W.tabs, u.P ≠ t.1) := fun t ht => by
  have hm : led t ∈ (I, o) :: ds.map led := .tail _ (List.mem_map_of_mem ht)
  have nd := S.nd
  rw [List.map_cons, List.nodup_cons] at nd
  exact ⟨(S.mus _ hm).1, fun e => nd.1 (List.mem_map.mpr ⟨led t, List.mem_map_of_mem ht, e⟩), fun u hu e => (S.tabs u hu).2.2.2.2 _ hm e.symm⟩
set_option maxHeartbeats 8000000 in
theorem w_law_paths (hA : Rm 2 A) (R : Rdy W g s) (G : Gl W f) {P : Addr} {ns : List (Int × Tok)} {n : Nat} (hP : g P = some (lst (ns.map fun x => .int x.1 x.2) n)) (hl : ns.length ≤ 63)
    (k : ∀ v g' s', Fin' W g s g' s' → (∃ a ps n, v = .ref a ∧ g' a = some (lst (txs ps) n) ∧ ps.length = 5 ∧ ∀ p ∈ ps, p.1.length ≤ 70 ∧ ∀ c ∈ p.1, c ∈ alph) → Q v s') :
    wpAny (model PP W.w) A (call (.ref (f 42)) [.ref P]) Q NoE s := by
  obtain ⟨o, doc, pm, an, cd, ct, ho, hd', hc⟩ := G.fn 42 rfl
  refine enterP ["script"] ["pool", "paths", "place", "x"] nmsP [some (.ref P), none, none, none, none] rfl rfl
    (Post := fun g' v => ∃ a ps n, v = .ref a ∧ g' a = some (lst (txs ps) n) ∧ ps.length = 5 ∧ ∀ p ∈ ps, p.1.length ≤ 70 ∧ ∀ c ∈ p.1, c ∈ alph) hA R ho hd' hc rfl rfl (by decide) (by decide) (by decide) ?_ k
  intro φ L s₁ S
  walk_at "go"
  refine ev_str (l := [97, 46, 98]) (by decide +kernel) ?_
  walk_at "go"
  rename_i d0 _ _ S0
  refine ev_str (l := [47, 99]) (by decide +kernel) ?_
  walk_at "go"
  rename_i d1 _ _ S1
  refine ev_str (l := [100, 47, 97, 46, 98]) (by decide +kernel) ?_
  walk_at "go"
  rename_i d2 _ _ S2
  refine ev_str (l := [100, 47, 47, 120, 46, 121, 46]) (by decide +kernel) ?_
  walk_at "go"
  rename_i d3 _ _ _ _ _ _ d4 _ _ _ OUT _ _ _ _ _ _ _ S
  have hOn := (S.mus _ (.head _)).2.2.1
  have S := S.freeze
  have hs0 := gset_sub (o := lst [.ref d0, .ref d1, .ref d2, .ref d3, .ref d4] 0) hOn
  refine sl_upto S (S.gh _ _ (hs0 _ _ hP)) (by simp; walk_at "o") (by with_unfolding_all rfl) fun SL g2 s' hs2 hSL S => ?_
  rw [List.take_of_length_le (by simp; walk_at "o")] at hSL
  walk_at "go"
  refine new_enum (by assumption) (S.gh _ _ hSL) fun e I o s' hI S => ?_
  walk_at "go"
  refine wpAny_pyIter_enum (S.mus _ (.head _)).1 ?_
  refine for_enum (hA.deeper _).1 (JPth P OUT [d4, d3, d2, d1, d0] g2)
    (fun i g' vals mu h => let ⟨h, _, _, _, _, _, _, _, _⟩ := h; ⟨_, h _ _ hSL⟩) hI S ⟨.refl _, _, _, _, [(d4, [([], _)], _), (d3, [([100, 47, 47, 120, 46, 121, 46], _)], _), (d2, [([100, 47, 97, 46, 98], _)], _), (d1, [([47, 99], _)], _), (d0, [([97, 46, 98], _)], _)], rfl, rfl, rfl, pth_start⟩ ?_ ?_
  · rintro i g' vals mu tk v a s oe o hi ⟨hg', v1, v3, v4, ds, rfl, rfl, ha, hd⟩ hv ga S
    have hgs := gset_sub (o := tup [.int i tk, v]) ga
    have hta := gset_self g' a (o := tup [.int i tk, v])
    have hOUT := hgs _ _ (hg' _ _ (hs2 _ _ (gset_self _ _ _)))
    obtain ⟨x, tx, rfl⟩ := pth_int hv
    have hi63 : i < 63 := by rw [List.length_map] at hi; walk_at "o"
    obtain ⟨c, hc1, hc2, hc3⟩ := pth_sign x
    obtain ⟨D, q, n, pre, post, rfl, hk⟩ := pth_pick ha (Nat.mod_lt i (by decide : 0 < 5))
    rw [List.map_append] at S
    walk_at "go"
    refine i_mod (by assumption) (by decide) fun km s' S => ?_
    rw [pth_five]
    refine l_item (x := .ref D) (St.gh (by walk_at "S") _ _ hOUT) rfl (Int.natCast_nonneg _) (by walk_at "o") hk (by with_unfolding_all rfl) ?_
    walk_at "go"
    refine gm_append (S.mus (led (D, q, n)) (.tail _ (.tail _ (List.mem_append_right _ (.head _))))).1 rfl rfl ?_
    walk_at "go"
    refine i_pow (by assumption) fun kp s' S => ?_
    walk_at "go"
    refine i_mod (by assumption) (by decide) fun kp s' S => ?_
    walk_at "go"
    refine i_mod (by assumption) (by decide) fun kp s' S => ?_
    walk_at "go"
    refine s_itemz (by assumption) (by decide) hc3 hc1 (by with_unfolding_all rfl) fun tc s' S => ?_
    walk_at "go"
    refine append_pos (_ :: _ :: pre.map led) (by assumption) (by have : q.length ≤ i + 1 := (hd (D, q, n) (List.mem_append_right _ (.head _))).1; simp only [txs, List.length_map]; walk_at "o") fun s' S => ?_
    walk_at "go"
    rw [txs_snoc] at S
    exact ⟨_, _, (pre ++ (D, q ++ [([c], tc)], n + 1) :: post).map led, [], (by rw [List.map_append]; exact S), hg'.trans hgs, _, _, _, _, rfl, rfl, by rw [← ha, List.map_append, List.map_append]; rfl, pth_next hd hc2 tc⟩
  · rintro g' vals mu s ⟨hg', v1, v3, v4, ds, rfl, rfl, ha, hd⟩ S
    have hOUT := hg' _ _ (hs2 _ _ (gset_self _ _ _))
    have hnl : (ns.map fun x => Value.int x.1 x.2).length ≤ 63 := by rw [List.length_map]; exact hl
    repeat ((fail_if_success (with_reducible show wpAny _ _ (eval _ _) _ _ _)); walk_at "1")
    refine wpAny_mono (Q := PthPost W φ g L) ?_ (fun v s' h => by (repeat walk_at "kn"); exact let ⟨a, b, c, S, p⟩ := h; ⟨a, b, c, S, p⟩) fun _ _ x => x
    walk_at "go"
    refine it_list (by assumption) (S.gh _ _ hOUT) rfl ?_
    intro I o s₂ hI S
    have hdh := pth_stand S
    rw [show [Value.ref d0, .ref d1, .ref d2, .ref d3, .ref d4] = [d4, d3, d2, d1, d0].reverse.map Value.ref from rfl, pth_outs ha] at hOUT
    have hdl : ds.reverse.length = 5 := by rw [List.length_reverse, ← List.length_map (f := (·.1)), ha]; rfl
    replace hdh := fun t (ht : t ∈ ds.reverse) => hdh t (List.mem_reverse.mp ht)
    have hgd := fun t (ht : t ∈ ds.reverse) => hd t (List.mem_reverse.mp ht)
    clear hd ha
    generalize ds.reverse = dr at *
    refine comp_run (fun i g2 ys => g2 = g' ∧ ∃ ps, ys = txs ps ∧ ps.map (·.1) = (dr.take i).map fun t => (t.2.1.map (·.1)).flatten) (n := (dr.map fun t => Value.ref t.1).length) (P := fun i v => (dr.map fun t => Value.ref t.1)[i]? = some v) (C := fun g => ∃ n, g OUT = some (lst (dr.map fun t => Value.ref t.1) n)) S rfl (fun φ' _ => Nx.of_g (hA.deeper _).1 φ') (fun i g2 ys h => ⟨0, by rw [h.1]; exact hOUT⟩) hI ⟨rfl, [], rfl, rfl⟩ rfl rfl (by decide) (by simp [hdl]) (fun _ => rfl) ?_ ?_
    · rintro i g2 ys φ' L' v cenv s' mu' hi ⟨rfl, ps, rfl, hps⟩ hv hφ hgg rfl hyl S
      have hi' : i < dr.length := by simpa using hi
      have hv' : v = .ref (dr[i]).1 := by
        rw [List.getElem?_map, List.getElem?_eq_getElem hi'] at hv
        exact (Option.some.inj hv).symm
      subst hv'
      have hmem := List.getElem_mem hi'
      obtain ⟨b1, b2, b3⟩ := hdh _ hmem
      have hsum := hgd _ hmem
      have hd := hφ _ _ b2 b3 b1
      walk_at "1"
      refine wpAny_pure ⟨fun _ => ?_, fun h => by cases h⟩
      walk_at "go"
      refine s_join (sep := []) (by assumption) (St.fh (by assumption) _ _ hd) rfl (by have := hsum.2.1; simp only [List.length_nil, Nat.mul_zero]; walk_at "o") ?_
      intro tj s' S
      rw [joinL_nil]
      (repeat walk_at "kn"); exact ⟨_, [], _, .refl _, rfl, S, rfl, ps ++ [(_, tj)], (txs_snoc _ _ _), by rw [List.map_append, hps, List.take_succ_eq_append_getElem hi', List.map_append]; rfl⟩
    · rintro g2 ys D m s' hgg hyl ⟨rfl, ps, rfl, hps⟩ S
      walk_at "go"
      refine ⟨_, _, _, S.freeze, D, ps, m, rfl, gset_self _ _ _, ?_, ?_⟩
      · have := congrArg List.length hps; simpa [hdl] using this
      · intro p hp
        rw [List.take_of_length_le (by simp)] at hps
        have h1 : p.1 ∈ ps.map (·.1) := List.mem_map_of_mem hp
        rw [hps] at h1
        obtain ⟨t, ht, e⟩ := List.mem_map.mp h1
        have hg := hgd t ht
        rw [← e]
        refine ⟨by rw [List.length_flatten]; have h2 := hg.2.1; show ((t.2.1.map (·.1)).map (·.length)).sum ≤ 70; walk_at "o", fun c hc => ?_⟩
        obtain ⟨l, hl1, hl2⟩ := List.mem_flatten.mp hc
        obtain ⟨q, hq1, rfl⟩ := List.mem_map.mp hl1
        exact hg.2.2 q hq1 c hl2
end
end
section
open PySem PySem.Calls PyProof.Rows PySem.Spec PySem.W PySem.Builtin.Str
section
variable {W : Wd} {φ g0 g g' : Gr} {names : List Str} {L : Addr} {vals vals' : List (Option Value)} {mu : List (Addr × Obj)} {s s' : Shared} {A : Around} {E : Value → Shared → Prop}
noncomputable abbrev celO (v : Option Value) : Obj := { cls := .type "cell", data := .cell v }
theorem ev_compC {env : Env} {elt iter target : Expr} {ifs : List Expr} {rest : List Comprehension} {scope : Scope} {cl : List (Str × Addr)} {pos : Pos} {Q : Value → Shared → Prop} {M : Model}
    (hclos : closureFor scope env = pure cl) (hkind : scope.kind = .function) (hnames : ∀ x ∈ scope.names, x.2 = .local → scope.names.lookup x.1 = some .local) (hs : ∀ x, foldedSetIterable iter env x = pure x)
    (h : wpAny M A (eval iter env) (fun x s₁ => wpAny M A (pyIter x) (fun it s₂ => wpAny M A (newList []) (fun acc s₃ =>
      wpAny M A (newFunctionEnv scope env.globals cl [] env.qual none .none (some env)) (fun cenv s₄ =>
        codeAny M A (.compStart (.ListComp elt (⟨target, iter, ifs, 0⟩ :: rest) scope pos) 0 it acc { cenv with scope := relabel scope env }) (compPost M A E none Q acc cenv.locals) s₄) E s₃) E s₂) E s₁) E s) :
    wpAny M A (eval (.ListComp elt (⟨target, iter, ifs, 0⟩ :: rest) scope pos) env) Q E s := by
  rw [eval_ListComp]; exact wpAny_comprehension_free (use := none) rfl hs hclos hkind hnames h
theorem comp_runC {cl : List (Str × Addr)} {I : Addr} {IO : Nat → Obj → Prop} {n : Nat} {P : Nat → Value → Prop} {C : Gr → Prop} {x : Str} {px pos : Pos} {elt iter : Expr} {ifs : List Expr} {scope : Scope} {env : Env} {o : Obj} {Q : Value → Shared → Prop}
    (J : Nat → Gr → List Value → Prop)
    (S : St W φ g0 names g L vals ((I, o) :: mu) s) (hG : env.globals = mainGlobals)
    (N : ∀ φ', (∀ b o', b ≠ I → (∀ t ∈ W.tabs, t.P ≠ b) → s.heap.get? b = some o' → φ' b = some o') → Nx W A φ' I IO n P C) (hC : ∀ i g ys, J i g ys → C g) (hI : IO 0 o) (h0 : J 0 g [])
    (hkind : scope.kind = .function) (hx : scope.names.lookup x = some .local) (hcell : ∀ x ∈ scope.names, x.2 ≠ .cell) (hn : n ≤ 500)
    (ht : ∀ v, letOwnedTupleGo (.Name x px) (.ref I) v = pure ())
    (step : ∀ i g' ys φ' L' v cenv s' mu', i < n → J i g' ys → P i v → (∀ b o', b ≠ I → (∀ t ∈ W.tabs, t.P ≠ b) → s.heap.get? b = some o' → φ' b = some o') → Sub g g' →
      cenv = { newEnv scope L' mainGlobals cl env.qual none .none (some env) builtinsNs with scope := relabel scope env } → ys.length ≤ i →
      St W φ' g [x] g' L' [some v] mu' s' →
      ∀ K, HC K (Ck W φ' g x L' mu' J (i + 1)) → wpAny (model PP W.w) A (forIn ifs true fun c r => if r = true then do let ok ← isTrue c cenv (eval c cenv); pure (ForInStep.yield ok) else pure (ForInStep.yield r))
        (fun ok s₃ => (ok = true → wpAny (model PP W.w) A (eval elt cenv) (fun y s₄ => K (ys ++ [y]) s₄) NoE s₃) ∧
          (ok = false → K ys s₃)) NoE s')
    (fin : ∀ g' ys D m s', Sub g g' → ys.length ≤ n → J n g' ys → St W φ g0 names g' L vals ((D, lst ys m) :: mu) s' → Q (.ref D) s') :
    wpAny (model PP W.w) A (newList []) (fun acc s₃ =>
      wpAny (model PP W.w) A (newFunctionEnv scope env.globals cl [] env.qual none .none (some env)) (fun cenv s₄ =>
        codeAny (model PP W.w) A (.compStart (.ListComp elt [⟨.Name x px, iter, ifs, 0⟩] scope pos) 0 (.ref I) acc { cenv with scope := relabel scope env })
          (compPost (model PP W.w) A E none Q acc cenv.locals) s₄) E s₃) E s :=
  comp_core J (lookup_relabel_local hx) hkind S hG N hC hI h0 hkind hx hcell hn ht step fun s₁ D g' ys m vv s' cenv S₁ _ hg hys hJ hgI hgD S' =>
    ⟨_, S'.ns, fun h' hs => fin g' ys D m _ hg hys hJ (St.unsub (new := [(I, o), (D, lst [] 0)]) S₁ S' (List.sublist_cons_self ..) (new_gone hgI hgD) hs)⟩

variable {a : Addr}
theorem enterPC {n : Nat} {name : Str} {params : Arguments} {body : List Stmt} {scope : Scope} {o : Obj} {doc pm cd ct : Value} {an : Option Addr} {x : Value}
    {Post : Gr → Value → Prop} {Q : Value → Shared → Prop} (p : Str) (os : List Str) (y : Str)
    (hA : Rm (n + 1) A) (R : Rdy W g s) (ho : W.h0.get? a = some o) (hd : o.data = .func (fnOf name name params body scope .none .none doc pm an cd ct)) (hc : W.h0.CodeRec cd name)
    (hb : bindArgs (fnOf name name params body scope .none .none doc pm an cd ct) ⟨[x], []⟩ = pure [(p, x)]) (hp : scope.names.lookup p = some .local) (hcell : ∀ k, cellsFrom k scope.names [] = [(y, k)])
    (hco : scope.isCoroutine = false) (hgen : scope.isGenerator = false) (hk : scope.kind = .function)
    (h : ∀ φ L oc s₁, oc.data = .cell none → St W φ g (p :: os) g L (some x :: List.replicate os.length none) [(L + 1, oc)] s₁ → ∀ K, HD K (FQ W φ g (p :: os) L Post) → wpAny (model PP W.w) (A.deeper (envOfC name scope L a cd)) (execs body (envOfC name scope L a cd)) K NoE s₁)
    (k : ∀ v g' s', Fin' W g s g' s' → Post g' v → Q v s') : wpAny (model PP W.w) A (call (.ref a) [x]) Q NoE s := by
  have toH : ∀ b o, W.h0.get? b = some o → s.heap.get? b = some o := fun b o e => R.gh b o (R.stat b o e)
  have hlim : s.heap.NoLimit := R.base.nolimit.keeps toH
  refine wpAny_call (codeAny_call_cells hA.room (toH _ _ ho) hd hlim (hc.keeps toH) rfl hb rfl (fun z hz => by
    rw [List.mem_singleton.mp hz]; exact .inl hp) (fun s₁ X => ?_) hco hgen hk)
  obtain ⟨h₁, tk, rfl, hk1⟩ := X.done
  have hcl : (callEnvC (fnOf name name params body scope .none .none doc pm an cd ct) s.heap.objs.size a).cells = [(y, s.heap.objs.size + 1)] := hcell _
  obtain ⟨oc, hoc, hdc⟩ := X.cell y (s.heap.objs.size + 1) (by rw [hcl]; simp)
  have hkp : (callEnvC (fnOf name name params body scope .none .none doc pm an cd ct) s.heap.objs.size a).kindOf p = some .local := hp
  have hbc : bindC (callEnvC (fnOf name name params body scope .none .none doc pm an cd ct) s.heap.objs.size a).kindOf [(p, x)] (fun _ => none) y = none := by
    simp [bindC, hkp]
  rw [hbc] at hdc
  have hns : h₁.Ns s.heap.objs.size (look (p :: os) (some x :: List.replicate os.length none)) := by
    have e : look (p :: os) (some x :: List.replicate os.length none) = bindL (callEnvC (fnOf name name params body scope .none .none doc pm an cd ct) s.heap.objs.size a).kindOf [(p, x)] fun _ => none := by
      funext z
      simp only [bindL, hkp, if_true]
      show _ = if z = p then some x else none
      unfold look
      rw [idx_cons]
      by_cases q : z = p
      · subst q; simp
      · rw [if_neg q, if_neg q]
        cases hj : idx z os with
        | none => rfl
        | some j =>
          show (some x :: List.replicate os.length none).getD (j + 1) none = none
          rw [List.getD_cons_succ, List.getD_eq_getElem?_getD, List.getElem?_replicate]
          split <;> rfl
    rw [e]; exact X.toInCall.ns
  have S0 : St W (hidT W s.heap) g (p :: os) g s.heap.objs.size (some x :: List.replicate os.length none) [] { s with heap := h₁, toks := tk } := St.start R hns (by simp) hk1
  have big : ∀ {G : Gr}, (∀ b o, G b = some o → s.heap.get? b = some o) → G (s.heap.objs.size + 1) = none := fun {G} hG => by
    cases q : G (s.heap.objs.size + 1) with
    | none => rfl
    | some o' => exact absurd (Heap.lt_size (hG _ _ q)) (Nat.not_lt.mpr (Nat.le_succ _))
  have S1 := S0.take (a := s.heap.objs.size + 1) (o := oc) hoc ⟨big R.gh, big fun b o e => (hidT_some e).1, Nat.ne_of_gt (Nat.lt_succ_self _), (fun p hp => nomatch hp), fun t ht => by
    obtain ⟨⟨ps, hp', _⟩, _⟩ := R.tabs t ht
    exact Nat.ne_of_lt (Nat.lt_succ_of_lt (Heap.lt_size hp'))⟩
  refine NoE_to (wpAny_mono (h _ _ oc _ hdc S1 _ fun _ _ x => x) (fun f s' hf => ?_) fun _ _ x => x.elim)
  obtain ⟨g', vals', mu', S, hpost⟩ := hf
  exact k _ _ _ S.fin hpost
end
end
section
open PySem PySem.Calls PyProof.Rows PySem.Spec PySem.W PySem.Builtin.Str
section
variable {W : Wd} {φ g0 g g' : Gr} {names : List Str} {L : Addr} {vals vals' : List (Option Value)} {mu : List (Addr × Obj)} {s s' : Shared} {A : Around} {E : Value → Shared → Prop}
theorem l_extend (pre : List (Addr × Obj)) {post : List (Addr × Obj)} {D B : Addr} {vs ws : List Value} {n m : Nat} {Q : Value → Shared → Prop} (S : St W φ g0 names g L vals (pre ++ (D, lst vs n) :: post) s) (hB : s.heap.get? B = some (lst ws m))
    (hsz : vs.length + ws.length ≤ 1000) (h : ∀ n' s', St W φ g0 names g L vals (pre ++ (D, lst (vs ++ ws) n') :: post) s' → Q .none s') :
    wpAny (model PP W.w) A (call (.builtin "list.extend") [.ref D, .ref B]) Q E s := by
  have mem : (D, lst vs n) ∈ pre ++ (D, lst vs n) :: post := List.mem_append.mpr (.inr (.head _))
  have hD := (S.mus _ mem).1
  refine call_meets F.slot_list_extend ⟨_, hD, rfl⟩ F.entry_list_extend (F.args_list_extend_2 _ _) (AutoSeq1.list_extend_list_list_0 D vs.toArray n B ws.toArray m ?_ ?_ ?_) ?_
  · intro e
    simp only [Bool.and_eq_true, Builtin.List.listTooLong, decide_eq_true_eq, List.size_toArray, sizeLine_eq] at e
    walk_at "o"
  · rw [List.size_toArray, sizeLine_eq]; walk_at "o"
  · rw [List.size_toArray, List.size_toArray, sizeLine_eq]; walk_at "o"
  · refine ⟨hD, hB, ?_⟩
    have hm : ∃ n', Obj.mapSeq (fun x => x ++ ws.toArray) (lst vs n) = lst (vs ++ ws) n' := by
      refine ⟨if (vs.toArray ++ ws.toArray).size == vs.toArray.size then n else n + 1, ?_⟩
      simp only [Obj.mapSeq, List.append_toArray]
    obtain ⟨n', hm⟩ := hm
    have hu : (s.heap.update D (Obj.mapSeq fun x => x ++ ws.toArray)).get? D = some (lst (vs ++ ws) n') := by
      rw [Heap.get?_update_self _ hD (by rw [hm]; rfl), hm]
    exact h _ _ (S.turn (k := s.toks) (Heap.SameBut.update ..) hu)
theorem st_cell (pre : List (Addr × Obj)) {post : List (Addr × Obj)} {env : Env} {y : Str} {v : Value} {c : Addr} {oc : Obj} {v0 : Option Value} {Q : Unit → Shared → Prop} (S : St W φ g0 names g L vals (pre ++ (c, oc) :: post) s) (hd : oc.data = .cell v0)
    (hk : env.scope.kind = .function) (hl : env.kindOf y = some .cell) (hc : env.cells.lookup y = some c) (h : ∀ oc' s', oc'.data = .cell (some v) → St W φ g0 names g L vals (pre ++ (c, oc') :: post) s' → Q () s') :
    wpAny (model PP W.w) A (storeName env y v) Q E s := by
  have mem : (c, oc) ∈ pre ++ (c, oc) :: post := List.mem_append.mpr (.inr (.head _))
  refine wpAny_storeName_cell hk hl hc ⟨oc, (S.mus _ mem).1, hd⟩ fun h' hv hs => ?_
  obtain ⟨oc', ho', hd'⟩ := hv
  exact h oc' _ hd' (S.turn (k := s.toks) hs ho')
theorem ev_cell {env : Env} {y : Str} {pos : Pos} {v : Value} {c : Addr} {oc : Obj} {Q : Value → Shared → Prop} (ho : s.heap.get? c = some oc) (hd : oc.data = .cell (some v))
    (hk : env.scope.kind = .function) (hl : env.kindOf y = some .cell) (hc : env.cells.lookup y = some c) (hb : (y == ("__debug__" : Str)) = false) (h : Q v s) :
    wpAny (model PP W.w) A (eval (.Name y pos) env) Q E s := wpAny_Name (wpAny_loadName_cell hk hl hc ⟨oc, ho, hd⟩ h) hb
theorem St.freezeAll : ∀ (new : List (Addr × Obj)) {g : Gr}, St W φ g0 names g L vals (new ++ mu) s → ∃ g', Sub g g' ∧ St W φ g0 names g' L vals mu s ∧ ∀ p ∈ new, g' p.1 = some p.2
  | [], g, S => ⟨g, .refl _, S, by simp⟩
  | (a, o) :: r, g, S => by
    have hn := (S.mus _ (.head _)).2.2.1
    obtain ⟨g', hs, S', hp⟩ := St.freezeAll r S.freeze
    refine ⟨g', (gset_sub hn).trans hs, S', fun p hm => ?_⟩
    rcases List.mem_cons.mp hm with rfl | hm
    · exact hs _ _ (gset_self _ _ _)
    · exact hp p hm
theorem St.perm {mu' : List (Addr × Obj)} (S : St W φ g0 names g L vals mu s) (h : List.Perm mu' mu) : St W φ g0 names g L vals mu' s := by
  refine ⟨S.base, S.stat, S.g0g, S.gh, S.fh, S.ns, S.len, S.gL, S.fL, fun p hp => S.mus p (h.mem_iff.mp hp), (h.map _).nodup_iff.mpr S.nd, S.sep, fun t ht => ?_, S.os, S.gens⟩
  obtain ⟨x, y1, y2, y3, y4⟩ := S.tabs t ht
  exact ⟨x, y1, y2, y3, fun p hp => y4 p (h.mem_iff.mp hp)⟩
end
end
section
open PySem PySem.Calls PyProof.Rows PySem.Spec PySem.W PySem.Builtin.Str
section
variable {W : Wd} {φ g0 g g' : Gr} {names : List Str} {L : Addr} {vals vals' : List (Option Value)} {mu : List (Addr × Obj)} {s s' : Shared} {A : Around} {E : Value → Shared → Prop}
noncomputable def Nxt (Q : Flow → Shared → Prop) (s : Shared) : Prop := Q .next s
theorem ex_compU {env : Env} {elt iter target : Expr} {ifs : List Expr} {rest : List Comprehension} {scope : Scope} {cl : List (Str × Addr)} {pos py spos : Pos} {y : Str} {Q : Flow → Shared → Prop} {M : Model}
    (hsw : swapsWith (.ListComp elt (⟨target, iter, ifs, 0⟩ :: rest) scope pos) (some (.Name y py)) spos.line env = pure true)
    (hclos : closureFor scope env = pure cl) (hkind : scope.kind = .function) (hnames : ∀ x ∈ scope.names, x.2 = .local → scope.names.lookup x.1 = some .local) (hs : ∀ x, foldedSetIterable iter env x = pure x)
    (h : wpAny M A (eval iter env) (fun x s₁ => wpAny M A (pyIter x) (fun it s₂ => wpAny M A (newList []) (fun acc s₃ =>
      wpAny M A (newFunctionEnv scope env.globals cl [] env.qual none .none (some env)) (fun cenv s₄ =>
        codeAny M A (.compStart (.ListComp elt (⟨target, iter, ifs, 0⟩ :: rest) scope pos) 0 it acc { cenv with scope := relabel scope env }) (compPost M A E (some (assign (.Name y py) env)) (fun _ s' => Nxt Q s') acc cenv.locals) s₄) E s₃) E s₂) E s₁) E s) :
    wpAny M A (exec (.Assign [.Name y py] (.ListComp elt (⟨target, iter, ifs, 0⟩ :: rest) scope pos) spos) env) Q E s := by
  rw [exec_Assign_Name_used _ _ _ _ hsw]
  refine wpAny_bind (wpAny_standAt (wpAny_bind ?_))
  show wpAny _ A (do let _ ← comprehension (.ListComp elt (⟨target, iter, ifs, 0⟩ :: rest) scope pos) scope env _ (newList []) false (eval iter env) (some (assign (.Name y py) env))) _ _ s
  exact wpAny_bind (wpAny_mono (wpAny_comprehension_free (use := some (assign (.Name y py) env)) (Q := fun _ s' => Q .next s') rfl hs hclos hkind hnames h) (fun _ s' hq => wpAny_pure (wpAny_pure hq)) fun _ _ e => e)
theorem comp_runU {y : Str} {py : Pos} {iy : Nat} {QF : Flow → Shared → Prop} {cl : List (Str × Addr)} {I : Addr} {IO : Nat → Obj → Prop} {n : Nat} {P : Nat → Value → Prop} {C : Gr → Prop} {x : Str} {px pos : Pos} {elt iter : Expr} {ifs : List Expr} {scope : Scope} {env : Env} {o : Obj}
    (J : Nat → Gr → List Value → Prop)
    (S : St W φ g0 names g L vals ((I, o) :: mu) s) (hG : env.globals = mainGlobals) (hiy : idx y names = some iy) (hky : env.scope.kind = .function) (hly : env.kindOf y = some .local) (hLy : env.locals = L)
    (N : ∀ φ', (∀ b o', b ≠ I → (∀ t ∈ W.tabs, t.P ≠ b) → s.heap.get? b = some o' → φ' b = some o') → Nx W A φ' I IO n P C) (hC : ∀ i g ys, J i g ys → C g) (hI : IO 0 o) (h0 : J 0 g [])
    (hkind : scope.kind = .function) (hx : scope.names.lookup x = some .local) (hcell : ∀ x ∈ scope.names, x.2 ≠ .cell) (hn : n ≤ 500)
    (ht : ∀ v, letOwnedTupleGo (.Name x px) (.ref I) v = pure ())
    (step : ∀ i g' ys φ' L' v cenv s' mu', i < n → J i g' ys → P i v → (∀ b o', b ≠ I → (∀ t ∈ W.tabs, t.P ≠ b) → s.heap.get? b = some o' → φ' b = some o') → Sub g g' →
      cenv = { newEnv scope L' mainGlobals cl env.qual none .none (some env) builtinsNs with scope := relabel scope env } → ys.length ≤ i →
      St W φ' g [x] g' L' [some v] mu' s' →
      ∀ K, HC K (Ck W φ' g x L' mu' J (i + 1)) → wpAny (model PP W.w) A (forIn ifs true fun c r => if r = true then do let ok ← isTrue c cenv (eval c cenv); pure (ForInStep.yield ok) else pure (ForInStep.yield r))
        (fun ok s₃ => (ok = true → wpAny (model PP W.w) A (eval elt cenv) (fun y s₄ => K (ys ++ [y]) s₄) NoE s₃) ∧
          (ok = false → K ys s₃)) NoE s')
    (fin : ∀ g' ys D m s', Sub g g' → ys.length ≤ n → J n g' ys → St W φ g0 names g' L (vals.set iy (some (.ref D))) ((D, lst ys m) :: mu) s' → QF .next s') :
    wpAny (model PP W.w) A (newList []) (fun acc s₃ =>
      wpAny (model PP W.w) A (newFunctionEnv scope env.globals cl [] env.qual none .none (some env)) (fun cenv s₄ =>
        codeAny (model PP W.w) A (.compStart (.ListComp elt [⟨.Name x px, iter, ifs, 0⟩] scope pos) 0 (.ref I) acc { cenv with scope := relabel scope env })
          (compPost (model PP W.w) A E (some (assign (.Name y py) env)) (fun _ s' => Nxt QF s') acc cenv.locals) s₄) E s₃) E s := by
  refine comp_core J (lookup_relabel_local hx) hkind S hG N hC hI h0 hkind hx hcell hn ht step fun s₁ D g' ys m vv s' cenv S₁ hLe hgg hys hJ hgI hgD S' => ?_
  show wpAny (model PP W.w) A (assign (.Name y py) env (.ref D)) (fun _ s'' => ∃ m, s''.heap.Ns cenv.locals m ∧ ∀ h', Heap.SameBut cenv.locals s''.heap h' → QF .next { s'' with heap := h' }) E s'
  have F := S₁.far hLe
  have SO := St.unsub (new := [(I, o), (D, lst [] 0)]) S₁ S' (List.sublist_cons_self ..) (new_gone hgI hgD) (.refl ..)
  subst hLy
  refine wpAny_assign_Name (wpAny_storeName_local hly SO.ns (fun h3 hn3 hs3 => ?_) (by show (env.scope.kind == .class || (env.scope.kind == .module && env.locals != env.globals)) = false; rw [hky]; rfl))
  have S3 := SO.store (k := s'.toks + 1) (v := .ref D) hiy hn3 hs3 rfl
  refine ⟨_, S'.ns.sameBut hs3 F.2.2.1, fun h4 hs4 => fin g' ys D m _ hgg hys hJ ?_⟩
  refine S3.moved (wr := [cenv.locals]) (fun b o' hb e => hs4.extBut b o' (fun q => hb (by rw [q]; exact .head _)) e) (fun b hb => ?_) rfl S3.gens
  rw [List.mem_singleton.mp hb]
  refine ⟨S'.gL, F.2.1, F.2.2.1, fun p hp => ?_, F.2.2.2.2⟩
  rcases List.mem_cons.mp hp with rfl | hp
  · exact F.2.2.2.1 (D, lst [] 0) (.tail _ (.head _))
  · exact F.2.2.2.1 p (.tail _ (.tail _ hp))
end
end
section
open PySem PySem.Calls PyProof.Rows PySem.Spec PySem.W PySem.Builtin.Str
section
variable {W : Wd} {f : Nat → Addr} {g : Gr} {s : Shared} {A : Around} {Q : Value → Shared → Prop}
set_option linter.unusedVariables false
noncomputable abbrev Cut := List Nat × List Nat × List Nat
noncomputable abbrev Gp := List Nat × List KV
noncomputable def cutKV (c : Cut) : List KV := [([102], spellL c.2.1), ([109], [42] ++ spellL c.2.2)]
noncomputable def addC (gs : List Gp) (c : Cut) : List Gp := if gs.any (fun g => g.1 == c.1) then gs.map (fun g => if g.1 == c.1 then (g.1, g.2 ++ cutKV c) else g) else gs ++ [(c.1, cutKV c)]
noncomputable def gpL (g : Gp) : List KV := ([105, 110], g.1) :: g.2
noncomputable def lawLists (cuts : List Cut) : List (List KV) := (cuts.foldl addC []).map gpL
noncomputable def CutAt (g : Gr) (v : Value) (c : Cut) : Prop := ∃ a t1 t2 t3, v = .ref a ∧ g a = some (tup [.str (T c.1) t1, .str (T c.2.1) t2, .str (T c.2.2) t3])
noncomputable abbrev GE := Gp × Addr × List Value × Nat
noncomputable def GE.ent (e : GE) : Addr × Obj := (e.2.1, lst e.2.2.1 e.2.2.2)
theorem addC_names (gs : List Gp) (c : Cut) : (addC gs c).map (·.1) = if gs.any (fun g => g.1 == c.1) then gs.map (·.1) else gs.map (·.1) ++ [c.1] := by
  unfold addC
  split
  · rw [List.map_map]
    apply List.map_congr_left
    intro x _
    simp only [Function.comp_apply]; split <;> rfl
  · simp
theorem addC_nodup {gs : List Gp} (h : (gs.map (·.1)).Nodup) (c : Cut) : ((addC gs c).map (·.1)).Nodup := by
  rw [addC_names]
  split
  · exact h
  · rename_i hn
    rw [List.nodup_append]
    refine ⟨h, by simp, fun a ha b hb => ?_⟩
    rw [List.mem_singleton.mp hb]
    intro e
    apply hn
    obtain ⟨x, hx, e2⟩ := List.mem_map.mp ha
    exact List.any_eq_true.mpr ⟨x, hx, by simp [e2, e]⟩
theorem split_gp (fo : List Nat) : ∀ gs : List GE, (gs.map (·.1.1)).Nodup → (∀ e ∈ gs, e.1.1 ≠ fo) ∨ ∃ p e q, gs = p ++ e :: q ∧ e.1.1 = fo ∧ (∀ x ∈ p, x.1.1 ≠ fo) ∧ ∀ x ∈ q, x.1.1 ≠ fo
  | [], _ => .inl (by simp)
  | e :: r, h => by
    rw [List.map_cons, List.nodup_cons] at h
    by_cases q : e.1.1 = fo
    · refine .inr ⟨[], e, r, rfl, q, by simp, fun x hx e2 => h.1 ?_⟩
      rw [q, ← e2]; exact List.mem_map_of_mem hx
    · rcases split_gp fo r h.2 with h1 | ⟨p, e', r', rfl, h2, h3, h4⟩
      · exact .inl fun x hx => by rcases List.mem_cons.mp hx with rfl | hx; exact q; exact h1 x hx
      · exact .inr ⟨e :: p, e', r', rfl, h2, fun x hx => by rcases List.mem_cons.mp hx with rfl | hx; exact q; exact h3 x hx, h4⟩
noncomputable abbrev nmsL : List Str := ["cuts", "lists", "name", "ending", "here"]
noncomputable def AtLst (P : List Stmt → Scope → Prop) : Prop := onFn False (fun _ _ body scope => inFor (fun _ _ fb _ => match fb with | _ :: _ :: tail => P tail scope | _ => False) (body.getD 1 (.Pass default))) (stm 47)
set_option maxHeartbeats 8000000 in
theorem w_lst_tail {φ g : Gr} {L : Addr} {cd : Value} (hA : Rm 3 A) (G : Gl W f) : AtLst fun tail scope => ∀ {g' : Gr} {pre post : List (Addr × Obj)} {a D : Addr} {vs0 : List Value} {n0 m0 : Nat} {v0 v1 : Option Value} {nm en : List Nat} {tn te : Tok} {s : Shared},
    St W φ g nmsL g' L [v0, v1, some (.str (T nm) tn), some (.str (T en) te), some (.ref D)] (pre ++ (a, lst vs0 n0) :: post) s → (D, lst [.ref a] m0) ∈ pre → nm.length ≤ 100 → en.length ≤ 100 → vs0.length ≤ 900 →
    wpAny (model PP W.w) (A.deeper (envOfC "_law_lists" scope L (f 47) cd)) (execs tail (envOfC "_law_lists" scope L (f 47) cd)) (fun fl s' => fl = .next ∧ ∃ g2 x y n2 vals', Sub g' g2 ∧ PairAt g2 x ([102], spellL nm) ∧ PairAt g2 y ([109], [42] ++ spellL en) ∧
      (∃ v2 v3 v4, vals' = [v0, v1, v2, v3, v4]) ∧ St W φ g nmsL g2 L vals' (pre ++ (a, lst (vs0 ++ [x, y]) n2) :: post) s') NoE s := by
  intro g' pre post a D vs0 n0 m0 v0 v1 nm en tn te s S hD hnm hen hvl
  have hsn := spellL_len nm
  have hse := spellL_len en
  have memD : (D, lst [.ref a] m0) ∈ pre ++ (a, lst vs0 n0) :: post := List.mem_append_left _ hD
  have mema : ∀ o : Obj, (a, o) ∈ pre ++ (a, o) :: post := fun o => List.mem_append_right _ (.head _)
  walk_at "go"
  refine l_item (St.mus (by assumption) _ memD).1 rfl (by decide) (by decide) rfl (by with_unfolding_all rfl) ?_
  walk_at "go"
  refine gm_append (St.mus (by assumption) _ (mema _)).1 rfl rfl ?_
  walk_at "go"
  refine w_law_spelled (Rm.le (hA.deeper _) (by walk_at "o")) (St.rdy (by assumption)) G (by walk_at "o") fun v g2 s' F hv => ?_
  have S := St.back (by assumption) F
  obtain ⟨tv, rfl⟩ := hv
  walk_at "go"
  rename_i tf _ _ hsf htf S
  refine append_pos pre S (by walk_at "o") fun s' S => ?_
  have memD : (D, lst [.ref a] m0) ∈ pre ++ (a, lst (vs0 ++ [.ref tf]) (n0 + 1)) :: post := List.mem_append_left _ hD
  walk_at "go"
  refine l_item (St.mus (by assumption) _ memD).1 rfl (by decide) (by decide) rfl (by with_unfolding_all rfl) ?_
  walk_at "go"
  refine gm_append (St.mus (by assumption) _ (mema _)).1 rfl rfl ?_
  walk_at "go"
  refine w_law_spelled (Rm.le (hA.deeper _) (by walk_at "o")) (St.rdy (by assumption)) G (by walk_at "o") fun v g4 s' F4 hv => ?_
  have S := St.back (by assumption) F4
  obtain ⟨tv4, rfl⟩ := hv
  walk_at "go"
  rename_i tm _ _ hsm htm S
  refine append_pos pre S (by simp; walk_at "o") fun s' S => ?_
  walk_at "go"
  rw [List.append_assoc] at S
  exact ⟨rfl, _, .ref tf, .ref tm, _, _, F.sub.trans (hsf.trans (F4.sub.trans hsm)), ⟨tf, _, _, rfl, hsm _ _ (F4.sub _ _ htf)⟩, ⟨tm, _, _, rfl, htm⟩, ⟨_, _, _, rfl⟩, S⟩
end
end
section
open PySem PySem.Calls PyProof.Rows PySem.Spec PySem.W PySem.Builtin.Str
section
variable {W : Wd} {f : Nat → Addr} {g : Gr} {s : Shared} {A : Around} {Q : Value → Shared → Prop}
set_option linter.unusedVariables false
inductive JlO (g : Gr) (L P LS : Addr) (cuts : List Cut) (i : Nat) (g' : Gr) : List (Option Value) → List (Addr × Obj) → Prop
  | mk (h : Sub g g') (gs : List GE) (oc : Obj) (v1 v2 v3 : Option Value) (n2 : Nat) (v0 : Option Value) (hoc : oc.data = .cell v0) (hgs : gs.map (·.1) = (cuts.take i).foldl addC []) (hrd : ∀ e ∈ gs, All2 (PairAt g') e.2.2.1 (gpL e.1)) (hgl : gs.length ≤ i) (hel : ∀ e ∈ gs, e.2.2.1.length ≤ 2 * i + 1) :
    JlO g L P LS cuts i g' [some (.ref P), some (.ref LS), v1, v2, v3] ((L + 1, oc) :: (LS, lst (gs.map fun e => .ref e.2.1) n2) :: gs.reverse.map GE.ent)
theorem JlO.sub {g g' : Gr} {L P LS : Addr} {cuts : List Cut} {i : Nat} {vals : List (Option Value)} {mu : List (Addr × Obj)} : JlO g L P LS cuts i g' vals mu → Sub g g' := fun x => by cases x; assumption
set_option maxHeartbeats 8000000 in
theorem w_law_lists (hA : Rm 3 A) (R : Rdy W g s) (G : Gl W f) {P : Addr} {vs : List Value} {n : Nat} {cuts : List Cut} (hP : g P = some (lst vs n)) (hcs : All2 (CutAt g) vs cuts) (hcl : cuts.length ≤ 5) (hlen : ∀ c ∈ cuts, c.1.length ≤ 100 ∧ c.2.1.length ≤ 100 ∧ c.2.2.length ≤ 100)
    (k : ∀ v g' s', Fin' W g s g' s' → (∃ a vs n, v = .ref a ∧ g' a = some (lst vs n) ∧ All2 (ListAt g') vs (lawLists cuts)) → Q v s') :
    wpAny (model PP W.w) A (call (.ref (f 47)) [.ref P]) Q NoE s := by
  obtain ⟨o, doc, pm, an, cd, ct, ho, hd', hc⟩ := G.fn 47 rfl
  refine enterPC "cuts" ["lists", "name", "ending", "here"] "folder" (Post := fun g' v => ∃ a vs n, v = .ref a ∧ g' a = some (lst vs n) ∧ All2 (ListAt g') vs (lawLists cuts)) hA R ho hd' hc rfl rfl (fun _ => rfl) rfl rfl rfl ?_ k
  intro φ L oc s₁ hoc S
  have S : St W φ g nmsL g L [some (.ref P), none, none, none, none] [(L + 1, oc)] s₁ := S
  walk_at "go"
  rename_i LS _ _ _ _ S
  have S := S.swap
  refine it_list S (S.gh _ _ hP) rfl ?_
  intro I o s₂ hI S
  refine for_loopT (JlO g L P LS cuts)
    (Nx.of_g (hA.deeper _).1 _) (fun i g' vals mu h => ⟨_, h.sub _ _ hP⟩) hI S ⟨.refl _, [], oc, _, _, _, _, _, hoc, rfl, by simp, Nat.le_refl _, by simp⟩ (fun i v hv => by
      obtain ⟨c, hc, a, t1, t2, t3, rfl, _⟩ := hcs.get i v hv
      exact ⟨_, rfl⟩) ?_ ?_
  · rintro i g' vals mu v s o hi ⟨hg', gs, oc, v1, v2, v3, n2, v0, hoc, hgs, hrd, hgl, hel⟩ hv S
    obtain ⟨c, hci, ta, t1, t2, t3, rfl, hta⟩ := hcs.get i _ hv
    replace hta := hg' _ _ hta
    obtain ⟨hl1, hl2, hl3⟩ := hlen c (List.mem_of_getElem? hci)
    have hi5 : i < 5 := by have := (List.getElem?_eq_some_iff.mp hci).1; walk_at "o"
    have hnd : (gs.map (·.1.1)).Nodup := by
      have : ∀ cs : List Cut, ((cs.foldl addC []).map (·.1)).Nodup := fun cs => by
        have : ∀ (cs : List Cut) (a : List Gp), (a.map (·.1)).Nodup → ((cs.foldl addC a).map (·.1)).Nodup := by
          intro cs
          induction cs with
          | nil => intro a h; exact h
          | cons x r ih => intro a h; exact ih _ (addC_nodup h x)
        exact this cs [] (by simp)
      have := this (cuts.take i)
      rw [← hgs, List.map_map] at this
      exact this
    walk_at "go"
    refine st_cell [(I, o)] (by assumption) hoc rfl rfl rfl fun oc s' hoc S => ?_
    walk_at "go"
    refine ex_compU (cl := [("folder", L + 1)]) rfl rfl rfl (by decide) (fun _ => rfl) ?_
    walk_at "go"
    refine it_list (by assumption) (by walk_at "hp") rfl ?_
    intro I2 o2 s₂ hI2 S
    obtain ⟨LR, hLR⟩ : ∃ LR : List Value, LR = gs.map fun e => .ref e.2.1 := ⟨_, rfl⟩
    rw [← hLR] at S
    have S := (show St W φ g nmsL g' L _ ((I2, o2) :: (I, _) :: (L + 1, oc) :: (LS, lst LR n2) :: gs.reverse.map GE.ent) s₂ from S)
    refine comp_runU (fun i g2 ys => g2 = g' ∧ ys = ((gs.take i).filter fun e => e.1.1 == c.1).map fun e => Value.ref e.2.1) S rfl rfl rfl rfl rfl (Nx.of_mu (pre := [(I, _), (L + 1, _)]) (hA.deeper _).1 S) (fun _ _ _ _ => trivial) hI2 ⟨rfl, rfl⟩ rfl rfl (by decide) (by rw [hLR]; simp; walk_at "o") (fun _ => rfl) ?_ ?_
    · rintro i2 g2 ys φ' L' v cenv s' mu' hi2 ⟨rfl, rfl⟩ hv hφ hgg rfl hyl S'
      have hi' : i2 < gs.length := by rw [hLR] at hi2; simpa using hi2
      have hv' : v = .ref (gs[i2]).2.1 := by
        rw [hLR, List.getElem?_map, List.getElem?_eq_getElem hi'] at hv
        exact (Option.some.inj hv).symm
      subst hv'
      have hmem := List.getElem_mem hi'
      have hent : GE.ent (gs[i2]) ∈ (I2, o2) :: (I, o) :: (L + 1, oc) :: (LS, lst LR n2) :: gs.reverse.map GE.ent :=
        .tail _ (.tail _ (.tail _ (.tail _ (List.mem_map_of_mem (List.mem_reverse.mpr hmem)))))
      have nd := (List.nodup_cons.mp S.nd).1
      have hne1 : (gs[i2]).2.1 ≠ I2 := fun e => nd (by
        have : (GE.ent (gs[i2])).1 ∈ List.map (fun p : Addr × Obj => p.1) ((I, o) :: (L + 1, oc) :: (LS, lst LR n2) :: gs.reverse.map GE.ent) := List.mem_map_of_mem (.tail _ (.tail _ (.tail _ (List.mem_map_of_mem (List.mem_reverse.mpr hmem)))))
        rw [← e]; exact this)
      have hE : φ' (gs[i2]).2.1 = some (lst (gs[i2]).2.2.1 (gs[i2]).2.2.2) := hφ _ _ hne1 (fun u hu e => (S.tabs u hu).2.2.2.2 _ hent e.symm) (S.mus _ hent).1
      have hC := hφ (L + 1) oc (fun e => nd (by rw [← e]; exact .tail _ (.head _))) (fun u hu e => (S.tabs u hu).2.2.2.2 (L + 1, oc) (by simp) e.symm) (S.mus (L + 1, oc) (by simp)).1
      have hr := hrd _ hmem
      obtain ⟨v0', rest, hvs, t0, k1, k2, rfl, ht0⟩ : ∃ v0' rest, (gs[i2]).2.2.1 = v0' :: rest ∧ PairAt g2 v0' ([105, 110], (gs[i2]).1.1) := by
        generalize (gs[i2]).2.2.1 = W1 at hr
        unfold gpL at hr
        cases hr with
        | cons h _ => exact ⟨_, _, rfl, h⟩
      rw [hvs] at hE
      (walk_at "1"); refine wpAny_tests_one ?_
      walk_at "go"
      refine ev_cell (St.fh (by assumption) _ _ hC) hoc rfl rfl rfl rfl ?_
      walk_at "go"
      have hts : gs.take (i2 + 1) = gs.take i2 ++ [gs[i2]] := List.take_succ_eq_append_getElem hi'
      refine ⟨fun h => ?_, fun h => ?_⟩
      · walk_at "go"
        refine ⟨_, [], _, .refl _, rfl, by assumption, rfl, ?_⟩
        rw [hts, List.filter_append, List.map_append, List.filter_cons, if_pos h]; rfl
      · (repeat walk_at "kn"); refine ⟨_, [], _, .refl _, rfl, by assumption, rfl, ?_⟩
        rw [hts, List.filter_append, List.map_append, List.filter_cons, if_neg (by rw [h]; decide)]; simp
    · rintro g2 ys D m s' hgg hyl ⟨rfl, rfl⟩ S
      rw [List.take_of_length_le (by rw [hLR]; simp)] at S
      rcases split_gp c.1 gs hnd with hno | ⟨p, e, q, rfl, he, hp1, hq1⟩
      · have hnil : (gs.filter fun e => e.1.1 == c.1) = [] := List.filter_eq_nil_iff.mpr fun e he => by simpa using hno e he
        (walk_at "zS"); rw [hnil] at S
        (repeat walk_at "kn"); show wpAny _ _ _ _ _ _
        walk_at "go"
        refine e_nil (hA.deeper _) (by walk_at "hp") rfl (by walk_at "hp") rfl ?_
        walk_at "go"
        refine ev_cell (y := "folder") (St.mus (by assumption) (L + 1, oc) (by simp)).1 hoc rfl rfl rfl rfl ?_
        walk_at "go"
        refine gm_extend (St.mus (by assumption) (LS, lst LR n2) (by simp)).1 rfl rfl ?_
        walk_at "go"
        rename_i EE _ _ _ _ _ _ tI gI _ hsI htI _ AN _ _ _ HN _ _ _ _ S
        refine l_extend [(HN, _), (AN, _), (EE, _), (D, _), (I, o), (L + 1, oc)] S (St.mus S _ (.head _)).1 (by rw [hLR]; simp; walk_at "o") fun n' s' S => ?_
        dsimp only
        (repeat walk_at "kn")
        refine wpAny_execs_nil ?_
        (repeat walk_at "kn")
        refine wpAny_mono (w_lst_tail (f := f) hA G (pre := [(HN, _)]) S (.head _) (by walk_at "o") (by walk_at "o") (by simp)) (fun fl s' hq => ?_) fun _ _ x => x
        obtain ⟨rfl, g3, x, y, n3, vals', hs3, hx, hy, ⟨w2, w3, w4, rfl⟩, S⟩ := hq
        have S := St.dropPre (new := [(HN, _)]) S
        have S := S.perm (List.perm_middle (l₁ := [(EE, _), (D, _), (I, o), (L + 1, oc), (LS, _)])).symm.symm
        have hsx := hsI.trans hs3
        have hany : ((cuts.take i).foldl addC []).any (fun g => g.1 == c.1) = false := by
          rw [← hgs, List.any_map]
          exact List.any_eq_false.mpr fun e he => by simpa using hno e he
        have eA : (AN, lst ([Value.ref tI] ++ [x, y]) n3) :: gs.reverse.map GE.ent = (gs ++ [((c.1, cutKV c), AN, [Value.ref tI, x, y], n3)]).reverse.map GE.ent := by simp [GE.ent]
        have eB : LR ++ [Value.ref AN] = (gs ++ [((c.1, cutKV c), AN, [Value.ref tI, x, y], n3)]).map fun e => Value.ref e.2.1 := by rw [hLR]; simp
        rw [eA, eB] at S
        have hgs' : (gs ++ [((c.1, cutKV c), AN, [Value.ref tI, x, y], n3)]).map (·.1) = (cuts.take (i + 1)).foldl addC [] := by
          rw [take_snoc hci, List.foldl_append, List.foldl_cons, List.foldl_nil]
          unfold addC
          rw [if_neg (by unfold addC at hany; rw [hany]; decide)]
          unfold addC at hgs
          rw [← hgs]; simp
        have hrd' : ∀ e ∈ gs ++ [((c.1, cutKV c), AN, [Value.ref tI, x, y], n3)], All2 (PairAt g3) e.2.2.1 (gpL e.1) := by
          intro e he
          rcases List.mem_append.mp he with he | he
          · exact (hrd e he).mono fun _ _ => PairAt.mono hsx
          · rw [List.mem_singleton.mp he]
            exact .cons ⟨tI, _, _, rfl, hs3 _ _ htI⟩ (.cons hx (.cons hy .nil))
        (repeat walk_at "kn"); exact ⟨g3, _, _, [_, _], S, hg'.trans hsx, gs ++ [((c.1, cutKV c), AN, [Value.ref tI, x, y], n3)], oc, _, _, _, _, _, hoc, hgs', hrd', by simp; walk_at "o", fun e he => by
          rcases List.mem_append.mp he with he | he
          · have := hel e he; walk_at "o"
          · rw [List.mem_singleton.mp he]; simp; walk_at "o"⟩
      · have hone : ((p ++ e :: q).filter fun e => e.1.1 == c.1) = [e] := by
          rw [List.filter_append, List.filter_cons, if_pos (by simp [he]), List.filter_eq_nil_iff.mpr fun x hx => by simpa using hp1 x hx, List.filter_eq_nil_iff.mpr fun x hx => by simpa using hq1 x hx]; rfl
        (walk_at "zS"); rw [hone] at S
        have e5 : (p ++ e :: q).reverse.map GE.ent = q.reverse.map GE.ent ++ (e.2.1, lst e.2.2.1 e.2.2.2) :: p.reverse.map GE.ent := by simp [GE.ent]
        rw [e5] at S
        (repeat walk_at "kn"); show wpAny _ _ _ _ _ _
        repeat walk_at "1"
        refine e_nil (hA.deeper _) (by walk_at "hp") rfl (by walk_at "hp") rfl ?_
        repeat walk_at "1"
        refine tfF rfl ?_
        refine wpAny_execs_nil ?_
        (repeat walk_at "kn"); show wpAny _ _ _ _ _ _
        rename_i S
        have S := St.dropPre (new := [_]) S
        refine wpAny_mono (w_lst_tail (f := f) hA G (pre := (D, lst [.ref e.2.1] m) :: (I, o) :: (L + 1, oc) :: (LS, lst LR n2) :: q.reverse.map GE.ent) (post := p.reverse.map GE.ent) S (.head _) (by walk_at "o") (by walk_at "o") (by have := hel e (by simp); walk_at "o")) (fun fl s' hq => ?_) fun _ _ x => x
        obtain ⟨rfl, g3, x, y, n3, vals', hs3, hx, hy, ⟨w2, w3, w4, rfl⟩, S⟩ := hq
        have eA : q.reverse.map GE.ent ++ (e.2.1, lst (e.2.2.1 ++ [x, y]) n3) :: p.reverse.map GE.ent = (p ++ (((e.1.1, e.1.2 ++ cutKV c), e.2.1, e.2.2.1 ++ [x, y], n3) : GE) :: q).reverse.map GE.ent := by simp [GE.ent]
        have S := (show St W φ g nmsL g3 L _ ([_] ++ (I, o) :: (L + 1, oc) :: (LS, lst LR n2) :: (q.reverse.map GE.ent ++ (e.2.1, lst (e.2.2.1 ++ [x, y]) n3) :: p.reverse.map GE.ent)) s' from S)
        rw [eA] at S
        have eB : LR = (p ++ (((e.1.1, e.1.2 ++ cutKV c), e.2.1, e.2.2.1 ++ [x, y], n3) : GE) :: q).map fun e => Value.ref e.2.1 := by rw [hLR]; simp
        rw [eB] at S
        have hany : ((cuts.take i).foldl addC []).any (fun g => g.1 == c.1) = true := by
          rw [← hgs, List.any_map]
          exact List.any_eq_true.mpr ⟨e, by simp, by simp [he]⟩
        have hgs' : (p ++ (((e.1.1, e.1.2 ++ cutKV c), e.2.1, e.2.2.1 ++ [x, y], n3) : GE) :: q).map (·.1) = (cuts.take (i + 1)).foldl addC [] := by
          rw [take_snoc hci, List.foldl_append, List.foldl_cons, List.foldl_nil]
          generalize (cuts.take i).foldl addC [] = GG at hgs hany ⊢
          unfold addC
          rw [if_pos hany, ← hgs]
          have h1 : ∀ l : List GE, (∀ x ∈ l, x.1.1 ≠ c.1) → (l.map (·.1)).map (fun g => if g.1 == c.1 then (g.1, g.2 ++ cutKV c) else g) = l.map (·.1) := by
            intro l hl
            rw [List.map_map]
            apply List.map_congr_left
            intro x hx
            simp [hl x hx]
          rw [List.map_append, List.map_cons, List.map_append, List.map_cons, List.map_append, List.map_cons, h1 p hp1, h1 q hq1]
          simp [he]
        have hrd' : ∀ e' ∈ p ++ (((e.1.1, e.1.2 ++ cutKV c), e.2.1, e.2.2.1 ++ [x, y], n3) : GE) :: q, All2 (PairAt g3) e'.2.2.1 (gpL e'.1) := by
          intro e' he'
          rcases List.mem_append.mp he' with h | h
          · exact (hrd e' (by simp [h])).mono fun _ _ => PairAt.mono hs3
          · rcases List.mem_cons.mp h with rfl | h
            · exact ((hrd e (by simp)).mono fun _ _ => PairAt.mono hs3).app (.cons hx (.cons hy .nil))
            · exact (hrd e' (by simp [h])).mono fun _ _ => PairAt.mono hs3
        (repeat walk_at "kn"); exact ⟨g3, _, _, [_], S, hg'.trans hs3, p ++ (((e.1.1, e.1.2 ++ cutKV c), e.2.1, e.2.2.1 ++ [x, y], n3) : GE) :: q, oc, _, _, _, _, _, hoc, hgs', hrd', by simp at hgl ⊢; walk_at "o", fun e' he' => by
          rcases List.mem_append.mp he' with h | h
          · have := hel e' (by simp [h]); walk_at "o"
          · rcases List.mem_cons.mp h with rfl | h
            · have := hel e (by simp); simp; walk_at "o"
            · have := hel e' (by simp [h]); walk_at "o"⟩
  · rintro g' vals mu s ⟨hg', gs, oc, v1, v2, v3, n2, v0, hoc, hgs, hrd, hgl, hel⟩ S
    walk_at "go"
    have S := St.dropPre (new := [_]) S
    have S := (show St W φ g nmsL g' L _ (((LS, _) :: gs.reverse.map GE.ent) ++ []) s from by rw [List.append_nil]; exact S)
    obtain ⟨g9, hs9, S9, hp9⟩ := St.freezeAll _ S
    refine ⟨g9, _, _, S9, LS, _, _, rfl, hp9 _ (.head _), ?_⟩
    have hcn : vs.length = cuts.length := hcs.len
    have e1 : lawLists cuts = gs.map fun e => gpL e.1 := by
      unfold lawLists
      rw [List.take_of_length_le (by walk_at "o")] at hgs
      rw [← hgs, List.map_map]; rfl
    rw [e1]
    have h1 : ∀ l : List GE, (∀ e ∈ l, e ∈ gs) → All2 (ListAt g9) (l.map fun e => Value.ref e.2.1) (l.map fun e => gpL e.1) := by
      intro l
      induction l with
      | nil => intro _; exact .nil
      | cons e r ih =>
        intro hl
        have he := hl e (.head _)
        exact .cons ⟨e.2.1, e.2.2.1, e.2.2.2, rfl, hp9 (GE.ent e) (.tail _ (List.mem_map_of_mem (List.mem_reverse.mpr he))), (hrd e he).mono fun _ _ => PairAt.mono hs9⟩ (ih fun x hx => hl x (.tail _ hx))
    exact h1 gs fun e he => he
end
end
section
open PySem PySem.Calls PyProof.Rows PySem.Spec PySem.W PySem.Builtin.Str
section
variable {W : Wd} {f : Nat → Addr} {g : Gr} {s : Shared} {A : Around} {Q : Value → Shared → Prop}
set_option linter.unusedVariables false
noncomputable def upL : List Nat := [65, 66, 67, 68, 69, 70, 71, 72, 73, 74, 75, 76, 77, 78, 79, 80, 81, 82, 83, 84, 85, 86, 87, 88, 89, 90]
noncomputable def loL : List Nat := [97, 98, 99, 100, 101, 102, 103, 104, 105, 106, 107, 108, 109, 110, 111, 112, 113, 114, 115, 116, 117, 118, 119, 120, 121, 122]
noncomputable def bareL : List Nat := [33, 35, 36, 37, 38, 39, 42, 43, 45, 46, 94, 95, 96, 124, 126, 48, 49, 50, 51, 52, 53, 54, 55, 56, 57] ++ upL ++ loL
theorem bare_tok (c : Nat) : decide (c ∈ bareL) = tokB c := by
  by_cases h : c < 256
  · have : ∀ c : Fin 256, decide (c.val ∈ bareL) = tokB c.val := by decide +kernel
    exact this ⟨c, h⟩
  · have h1 : tokB c = false := by unfold tokB; simp [h]
    rw [h1, decide_eq_false_iff_not]
    have : ∀ x ∈ bareL, x < 256 := by decide
    exact fun hc => h (this c hc)
noncomputable abbrev nmsW : List Str := ["lists", "letters", "rows", "pairs", "words", "key", "value"]
noncomputable def AtWrt (P : List Stmt → Scope → Prop) : Prop := onFn False (fun _ _ body scope => inFor (fun _ _ fb _ => inFor (fun _ _ ib _ => inIf (fun b _ => P b scope) (ib.getD 0 (.Pass default))) (fb.getD 1 (.Pass default))) (body.getD 3 (.Pass default))) (stm 48)
theorem in_bj (c : Nat) : decide (c ∈ [34, 92]) = BJ c := by
  unfold BJ
  rw [Bool.eq_iff_iff]; simp
theorem escL_flat (v : List Nat) : escL v = (v.map fun c => if BJ c then [92, c] else [c]).flatten := rfl
set_option maxHeartbeats 8000000 in
theorem w_wrt_then {φ g : Gr} {L : Addr} {cd : Value} (hA : Rm 2 A) (G : Gl W f) : AtWrt fun body scope => ∀ {g' : Gr} {mu : List (Addr × Obj)} {v0 v1 v2 v3 v4 v5 : Option Value} {v : List Nat} {tv : Tok} {s : Shared},
    St W φ g nmsW g' L [v0, v1, v2, v3, v4, v5, some (.str (T v) tv)] mu s → v.length ≤ 220 →
    wpAny (model PP W.w) (A.deeper (envOfC "_law_written" scope L (f 48) cd)) (execs body (envOfC "_law_written" scope L (f 48) cd)) (fun fl s' => fl = .next ∧ ∃ g2 new t2, Sub g' g2 ∧ St W φ g nmsW g2 L [v0, v1, v2, v3, v4, v5, some (.str (T ([34] ++ escL v ++ [34])) t2)] (new ++ mu) s') NoE s := by
  intro g' mu v0 v1 v2 v3 v4 v5 v tv s S hv
  have hel := escL_len v
  walk_at "go"
  refine it_str (by assumption) ?_
  intro I o s₂ hI S
  refine comp_run (fun i g2 ys => g2 = g' ∧ ∃ ps, ys = txs ps ∧ ps.map (·.1) = (v.take i).map fun c => if BJ c then [92, c] else [c]) S rfl (fun φ' _ => Nx.str (hA.deeper _).1) (fun i g2 ys h => trivial) hI ⟨rfl, [], rfl, rfl⟩ rfl rfl (by decide) (by walk_at "o") (fun _ => rfl) ?_ ?_
  · rintro i g2 ys φ' L' vv cenv s' mu' hi ⟨rfl, ps, rfl, hps⟩ hvv hφ hgg rfl hyl S
    obtain ⟨c, u, hc, rfl⟩ := hvv
    have hi' : i < v.length := hi
    walk_at "1"
    refine wpAny_pure ⟨fun _ => ?_, fun h => by cases h⟩
    have hts : v.take (i + 1) = v.take i ++ [c] := take_snoc hc
    have ebj := in_bj c
    walk_at "go"
    rw [ebj]
    refine ⟨fun h => ?_, fun h => ?_⟩
    · walk_at "go"
      refine ⟨_, [], _, .refl _, rfl, by assumption, rfl, ps ++ [([92, c], _)], txs_snoc _ _ _, ?_⟩
      rw [List.map_append, hps, hts, List.map_append]; simp [h]
    · walk_at "go"
      refine ⟨_, [], _, .refl _, rfl, by assumption, rfl, ps ++ [([c], _)], txs_snoc _ _ _, ?_⟩
      rw [List.map_append, hps, hts, List.map_append]; simp [h]
  · rintro g2 ys D m s' hgg hyl ⟨rfl, ps, rfl, hps⟩ S
    rw [List.take_length] at hps
    have hj : joinL [] (ps.map (·.1)) = escL v := by rw [joinL_nil, hps]; rfl
    walk_at "go"
    refine s_join (sep := []) (ps := ps) (by assumption) (by walk_at "hp") rfl (by
      have h1 : ((ps.map (·.1)).map List.length).sum = (escL v).length := by rw [hps, escL_flat, List.length_flatten]
      show ((ps.map (·.1)).map List.length).sum + _ ≤ _
      rw [h1, List.length_nil, Nat.mul_zero]; walk_at "o") ?_
    intro tj s' S
    rw [hj]
    walk_at "go"
    exact ⟨rfl, _, [_], _, .refl _, by assumption⟩
end
end
section
open PySem PySem.Calls PyProof.Rows PySem.Spec PySem.W PySem.Builtin.Str
section
variable {W : Wd} {f : Nat → Addr} {g : Gr} {s : Shared} {A : Around} {Q : Value → Shared → Prop}
set_option linter.unusedVariables false
inductive JwO (g : Gr) (L P RW : Addr) (oc : Obj) (ls : List (List KV)) (i : Nat) (g' : Gr) : List (Option Value) → List (Addr × Obj) → Prop
  | mk (h : Sub g g') (v1 v3 v4 v5 v6 : Option Value) (hs : List (List Nat × Tok)) (n2 : Nat) (e : hs.map (·.1) = (ls.take i).map listL) : JwO g L P RW oc ls i g' [some (.ref P), v1, some (.ref RW), v3, v4, v5, v6] [(RW, lst (txs hs) n2), (L + 1, oc)]
theorem JwO.sub {g g' : Gr} {L P RW : Addr} {oc : Obj} {ls : List (List KV)} {i : Nat} {vals : List (Option Value)} {mu : List (Addr × Obj)} : JwO g L P RW oc ls i g' vals mu → Sub g g' := fun x => by cases x; assumption
inductive JwN (g' : Gr) (L P RW pa AT I : Addr) (oc o : Obj) (hs : List (List Nat × Tok)) (n2 : Nat) (ps : List KV) (j : Nat) (g2 : Gr) : List (Option Value) → List (Addr × Obj) → Prop
  | mk (h : Sub g' g2) (w1 w5 w6 : Option Value) (qs : List (List Nat × Tok)) (n3 : Nat) (e : qs.map (·.1) = (ps.take j).map pairL) : JwN g' L P RW pa AT I oc o hs n2 ps j g2 [some (.ref P), w1, some (.ref RW), some (.ref pa), some (.ref AT), w5, w6] [(AT, lst (txs qs) n3), (I, o), (RW, lst (txs hs) n2), (L + 1, oc)]
theorem JwN.sub {g' g2 : Gr} {L P RW pa AT I : Addr} {oc o : Obj} {hs : List (List Nat × Tok)} {n2 : Nat} {ps : List KV} {j : Nat} {vals : List (Option Value)} {mu : List (Addr × Obj)} : JwN g' L P RW pa AT I oc o hs n2 ps j g2 vals mu → Sub g' g2 := fun x => by cases x; assumption
set_option maxHeartbeats 8000000 in
theorem w_law_written (hA : Rm 2 A) (R : Rdy W g s) (G : Gl W f) {P : Addr} {vs : List Value} {n : Nat} {ls : List (List KV)} (hP : g P = some (lst vs n)) (hls : All2 (ListAt g) vs ls) (hk : ∀ ps ∈ ls, ps.length ≤ 20 ∧ ∀ p ∈ ps, p.1.length ≤ 10 ∧ p.2.length ≤ 220) (hll : ls.length ≤ 10)
    (k : ∀ v g' s', Fin' W g s g' s' → (∃ t, v = .str (T (headL ls)) t) → Q v s') :
    wpAny (model PP W.w) A (call (.ref (f 48)) [.ref P]) Q NoE s := by
  obtain ⟨o, doc, pm, an, cd, ct, ho, hd', hc⟩ := G.fn 48 rfl
  refine enterPC "lists" ["letters", "rows", "pairs", "words", "key", "value"] "bare" (Post := fun g' v => ∃ t, v = .str (T (headL ls)) t) hA R ho hd' hc rfl rfl (fun _ => rfl) rfl rfl rfl ?_ k
  intro φ L oc s₁ hoc S
  have S : St W φ g nmsW g L [some (.ref P), none, none, none, none, none, none] [(L + 1, oc)] s₁ := S
  walk_at "go"
  have elo : Txt.lower (T upL) = T loL := by decide +kernel
  refine SC.lower (x := T upL) (by decide +kernel) ?_
  rw [elo]
  walk_at "go"
  refine st_cell [] (by assumption) hoc rfl rfl rfl fun oc s' hoc S => ?_
  have hoc : ∃ tb, oc.data = .cell (some (.str (T bareL) tb)) := ⟨_, hoc⟩
  obtain ⟨tb, hoc⟩ := hoc
  walk_at "go"
  rename_i RW _ _ _ _ S
  refine it_list S (S.gh _ _ hP) rfl ?_
  intro I o s₂ hI S
  refine for_loop (JwO g L P RW oc ls) (Nx.of_g (hA.deeper _).1 _) (fun i g' vals mu h => ⟨_, h.sub _ _ hP⟩) hI S ⟨.refl _, _, _, _, _, _, [], _, rfl⟩ (fun _ => rfl) ?_ ?_
  · rintro i g' vals mu v s o hi ⟨hg', v1, v3, v4, v5, v6, hs, n2, hhs⟩ hv S
    obtain ⟨ps, hps, pa, pvs, pn, rfl, hpa, hpv⟩ := hls.get i v hv
    replace hpa := hg' _ _ hpa
    replace hpv := hpv.mono fun _ _ => PairAt.mono hg'
    have hil : i < ls.length := (List.getElem?_eq_some_iff.mp hps).1
    obtain ⟨hpl, hpk⟩ := hk ps (List.mem_of_getElem? hps)
    have hhl : hs.length = i := by have := congrArg List.length hhs; simp at this; walk_at "o"
    walk_at "go"
    rename_i AT _ _ _ _ S
    refine it_list S (S.gh _ _ hpa) rfl ?_
    intro I2 o2 s₂ hI2 S
    refine for_loopT (JwN g' L P RW pa AT I oc o hs n2 ps) (Nx.of_g (hA.deeper _).1 _) (fun i g2 vals mu h => ⟨_, h.sub _ _ hpa⟩) hI2 S ⟨.refl _, _, _, _, [], _, rfl⟩ (fun j v hv => by obtain ⟨p, hp, ta, tk, tv, rfl, hta⟩ := hpv.get j v hv; exact ⟨_, rfl⟩) ?_ ?_
    · rintro j g2 vals mu v s o2 hj ⟨hg2, w1, w5, w6, qs, n3, hqs⟩ hv S
      obtain ⟨p, hp, ta, tk, tv, rfl, hta⟩ := hpv.get j v hv
      replace hta := hg2 _ _ hta
      obtain ⟨hk10, hv140⟩ := hpk p (List.mem_of_getElem? hp)
      have hql : qs.length ≤ 20 := by have := congrArg List.length hqs; simp at this; walk_at "o"
      have hwl := wvL_len p.2
      have hel := escL_len p.2
      walk_at "go"
      rcases hve : p.2 with _ | ⟨y, vr⟩
      · refine ⟨fun h => absurd h (by decide), fun _ => ⟨fun _ => ?_, fun h => absurd h (by decide)⟩⟩
        have ep : p.1 ++ [61] ++ ([34] ++ escL p.2 ++ [34]) = pairL p := by
          unfold pairL wvL
          rw [hve]; simp [bareV]
        refine wpAny_mono (w_wrt_then (f := f) hA G (by assumption) hv140) (fun fl s' hq => ?_) fun _ _ x => x
        obtain ⟨rfl, g3, new, t2, hs3, S⟩ := hq
        have S := S.dropPre
        (repeat walk_at "kn"); show wpAny _ _ _ _ _ _
        walk_at "go"
        refine append1 (by assumption) (by simp only [txs, List.length_map]; walk_at "o") fun s' S => ?_
        walk_at "go"
        rw [txs_snoc, ep] at S
        exact ⟨_, _, [(AT, _), (I, o), (RW, _), (L + 1, oc)], [], S, hg2.trans hs3, _, _, _, _, _, by rw [take_snoc hp, List.map_append, List.map_append, hqs]; rfl⟩
      · rw [← hve]
        have hf : (p.2 == []) = false := by rw [hve]; rfl
        refine ⟨fun _ => ?_, fun h => absurd (hf.symm.trans h) (by decide)⟩
        walk_at "go"
        refine ev_compC (cl := [("bare", L + 1)]) rfl rfl (by decide) (fun _ => rfl) ?_
        walk_at "go"
        refine it_str (by assumption) ?_
        intro I3 o3 s₂ hI3 S
        refine comp_runC (fun i g3 ys => g3 = g2 ∧ ys.isEmpty = (p.2.take i).all tokB) S rfl (fun φ' _ => Nx.str (hA.deeper _).1) (fun i g3 ys h => trivial) hI3 ⟨rfl, rfl⟩ rfl rfl (by decide) (by walk_at "o") (fun _ => rfl) ?_ ?_
        · rintro i3 g3 ys φ' L' vv cenv s' mu' hi3 ⟨rfl, hys⟩ hvv hφ hgg rfl hyl S'
          obtain ⟨c, u, hc, rfl⟩ := hvv
          have hi' : i3 < p.2.length := hi3
          have hts : p.2.take (i3 + 1) = p.2.take i3 ++ [c] := take_snoc hc
          have hCm : (L + 1, oc) ∈ (I3, o3) :: (I2, o2) :: (AT, lst (txs qs) n3) :: (I, o) :: (RW, lst (txs hs) n2) :: [(L + 1, oc)] := by simp
          have hC := hφ (L + 1) oc (fun e => (List.nodup_cons.mp S.nd).1 (by rw [← e]; simp)) (fun u hu e => (S.tabs u hu).2.2.2.2 (L + 1, oc) (by simp) e.symm) (S.mus (L + 1, oc) (by simp)).1
          (walk_at "1"); refine wpAny_tests_one ?_
          walk_at "go"
          refine ev_cell (St.fh (by assumption) _ _ hC) hoc rfl rfl rfl rfl ?_
          walk_at "go"
          rw [bare_tok]
          refine ⟨fun h => ?_, fun h => ?_⟩
          · walk_at "go"
            refine ⟨_, [], _, .refl _, rfl, by assumption, rfl, ?_⟩
            rw [hts, List.all_append]
            have : tokB c = false := by simpa using h
            simp [this]
          · (repeat walk_at "kn"); refine ⟨_, [], _, .refl _, rfl, by assumption, rfl, ?_⟩
            rw [hts, List.all_append, hys]
            have : tokB c = true := by simpa using h
            simp [this]
        · rintro g3 ys D m s' hgg hyl ⟨rfl, hys⟩ S
          rw [List.take_length] at hys
          walk_at "go"
          refine ne_nil (hA.deeper _) (by walk_at "hp") rfl (by walk_at "hp") rfl ?_
          rw [hys]
          have hbv : bareV p.2 = p.2.all tokB := by unfold bareV; rw [hve]; rfl
          walk_at "go"
          refine ⟨fun h => ?_, fun h => ?_⟩
          · have hb : bareV p.2 = false := by rw [hbv]; simpa using h
            have ep : p.1 ++ [61] ++ ([34] ++ escL p.2 ++ [34]) = pairL p := by
              unfold pairL wvL; rw [hb]; simp
            rename_i S
            have S := St.dropPre (new := [_, _]) S
            refine wpAny_mono (w_wrt_then (f := f) hA G S hv140) (fun fl s' hq => ?_) fun _ _ x => x
            obtain ⟨rfl, g4, new, t2, hs4, S⟩ := hq
            have S := S.dropPre
            (repeat walk_at "kn"); show wpAny _ _ _ _ _ _
            walk_at "go"
            refine append1 (by assumption) (by simp only [txs, List.length_map]; walk_at "o") fun s' S => ?_
            walk_at "go"
            rw [txs_snoc, ep] at S
            exact ⟨_, _, [(AT, _), (I, o), (RW, _), (L + 1, oc)], [], S, hg2.trans hs4, _, _, _, _, _, by rw [take_snoc hp, List.map_append, List.map_append, hqs]; rfl⟩
          · have hb : bareV p.2 = true := by rw [hbv]; simpa using h
            have ep : p.1 ++ [61] ++ p.2 = pairL p := by
              unfold pairL wvL; rw [hb]; simp
            rename_i S
            have S := St.dropPre (new := [_, _]) S
            show wpAny _ _ _ _ _ _
            walk_at "go"
            refine append1 (by assumption) (by simp only [txs, List.length_map]; walk_at "o") fun s' S => ?_
            walk_at "go"
            rw [txs_snoc, ep] at S
            exact ⟨_, _, [(AT, _), (I, o), (RW, _), (L + 1, oc)], [], S, hg2, _, _, _, _, _, by rw [take_snoc hp, List.map_append, List.map_append, hqs]; rfl⟩
    · rintro g2 vals mu s ⟨hg2, w1, w5, w6, qs, n3, hqs⟩ S
      have hqs' : qs.map (·.1) = ps.map pairL := by rw [hqs, List.take_of_length_le (by rw [hpv.len]; exact Nat.le_refl _)]
      have hqsum : ((ps.map pairL).map (·.length)).sum ≤ 460 * ps.length := by
        rw [List.map_map]
        show (ps.map fun p => (pairL p).length).sum ≤ _
        exact sum_le (fun p => (pairL p).length) 460 ps fun p hp => by
          have := wvL_len p.2; obtain ⟨h1, h2⟩ := hpk p hp; unfold pairL; simp; walk_at "o"
      have hql : qs.length = ps.length := by have := congrArg List.length hqs'; simpa using this
      walk_at "go"
      refine s_join (ps := qs) (by assumption) (by walk_at "hp") rfl (by rw [hqs']; simp only [List.length_cons, List.length_nil]; walk_at "o") ?_
      intro tj s' S
      rw [hqs']
      walk_at "go"
      have eL : joinL [59, 32] (ps.map pairL) = listL ps := rfl
      refine append2 (by assumption) (by simp only [txs, List.length_map]; walk_at "o") fun s' S => ?_
      walk_at "go"
      rw [txs_snoc] at S
      exact ⟨_, _, [(RW, _), _], [_], S, hg'.trans hg2, _, _, _, _, _, _, _, by rw [take_snoc hps, List.map_append, List.map_append, hhs]; rfl⟩
  · rintro g' vals mu s ⟨hg', v1, v3, v4, v5, v6, hs, n2, hhs⟩ S
    have hhs' : hs.map (·.1) = ls.map listL := by rw [hhs, List.take_of_length_le (by rw [hls.len]; exact Nat.le_refl _)]
    have hhl : hs.length = ls.length := by have := congrArg List.length hhs'; simpa using this
    have hsum : ((ls.map listL).map (·.length)).sum ≤ 9300 * ls.length := by
      rw [List.map_map]
      show (ls.map fun p => (listL p).length).sum ≤ _
      exact sum_le (fun p => (listL p).length) 9300 ls fun ps hps => by
        obtain ⟨hpl, hpk⟩ := hk ps hps
        have h1 : ((ps.map pairL).map (·.length)).sum ≤ 460 * ps.length := by
          rw [List.map_map]
          show (ps.map fun p => (pairL p).length).sum ≤ _
          exact sum_le (fun p => (pairL p).length) 460 ps fun p hp => by
            have := wvL_len p.2; obtain ⟨h1, h2⟩ := hpk p hp; unfold pairL; simp; walk_at "o"
        have h2 := joinL_len [59, 32] (ps.map pairL)
        unfold listL
        simp only [List.length_map, List.length_cons, List.length_nil] at h2
        walk_at "o"
    walk_at "go"
    refine s_join (ps := hs) (by assumption) (by walk_at "hp") rfl (by rw [hhs']; simp only [List.length_cons, List.length_nil]; walk_at "o") ?_
    intro tj s' S
    rw [hhs']
    (repeat walk_at "kn"); exact ⟨_, _, _, S, _, rfl⟩
end
end
section
open PySem PySem.Calls PyProof.Rows PySem.Spec PySem.W PySem.Builtin.Str
section
noncomputable def cutOf (p : List Nat) : Cut := (hd p, behind 47 p, endL (behind 47 p))
noncomputable def InvC (gs : List Gp) (cs : List Cut) : Prop := (∀ g ∈ gs, g.2 = (cs.filter (fun c => c.1 == g.1)).flatMap cutKV) ∧ (∀ c ∈ cs, ∃ g ∈ gs, g.1 = c.1)
theorem InvC.step {gs : List Gp} {cs : List Cut} (h : InvC gs cs) (c : Cut) : InvC (addC gs c) (cs ++ [c]) := by
  obtain ⟨h1, h2⟩ := h
  unfold addC
  split
  · rename_i ha
    obtain ⟨g0, hg0, e0⟩ := List.any_eq_true.mp ha
    have e0 : g0.1 = c.1 := by simpa using e0
    refine ⟨fun g hg => ?_, fun d hd => ?_⟩
    · obtain ⟨g', hg', rfl⟩ := List.mem_map.mp hg
      rw [List.filter_append, List.flatMap_append]
      by_cases q : g'.1 = c.1
      · simp only [q, beq_self_eq_true, if_true]
        rw [h1 g' hg', q]; simp
      · have q1 : (g'.1 == c.1) = false := by simp [q]
        have q2 : (c.1 == g'.1) = false := by simp [Ne.symm q]
        simp only [q1, Bool.false_eq_true, if_false]
        rw [h1 g' hg']; simp [q2]
    · rcases List.mem_append.mp hd with hd | hd
      · obtain ⟨g, hg, e⟩ := h2 d hd
        refine ⟨_, List.mem_map_of_mem hg, ?_⟩
        split <;> exact e
      · rw [List.mem_singleton.mp hd]
        refine ⟨_, List.mem_map_of_mem hg0, ?_⟩
        split <;> exact e0
  · rename_i ha
    have hno : ∀ d ∈ cs, d.1 ≠ c.1 := fun d hd e => by
      obtain ⟨g, hg, e2⟩ := h2 d hd
      exact ha (List.any_eq_true.mpr ⟨g, hg, by simp [e2, e]⟩)
    refine ⟨fun g hg => ?_, fun d hd => ?_⟩
    · rcases List.mem_append.mp hg with hg | hg
      · have q : c.1 ≠ g.1 := fun e => ha (List.any_eq_true.mpr ⟨g, hg, by simp [e]⟩)
        have q2 : (c.1 == g.1) = false := by simp [q]
        rw [List.filter_append, List.flatMap_append, h1 g hg]; simp [q2]
      · rw [List.mem_singleton.mp hg]
        rw [List.filter_append, List.filter_eq_nil_iff.mpr fun d hd => by simpa using hno d hd]
        simp
    · rcases List.mem_append.mp hd with hd | hd
      · obtain ⟨g, hg, e⟩ := h2 d hd
        exact ⟨g, List.mem_append_left _ hg, e⟩
      · rw [List.mem_singleton.mp hd]
        exact ⟨_, List.mem_append_right _ (List.mem_singleton.mpr rfl), rfl⟩
theorem InvC.all : ∀ (ds cs : List Cut) (gs : List Gp), InvC gs cs → InvC (ds.foldl addC gs) (cs ++ ds)
  | [], cs, gs, h => by rw [List.append_nil]; exact h
  | d :: r, cs, gs, h => by
    have := InvC.all r (cs ++ [d]) (addC gs d) (h.step d)
    simpa using this
theorem inv_cuts (cs : List Cut) : InvC (cs.foldl addC []) cs := by
  have := InvC.all cs [] [] ⟨by simp, by simp⟩
  simpa using this
noncomputable def strm : List (List KV) → List (Bool × KV)
  | [] => []
  | [] :: r => strm r
  | (p :: ps) :: r => (true, p) :: (ps.map fun q => (false, q)) ++ strm r
theorem restS_false (ps : List KV) (r : List (Bool × KV)) : restS ((ps.map fun q => (false, q)) ++ r) = (ps.map fun q => [59, 32] ++ pairL q).flatten ++ restS r := by
  induction ps with
  | nil => rfl
  | cons p ps ih => simp only [List.map_cons, List.cons_append, restS, ih, List.flatten_cons]; simp
theorem joinL_flat (sep x : List Nat) : ∀ ls : List (List Nat), joinL sep (x :: ls) = x ++ (ls.map fun l => sep ++ l).flatten
  | [] => by simp [joinL]
  | y :: r => by
    have ih := joinL_flat sep y r
    simp only [joinL, ih, List.map_cons, List.flatten_cons]; simp
theorem restS_strm : ∀ ls : List (List KV), (∀ l ∈ ls, l ≠ []) → restS (strm ls) = (ls.map fun l => [44, 32] ++ listL l).flatten
  | [], _ => rfl
  | [] :: r, h => absurd rfl (h [] (.head _))
  | (p :: ps) :: r, h => by
    have ih := restS_strm r fun l hl => h l (.tail _ hl)
    show restS ((true, p) :: ((ps.map fun q => (false, q)) ++ strm r)) = _
    rw [restS, restS_false, ih]
    simp only [List.map_cons, List.flatten_cons, listL, List.map_cons, joinL_flat, List.map_map]
    simp [Function.comp_def]
theorem headL_strm {p : KV} {ps : List KV} {ls : List (List KV)} (h : ∀ l ∈ ls, l ≠ []) : headL ((p :: ps) :: ls) = pairL p ++ restS ((ps.map fun q => (false, q)) ++ strm ls) := by
  rw [restS_false, restS_strm ls h]
  unfold headL
  rw [List.map_cons, joinL_flat]
  simp only [listL, List.map_cons, joinL_flat, List.map_map]
  simp [Function.comp_def, listL]
theorem grS_false (cur ps : List KV) (r : List (Bool × KV)) : grS cur ((ps.map fun q => (false, q)) ++ r) = grS (cur ++ ps) r := by
  induction ps generalizing cur with
  | nil => simp
  | cons p ps ih => simp only [List.map_cons, List.cons_append, grS, Bool.false_eq_true, if_false]; rw [ih]; simp
theorem grS_strm : ∀ (ls : List (List KV)) (cur : List KV), (∀ l ∈ ls, l ≠ []) → grS cur (strm ls) = cur :: ls
  | [], cur, _ => rfl
  | [] :: r, cur, h => absurd rfl (h [] (.head _))
  | (p :: ps) :: r, cur, h => by
    have ih := grS_strm r (p :: ps) fun l hl => h l (.tail _ hl)
    show grS cur ((true, p) :: ((ps.map fun q => (false, q)) ++ strm r)) = _
    rw [grS, if_pos rfl, grS_false]
    rw [List.singleton_append, ih]
end
end
section
open PySem PySem.Calls PyProof.Rows PySem.Spec PySem.W PySem.Builtin.Str
section
variable {W : Wd} {φ g0 g g' : Gr} {names : List Str} {L : Addr} {vals vals' : List (Option Value)} {mu : List (Addr × Obj)} {s s' : Shared} {A : Around} {E : Value → Shared → Prop} {k : Nat}
noncomputable def d2 (a b : List Nat) : PyData := .tuple [.str (T a), .str (T b)]
noncomputable def dP (ps : List KV) : PyData := .list (ps.map fun p => d2 p.1 p.2)
noncomputable def dL (ls : List (List KV)) : PyData := .list (ls.map dP)
noncomputable def dT (xs : List (List Nat)) : PyData := .list (xs.map fun x => .str (T x))
theorem layAll {ds : List PyData} (h : ∀ d ∈ ds, d.canLay0 = true) : PyData.canLayAll0 ds = true := by
  induction ds with
  | nil => rfl
  | cons x r ih =>
    show (PyData.canLay0 x && PyData.canLayAll0 r) = true
    rw [h x (.head _), ih fun d hd => h d (.tail _ hd)]; rfl
theorem depAll {n : Nat} {ds : List PyData} (h : ∀ d ∈ ds, d.depth ≤ n) : PyData.depthAll ds ≤ n := by
  induction ds with
  | nil => exact Nat.zero_le _
  | cons x r ih => exact Nat.max_le.mpr ⟨h x (.head _), ih fun d hd => h d (.tail _ hd)⟩
theorem lay2 {a b : List Nat} (ha : Ok a) (hb : Ok b) : (d2 a b).canLay0 = true := layAll fun d hd => by
  simp only [List.mem_cons, List.not_mem_nil, or_false] at hd
  rcases hd with rfl | rfl
  · exact ha.strOk
  · exact hb.strOk
theorem dep2 (a b : List Nat) : (d2 a b).depth ≤ 1 := Nat.succ_le_succ (depAll fun d hd => by
  simp only [List.mem_cons, List.not_mem_nil, or_false] at hd
  rcases hd with rfl | rfl <;> exact Nat.le_refl _)
theorem layL {ls : List (List KV)} (h : ∀ ps ∈ ls, ∀ p ∈ ps, Ok p.1 ∧ Ok p.2) : (dL ls).canLay0 = true := layAll fun d hd => by
  obtain ⟨ps, hps, rfl⟩ := List.mem_map.mp hd
  exact layAll fun d hd => by
    obtain ⟨p, hp, rfl⟩ := List.mem_map.mp hd
    exact lay2 (h ps hps p hp).1 (h ps hps p hp).2
theorem depL (ls : List (List KV)) : (dL ls).depth ≤ 3 := Nat.succ_le_succ (depAll fun d hd => by
  obtain ⟨ps, hps, rfl⟩ := List.mem_map.mp hd
  exact Nat.succ_le_succ (depAll fun d hd => by
    obtain ⟨p, hp, rfl⟩ := List.mem_map.mp hd
    exact dep2 _ _))
theorem layT {xs : List (List Nat)} (h : ∀ x ∈ xs, Ok x) : (dT xs).canLay0 = true := layAll fun d hd => by
  obtain ⟨x, hx, rfl⟩ := List.mem_map.mp hd
  exact (h x hx).strOk
theorem depT (xs : List (List Nat)) : (dT xs).depth ≤ 1 := Nat.succ_le_succ (depAll fun d hd => by
  obtain ⟨x, hx, rfl⟩ := List.mem_map.mp hd
  exact Nat.zero_le _)
theorem e_ne_same {d : PyData} {v w : Value} {Q : Value → Shared → Prop} (S : St W φ g0 names g L vals mu s) (hA : Rm k A) (ra : Rd g v d) (rb : Rd g w d) (ha : d.canLay0 = true) (hd : d.depth ≤ 100)
    (h : Q (.bool false) s) : wpAny (model PP W.w) A (compareOp .NotEq v w) Q E s :=
  e_ne S hA ra rb ha ha hd (by rw [SeqAt.eqv_refl d ha]; exact h)
theorem e_eq_same {d : PyData} {v w : Value} {Q : Value → Shared → Prop} (S : St W φ g0 names g L vals mu s) (hA : Rm k A) (ra : Rd g v d) (rb : Rd g w d) (ha : d.canLay0 = true) (hd : d.depth ≤ 100)
    (h : Q (.bool true) s) : wpAny (model PP W.w) A (compareOp .Eq v w) Q E s :=
  e_eq S hA ra rb ha ha hd (by rw [SeqAt.eqv_refl d ha]; exact h)
theorem rd2 {a : Addr} {x y : List Nat} {t u : Tok} (h : g a = some (tup [.str (T x) t, .str (T y) u])) : Rd g (.ref a) (d2 x y) := Rd.tup h (.cons (Rd.str _ _ _) (.cons (Rd.str _ _ _) (.nil _)))
theorem rdP {vs : List Value} {ps : List KV} (h : All2 (PairAt g) vs ps) : RdAll g vs (ps.map fun p => d2 p.1 p.2) := by
  induction h with
  | nil => exact .nil _
  | cons h _ ih =>
    obtain ⟨a, t, u, rfl, e⟩ := h
    exact .cons (rd2 e) ih
theorem rdL {vs : List Value} {ls : List (List KV)} (h : All2 (ListAt g) vs ls) : RdAll g vs (ls.map dP) := by
  induction h with
  | nil => exact .nil _
  | cons h _ ih =>
    obtain ⟨a, ws, n, rfl, e, hp⟩ := h
    exact .cons (Rd.lst e (rdP hp)) ih
theorem rdT (qs : List (List Nat × Tok)) : RdAll g (txs qs) ((qs.map (·.1)).map fun x => .str (T x)) := by
  induction qs with
  | nil => exact .nil _
  | cons q r ih => exact .cons (Rd.str _ _ _) ih
end
end
section
open PySem PySem.Calls PyProof.Rows PySem.Spec PySem.W PySem.Builtin.Str
section
variable {W : Wd} {f : Nat → Addr} {g : Gr} {s : Shared} {A : Around} {Q : Value → Shared → Prop}
set_option linter.unusedVariables false
noncomputable abbrev nmsA : List Str := ["script", "star", "cuts", "path", "folder", "name", "ending", "lists", "text", "read", "told", "pairs", "key", "pattern", "parts", "due"]
noncomputable def AtFor (i : Nat) (P : Expr → Expr → List Stmt → Pos → Scope → Prop) : Prop := onFn False (fun _ _ body scope => inFor (fun t it b pos => P t it b pos scope) (body.getD i (.Pass default))) (stm 50)
noncomputable def CutsOk (cs : List Cut) : Prop := cs.length ≤ 5 ∧ cs ≠ [] ∧ ∀ c ∈ cs, ∃ p : List Nat, c = cutOf p ∧ p.length ≤ 70 ∧ ∀ x ∈ p, x ∈ alph
theorem alph_ok {l : List Nat} (h : ∀ x ∈ l, x ∈ alph) : Ok l := fun c hc => by
  have : ∀ x ∈ alph, x < 256 := by decide
  exact this c (h c hc)
theorem upto_sub {c x : Nat} {l : List Nat} (h : x ∈ upto c l) : x ∈ l := by
  have := upto_behind c l
  rw [← this]; exact List.mem_append_left _ h
theorem behind_sub {c x : Nat} {l : List Nat} (h : x ∈ behind c l) : x ∈ l := by
  have := upto_behind c l
  rw [← this]; exact List.mem_append_right _ h
theorem hd_sub {x : Nat} {p : List Nat} (h : x ∈ hd p) : x ∈ p := by
  unfold hd at h
  split at h
  · exact upto_sub h
  · rw [List.mem_reverse] at h
    have := (List.dropWhile_sublist _).subset h
    exact upto_sub (List.mem_reverse.mp this)
theorem endL_sub {x : Nat} {n : List Nat} (h : x ∈ endL n) : x ∈ n := by
  unfold endL at h
  split at h
  · rename_i h46
    rcases List.mem_cons.mp h with rfl | h
    · exact (List.dropWhile_sublist _).subset h46
    · exact (List.dropWhile_sublist _).subset (behind_sub h)
  · cases h
theorem behind_len (c : Nat) (l : List Nat) : (behind c l).length ≤ l.length := by
  have := congrArg List.length (upto_behind c l)
  simp at this; walk_at "o"
theorem hd_len (p : List Nat) : (hd p).length ≤ p.length := by
  have h1 := congrArg List.length (upto_behind 47 p)
  simp only [List.length_append] at h1
  unfold hd
  split
  · walk_at "o"
  · rw [List.length_reverse]
    have := (List.dropWhile_sublist (fun x => x == 47) (l := (upto 47 p).reverse)).length_le
    rw [List.length_reverse] at this
    walk_at "o"
theorem endL_len (n : List Nat) : (endL n).length ≤ n.length := by
  unfold endL
  split
  · rename_i h46
    have h1 := (List.dropWhile_sublist (fun x => x == 46) (l := n)).length_le
    have h2 := behind_free 46 (n.dropWhile (· == 46))
    have h3 := congrArg List.length (upto_behind 46 (n.dropWhile (· == 46)))
    simp only [List.length_append] at h3
    have h4 : 1 ≤ (upto 46 (n.dropWhile (· == 46))).length := by
      rcases Nat.eq_zero_or_pos (upto 46 (n.dropWhile (· == 46))).length with h | h
      · exfalso
        have e := List.length_eq_zero_iff.mp h
        have := upto_behind 46 (n.dropWhile (· == 46))
        rw [e, List.nil_append] at this
        rw [this] at h2; exact h2 h46
      · exact h
    simp only [List.length_cons]; walk_at "o"
  · exact Nat.zero_le _
inductive L1Q (W : Wd) (φ g g' : Gr) (L P : Addr) (vstar : Option Value) (CU : Addr) : Flow → Shared → Prop
  | mk (g2 : Gr) (v3 v4 v5 v6 : Option Value) (cs : List Cut) (cvs : List Value) (n1 : Nat) (s' : Shared) (hs : Sub g' g2) (S : St W φ g nmsA g2 L [some (.ref P), vstar, some (.ref CU), v3, v4, v5, v6, none, none, none, none, none, none, none, none, none] [(CU, lst cvs n1)] s') (hc : All2 (CutAt g2) cvs cs) (hok : CutsOk cs) : L1Q W φ g g' L P vstar CU .next s'
inductive L1J (g2 : Gr) (P : Addr) (vstar : Option Value) (CU : Addr) (ls : List (List Nat)) (i : Nat) (g3 : Gr) : List (Option Value) → List (Addr × Obj) → Prop
  | mk (h : Sub g2 g3) (v3 v4 v5 v6 : Option Value) (cvs : List Value) (n1 : Nat) (e : All2 (CutAt g3) cvs ((ls.take i).map cutOf)) : L1J g2 P vstar CU ls i g3 [some (.ref P), vstar, some (.ref CU), v3, v4, v5, v6, none, none, none, none, none, none, none, none, none] [(CU, lst cvs n1)]
theorem L1J.sub {g2 g3 : Gr} {P CU : Addr} {vstar : Option Value} {ls : List (List Nat)} {i : Nat} {vals : List (Option Value)} {mu : List (Addr × Obj)} : L1J g2 P vstar CU ls i g3 vals mu → Sub g2 g3 := fun x => by cases x; assumption
set_option maxHeartbeats 8000000 in
theorem w_law_L1 {φ g : Gr} {L : Addr} {cd : Value} (hA : Rm 6 A) (G : Gl W f) : AtFor 2 fun t it b pos scope => ∀ {g' : Gr} {P CU : Addr} {ns : List (Int × Tok)} {n n0 : Nat} {vstar : Option Value} {s : Shared},
    St W φ g nmsA g' L [some (.ref P), vstar, some (.ref CU), none, none, none, none, none, none, none, none, none, none, none, none, none] [(CU, lst [] n0)] s → g' P = some (lst (ns.map fun x => .int x.1 x.2) n) → ns.length ≤ 63 →
    wpAny (model PP W.w) (A.deeper (envOf "law" scope L (f 50) cd)) (exec (.For t it b [] pos) (envOf "law" scope L (f 50) cd)) (L1Q W φ g g' L P vstar CU) NoE s := by
  intro g' P CU ns n n0 vstar s S hP hl
  walk_at "go"
  refine w_law_paths (Rm.le (hA.deeper _) (by walk_at "o")) (St.rdy (by assumption)) G hP hl fun v g2 s' F hv => ?_
  have S := St.back (by assumption) F
  obtain ⟨PA, ps, pn, rfl, hPA, hpl, hpk⟩ := hv
  walk_at "go"
  refine it_list S (S.gh _ _ hPA) rfl ?_
  intro I o s₂ hI S
  refine for_loop (L1J g2 P vstar CU (ps.map (·.1))) (Nx.of_g (hA.deeper _).1 _) (fun i g3 vals mu h => ⟨_, h.sub _ _ hPA⟩) hI S ⟨.refl _, _, _, _, _, _, _, .nil⟩ (fun _ => rfl) ?_ ?_
  · rintro i g3 vals mu v s o hi ⟨hg3, v3, v4, v5, v6, cvs, n1, hcv⟩ hv S
    rw [← List.map_take] at hcv
    have hi' : i < ps.length := by simpa [txs] using hi
    have hcl : cvs.length ≤ 5 := by
      have := hcv.len
      simp only [List.length_map, List.length_take] at this
      walk_at "o"
    have hv' : v = .str (T (ps[i]).1) (ps[i]).2 := by
      have : (txs ps)[i]? = some (.str (T (ps[i]).1) (ps[i]).2) := by simp [txs, hi']
      rw [this] at hv; exact (Option.some.inj hv).symm
    subst hv'
    obtain ⟨hp70, hpa⟩ := hpk _ (List.getElem_mem hi')
    have hts : ((ps.take (i + 1)).map (·.1)).map cutOf = ((ps.take i).map (·.1)).map cutOf ++ [cutOf (ps[i]).1] := by rw [List.take_succ_eq_append_getElem hi', List.map_append, List.map_append]; rfl
    (walk_at "zS"); generalize (ps[i]).1 = p at *
    generalize (ps[i]).2 = tp at *
    walk_at "go"
    refine w_split (Rm.le (hA.deeper _) (by walk_at "o")) (St.rdy (by assumption)) G (by walk_at "o") fun v g4 s' F1 hv1 => ?_
    obtain ⟨a1, t1, u1, rfl, ha1⟩ := hv1
    have S := St.back (by assumption) F1
    walk_at "go"
    rename_i ta g5 _ hg45 hta S
    refine w_law_cut (Rm.le (hA.deeper _) (by walk_at "o")) (St.rdy (by assumption)) G (by walk_at "o") fun v g6 s' F2 hv2 => ?_
    obtain ⟨a2, t2, u2, rfl, ha2⟩ := hv2
    have S := St.back (by assumption) F2
    refine e_ne_same S (hA.deeper _) (rd2 (F2.sub _ _ hta)) (rd2 ha2) (lay2 (alph_ok fun x hx => hpa x (hd_sub hx)) (alph_ok fun x hx => hpa x (behind_sub hx))) (Nat.le_trans (dep2 _ _) (by decide)) ?_
    walk_at "go"
    have hbl := behind_len 47 p
    have hbe := endL_len (behind 47 p)
    refine w_law_ending (Rm.le (hA.deeper _) (by walk_at "o")) (St.rdy (by assumption)) G (by walk_at "o") fun v g7 s' F3 hv3 => ?_
    obtain ⟨t3, rfl⟩ := hv3
    have S := St.back (by assumption) F3
    walk_at "go"
    refine w_splitext (Rm.le (hA.deeper _) (by walk_at "o")) (St.rdy (by assumption)) G (by walk_at "o") fun v g8 s' F4 hv4 => ?_
    obtain ⟨a4, t4, u4, rfl, ha4⟩ := hv4
    have S := St.back (by assumption) F4
    walk_at "go"
    have ecut : ((p.length : Int) - ((endL (behind 47 p)).length : Int)) = ((p.length - (endL (behind 47 p)).length : Nat) : Int) := by walk_at "o"
    rw [ecut]
    refine cut_ns (by assumption) (by walk_at "o") (by walk_at "o") rfl ?_
    intro t5 s5 S
    walk_at "go"
    rename_i tb g9 _ hg9 htb S
    refine e_ne_same S (hA.deeper _) (rd2 (hg9 _ _ ha4)) (rd2 htb) (lay2 (alph_ok fun x hx => hpa x (List.mem_of_mem_take hx)) (alph_ok fun x hx => hpa x (behind_sub (endL_sub hx)))) (Nat.le_trans (dep2 _ _) (by decide)) ?_
    walk_at "go"
    refine w_splitext (Rm.le (hA.deeper _) (by walk_at "o")) (St.rdy (by assumption)) G (by walk_at "o") fun v g10 s' F5 hv5 => ?_
    obtain ⟨a6, t6, u6, rfl, ha6⟩ := hv5
    have S := St.back (by assumption) F5
    walk_at "go"
    rename_i tc g11 _ hg11 htc _ _ S
    refine ⟨_, _, _, [], S, hg3.trans (F1.sub.trans (hg45.trans (F2.sub.trans (F3.sub.trans (F4.sub.trans (hg9.trans (F5.sub.trans hg11))))))), _, _, _, _, _, _, ?_⟩
    rw [← List.map_take, hts]
    exact .app (hcv.mono fun v c ⟨a, t1, t2, t3, e, h⟩ => ⟨a, t1, t2, t3, e, hg11 _ _ (F5.sub _ _ (hg9 _ _ (F4.sub _ _ (F3.sub _ _ (F2.sub _ _ (hg45 _ _ (F1.sub _ _ h)))))))⟩) (.cons ⟨_, _, _, _, rfl, htc⟩ .nil)
  · rintro g3 vals mu s ⟨hg3, v3, v4, v5, v6, cvs, n1, hcv⟩ S
    rw [← List.map_take] at hcv
    refine ⟨g3, _, _, _, _, _, _, _, _, F.sub.trans hg3, S, hcv, ?_, ?_, ?_⟩
    · simp; walk_at "o"
    · intro e
      have := congrArg List.length e
      simp only [List.length_map, List.length_take, txs, List.length_nil] at this
      walk_at "o"
    · intro c hc
      obtain ⟨p, hp, rfl⟩ := List.mem_map.mp hc
      obtain ⟨q, hq, rfl⟩ := List.mem_map.mp hp
      exact ⟨q.1, rfl, hpk q (List.mem_of_mem_take hq)⟩
end
end
section
open PySem PySem.Calls PyProof.Rows PySem.Spec PySem.W PySem.Builtin.Str
section
variable {W : Wd} {f : Nat → Addr} {g : Gr} {s : Shared} {A : Around} {Q : Value → Shared → Prop}
set_option linter.unusedVariables false
noncomputable def DOk (D : List (PyData × PyData)) : Prop := ∀ c ∈ alph, c ∉ odd → (lookup (.int c) D = none ∧ c ≠ 46) ∨ (lookup (.int c) D = some (.str (T [92, c])) ∧ Unicode.isAlnum c = false)
theorem w_sign (hA : Rm 1 A) (R : Rdy W g s) (G : Gl W f) {D : List (PyData × PyData)} {c : Nat} {t : Tok} (hc : c ∈ alph) (hD : DOk D)
    (k : ∀ v g' s', Fin' W g s g' s' → (∃ t, v = .str (T [c]) t) → Q v s') :
    wpAny (model PP W.w) A (call (.ref (f 49)) [.str (T (partL D c)) t]) Q NoE s := by
  unfold partL
  by_cases ho : c ∈ odd
  · rw [if_pos ho]
    by_cases h4 : c ∈ [92, 45, 94, 91, 124]
    · rw [if_pos h4]
      refine w_law_sign4 hA R G ?_ k
      have : ∀ c ∈ [92, 45, 94, 91, 124], Unicode.isAlnum c = false := by decide +kernel
      exact this c h4
    · rw [if_neg h4]
      simp only [List.mem_cons, List.not_mem_nil, or_false, not_or] at h4
      exact w_law_sign3 hA R G h4.2.2.1 h4.1 k
  · rw [if_neg ho]
    rcases hD c hc ho with ⟨h1, h2⟩ | ⟨h1, h2⟩
    · rw [h1]
      show wpAny _ _ (call _ [.str (T [c]) t]) _ _ _
      refine w_law_sign1 hA R G ?_ k
      have : ∀ c ∈ alph, c ∉ odd → c ≠ 46 → c ∉ [46, 94, 36, 42, 43, 63, 123, 125, 91, 93, 92, 124, 40, 41] := by decide
      exact this c hc ho h2
    · rw [h1]
      show wpAny _ _ (call _ [.str (T [92, c]) t]) _ _ _
      exact w_law_sign2 hA R G h2 k
noncomputable def TrEnv (W : Wd) (f : Nat → Addr) (t21 : Tb) (D : List (PyData × PyData)) : Prop := t21 ∈ W.tabs ∧ t21.codes = cod21 ∧ FnC W (f 21) t21 (stm 21) ∧ PatAt W (f 15) cTW1 1 ∧ (∀ h : Heap, (∀ a o, W.h0.get? a = some o → h.get? a = some o) → PyProof.Rows.IntTab PP W.w h (f 18) D) ∧ DOk D
theorem DOk.hl {D : List (PyData × PyData)} (h : DOk D) {nm : List Nat} (hn : ∀ c ∈ nm, c ∈ alph) : ∀ c ∈ nm, c ∉ odd → lookup (.int c) D = none ∨ lookup (.int c) D = some (.str (T [92, c])) :=
  fun c hc ho => (h c (hn c hc) ho).imp (·.1) (·.1)
noncomputable def AtTold (P : List Stmt → Scope → Prop) : Prop := onFn False (fun _ _ body scope => inFor (fun _ _ b _ => inFor (fun _ _ ib _ => P ib scope) (b.getD 0 (.Pass default))) (body.getD 9 (.Pass default))) (stm 50)
theorem part_at {ps : List (List Nat × Tok)} {nm : List Nat} {D : List (PyData × PyData)} (h : ps.map (·.1) = nm.map (partL D)) {i : Nat} {v : Value} (hv : (txs ps)[i]? = some v) : ∃ c t, nm[i]? = some c ∧ v = .str (T (partL D c)) t := by
  unfold txs at hv
  rw [List.getElem?_map] at hv
  cases hq : ps[i]? with
  | none => rw [hq] at hv; cases hv
  | some q =>
    rw [hq] at hv
    have h1 : (ps.map (·.1))[i]? = some q.1 := by rw [List.getElem?_map, hq]; rfl
    rw [h, List.getElem?_map] at h1
    cases hn : nm[i]? with
    | none => rw [hn] at h1; cases h1
    | some c =>
      rw [hn] at h1
      have e : partL D c = q.1 := Option.some.inj h1
      exact ⟨c, q.2, rfl, by rw [e]; exact (Option.some.inj hv).symm⟩
theorem sing_flat (l : List Nat) : (l.map fun c => [c]).flatten = l := by
  induction l with
  | nil => rfl
  | cons x r ih => simp [ih]
inductive ToldQ (W : Wd) (φ g g' : Gr) (L I2 I TO SA PA : Addr) (o2 o : Obj) (v0 v2 v3 v4 v5 v6 v7 v8 v9 v15 : Option Value) (ky pt xx : List Nat) (tk tp : Tok) (qs : List (List Nat × Tok)) : Flow → Shared → Prop
  | mk (g2 : Gr) (new : List (Addr × Obj)) (v14 : Option Value) (tq : Tok) (n3 : Nat) (s' : Shared) (hs : Sub g' g2) (S : St W φ g nmsA g2 L [v0, some (.ref SA), v2, v3, v4, v5, v6, v7, v8, v9, some (.ref TO), some (.ref PA), some (.str (T ky) tk), some (.str (T pt) tp), v14, v15] (new ++ [(I2, o2), (I, o), (TO, lst (txs (qs ++ [(xx, tq)])) n3)]) s') : ToldQ W φ g g' L I2 I TO SA PA o2 o v0 v2 v3 v4 v5 v6 v7 v8 v9 v15 ky pt xx tk tp qs .next s'
set_option maxHeartbeats 8000000 in
theorem w_told_f {φ g : Gr} {L : Addr} {cd : Value} {t21 : Tb} {D : List (PyData × PyData)} (hA : Rm 6 A) (G : Gl W f) (B : Lb W) (TE : TrEnv W f t21 D) : AtTold fun body scope => ∀ {g' : Gr} {I2 I TO SA PA pa : Addr} {o2 o : Obj} {n n2 : Nat} {rest : List Value} {qs : List (List Nat × Tok)} {v0 v2 v3 v4 v5 v6 v7 v8 v9 v14 v15 : Option Value} {nm fo : List Nat} {tk tp t1 t2 : Tok} {s : Shared},
    St W φ g nmsA g' L [v0, some (.ref SA), v2, v3, v4, v5, v6, v7, v8, v9, some (.ref TO), some (.ref PA), some (.str (T [102]) tk), some (.str (T (spellL nm)) tp), v14, v15] [(I2, o2), (I, o), (TO, lst (txs qs) n)] s →
    g' PA = some (lst (.ref pa :: rest) n2) → g' pa = some (tup [.str (T [105, 110]) t1, .str (T fo) t2]) → nm.length ≤ 70 → (∀ c ∈ nm, c ∈ alph) → (∀ r, nm ≠ 47 :: r) → fo.length ≤ 70 → qs.length ≤ 60 →
    wpAny (model PP W.w) (A.deeper (envOf "law" scope L (f 50) cd)) (execs body (envOf "law" scope L (f 50) cd)) (ToldQ W φ g g' L I2 I TO SA PA o2 o v0 v2 v3 v4 v5 v6 v7 v8 v9 v15 [102] (spellL nm) (joinP fo nm) tk tp qs) NoE s := by
  intro g' I2 I TO SA PA pa o2 o n n2 rest qs v0 v2 v3 v4 v5 v6 v7 v8 v9 v14 v15 nm fo tk tp t1 t2 s S hPA hpa hn hal h47 hfo hql
  obtain ⟨ht, hcd, hF, hP, hTab, hD⟩ := TE
  walk_at "go"
  refine w_translate_ (p := []) (pv := []) (Rm.le (hA.deeper _) (by walk_at "o")) (St.rdy (by assumption)) G B ht hcd hF hP (.inl ⟨rfl, rfl⟩) hn hTab (hD.hl hal) fun v g2 s' F hv => ?_
  obtain ⟨R, ps, m, hR, hps⟩ := hv
  have S := St.back (by assumption) F
  replace hPA := F.sub _ _ hPA
  replace hpa := F.sub _ _ hpa
  have hpl : ps.length = nm.length := by have := congrArg List.length hps; simpa using this
  walk_at "go"
  refine it_list (by assumption) (St.gh (by walk_at "S") _ _ hR) rfl ?_
  intro I3 o3 s₂ hI3 S
  refine comp_run (fun i g3 ys => Sub g2 g3 ∧ ∃ rs, ys = txs rs ∧ rs.map (·.1) = (nm.take i).map fun c => [c]) (n := ([] ++ txs ps).length) (P := fun i v => ([] ++ txs ps)[i]? = some v) (C := fun g => ∃ n, g R = some (lst ([] ++ txs ps) n)) S rfl (fun φ' _ => Nx.of_g (hA.deeper _).1 φ') (fun i g2 ys h => ⟨_, h.1 _ _ hR⟩) hI3 ⟨.refl _, [], rfl, rfl⟩ rfl rfl (by decide) (by simp [txs]; walk_at "o") (fun _ => rfl) ?_ ?_
  · rintro i g3 ys φ' L' vv cenv s' mu' hi ⟨hg3, rs, rfl, hrs⟩ hvv hφ hgg rfl hyl S
    obtain ⟨c, tc, hc, rfl⟩ := part_at hps hvv
    walk_at "1"
    refine wpAny_pure ⟨fun _ => ?_, fun h => by cases h⟩
    walk_at "go"
    refine w_sign (Rm.le (hA.deeper _) (by walk_at "o")) (St.rdy (by assumption)) G (hal c (List.mem_of_getElem? hc)) hD fun v g4 s' F2 hv2 => ?_
    obtain ⟨ts, rfl⟩ := hv2
    have S := St.back (by assumption) F2
    (repeat walk_at "kn"); refine ⟨_, [], _, hgg.trans F2.sub, rfl, S, hg3.trans F2.sub, rs ++ [([c], ts)], txs_snoc _ _ _, ?_⟩
    rw [List.map_append, hrs, take_snoc hc, List.map_append]; rfl
  · rintro g3 ys D3 m3 s' hgg hyl ⟨hg3, rs, rfl, hrs⟩ S
    have hrs : rs.map (·.1) = nm.map fun c => [c] := by rw [hrs, List.take_of_length_le (by simp [txs]; walk_at "o")]
    have hj : joinL [] (rs.map (·.1)) = nm := by rw [joinL_nil, hrs, sing_flat]
    walk_at "go"
    refine s_join (sep := []) (ps := rs) (by assumption) (by walk_at "hp") rfl (by
      have h1 : ((rs.map (·.1)).map List.length).sum = nm.length := by rw [← List.length_flatten, hrs, sing_flat]
      show ((rs.map (·.1)).map List.length).sum + _ ≤ _
      rw [h1, List.length_nil, Nat.mul_zero]; walk_at "o") ?_
    intro tj s' S
    rw [hj]
    walk_at "go"
    refine w_join (Rm.le (hA.deeper _) (by walk_at "o")) (St.rdy (by assumption)) G (by walk_at "o") (by walk_at "o") h47 fun v g4 s' F2 hv2 => ?_
    obtain ⟨tq, rfl⟩ := hv2
    have S := St.back (by assumption) F2
    walk_at "go"
    refine append3 (by assumption) (by simp only [txs, List.length_map]; walk_at "o") fun s' S => ?_
    walk_at "go"
    rw [txs_snoc] at S
    exact ⟨_, [_], _, tq, _, _, hgg.trans F2.sub |> F.sub.trans, S⟩
end
end
section
open PySem PySem.Calls PyProof.Rows PySem.Spec PySem.W PySem.Builtin.Str
section
variable {W : Wd} {f : Nat → Addr} {g : Gr} {s : Shared} {A : Around} {Q : Value → Shared → Prop}
set_option linter.unusedVariables false
set_option maxHeartbeats 8000000 in
theorem w_told_m {φ g : Gr} {L : Addr} {cd : Value} {t21 : Tb} {D : List (PyData × PyData)} (hA : Rm 6 A) (G : Gl W f) (B : Lb W) (TE : TrEnv W f t21 D) : AtTold fun body scope => ∀ {g' : Gr} {I2 I TO SA PA : Addr} {o2 o : Obj} {n : Nat} {qs : List (List Nat × Tok)} {v0 v2 v3 v4 v5 v6 v7 v8 v9 v14 v15 : Option Value} {nm : List Nat} {tk tp : Tok} {s : Shared},
    St W φ g nmsA g' L [v0, some (.ref SA), v2, v3, v4, v5, v6, v7, v8, v9, some (.ref TO), some (.ref PA), some (.str (T [109]) tk), some (.str (T ([42] ++ spellL nm)) tp), v14, v15] [(I2, o2), (I, o), (TO, lst (txs qs) n)] s →
    nm.length ≤ 70 → (∀ c ∈ nm, c ∈ alph) → qs.length ≤ 60 →
    wpAny (model PP W.w) (A.deeper (envOf "law" scope L (f 50) cd)) (execs body (envOf "law" scope L (f 50) cd)) (ToldQ W φ g g' L I2 I TO SA PA o2 o v0 v2 v3 v4 v5 v6 v7 v8 v9 v15 [109] ([42] ++ spellL nm) nm tk tp qs) NoE s := by
  intro g' I2 I TO SA PA o2 o n qs v0 v2 v3 v4 v5 v6 v7 v8 v9 v14 v15 nm tk tp s S hn hal hql
  obtain ⟨ht, hcd, hF, hP, hTab, hD⟩ := TE
  walk_at "go"
  refine w_translate_ (p := [42]) (pv := [.ref SA]) (Rm.le (hA.deeper _) (by walk_at "o")) (St.rdy (by assumption)) G B ht hcd hF hP (.inr ⟨rfl, rfl⟩) hn hTab (hD.hl hal) fun v g2 s' F hv => ?_
  obtain ⟨R, ps, m, hR, hps⟩ := hv
  have S := St.back (by assumption) F
  have hpl : ps.length = nm.length := by have := congrArg List.length hps; simpa using this
  walk_at "go"
  refine e_nil (hA.deeper _) (St.gh (by walk_at "S") _ _ hR) rfl (by walk_at "hp") rfl ?_
  walk_at "go"
  refine wpAny_isNot_ref_self ?_
  walk_at "go"
  refine w_translate (Rm.le (hA.deeper _) (by walk_at "o")) (St.rdy (by assumption)) G B ht hcd hF hP hn hTab (hD.hl hal) fun v g3 s' F2 hv2 => ?_
  obtain ⟨tj, rfl⟩ := hv2
  have S := St.back (by assumption) F2
  have hR3 := F2.sub _ _ hR
  walk_at "go"
  refine sl_from (by assumption) (St.gh (by walk_at "S") _ _ hR3) (by simp [txs]; walk_at "o") (by with_unfolding_all rfl) ?_
  intro R2 g4 s' hg4 hR2 S
  have hR2 : g4 R2 = some (lst (txs ps) 0) := hR2
  walk_at "go"
  have hpsum : ((ps.map (·.1)).map (·.length)).sum ≤ 4 * nm.length := by
    rw [hps]
    have : ∀ l : List Nat, ((l.map (partL D)).map (·.length)).sum ≤ 4 * l.length := by
      intro l
      induction l with
      | nil => simp
      | cons c r ih =>
        have h1 : (partL D c).length ≤ 4 := by unfold partL; split <;> split <;> simp
        simp only [List.map_cons, List.sum_cons, List.length_cons]; walk_at "o"
    exact this nm
  refine s_join (sep := []) (ps := ps) (by assumption) (St.gh (by walk_at "S") _ _ hR2) rfl (by simp only [List.length_nil, Nat.mul_zero]; walk_at "o") ?_
  intro tj2 s' S
  rw [joinL_nil, hps]
  have hfl : ((nm.map (partL D)).flatten).length ≤ 280 := by
    rw [List.length_flatten, ← hps]; show ((ps.map (·.1)).map (·.length)).sum ≤ 280; walk_at "o"
  walk_at "go"
  refine ⟨fun h => ?_, fun _ => ?_⟩
  · exfalso
    simp [jtpL] at h
  have hR5 := hg4 _ _ hR3
  show wpAny _ _ _ _ _ _
  walk_at "go"
  refine sl_from (by assumption) (St.gh (by walk_at "S") _ _ hR5) (by simp [txs]; walk_at "o") (by with_unfolding_all rfl) ?_
  intro R6 g6 s' hg6 hR6 S
  have hR6 : g6 R6 = some (lst (txs ps) 0) := hR6
  walk_at "go"
  refine it_list (by assumption) (St.gh (by walk_at "S") _ _ hR6) rfl ?_
  intro I3 o3 s₂ hI3 S
  refine comp_run (fun i g3 ys => Sub g6 g3 ∧ ∃ rs, ys = txs rs ∧ rs.map (·.1) = (nm.take i).map fun c => [c]) S rfl (fun φ' _ => Nx.of_g (hA.deeper _).1 φ') (fun i g2 ys h => ⟨_, h.1 _ _ hR6⟩) hI3 ⟨.refl _, [], rfl, rfl⟩ rfl rfl (by decide) (by simp [txs]; walk_at "o") (fun _ => rfl) ?_ ?_
  · rintro i g3 ys φ' L' vv cenv s' mu' hi ⟨hg3, rs, rfl, hrs⟩ hvv hφ hgg rfl hyl S
    obtain ⟨c, tc, hc, rfl⟩ := part_at hps hvv
    walk_at "1"
    refine wpAny_pure ⟨fun _ => ?_, fun h => by cases h⟩
    walk_at "go"
    refine w_sign (Rm.le (hA.deeper _) (by walk_at "o")) (St.rdy (by assumption)) G (hal c (List.mem_of_getElem? hc)) hD fun v g4 s' F2 hv2 => ?_
    obtain ⟨ts, rfl⟩ := hv2
    have S := St.back (by assumption) F2
    (repeat walk_at "kn"); refine ⟨_, [], _, hgg.trans F2.sub, rfl, S, hg3.trans F2.sub, rs ++ [([c], ts)], txs_snoc _ _ _, ?_⟩
    rw [List.map_append, hrs, take_snoc hc, List.map_append]; rfl
  · rintro g3 ys D3 m3 s' hgg hyl ⟨hg3, rs, rfl, hrs⟩ S
    have hrs : rs.map (·.1) = nm.map fun c => [c] := by rw [hrs, List.take_of_length_le (by simp [txs]; walk_at "o")]
    have hj : joinL [] (rs.map (·.1)) = nm := by rw [joinL_nil, hrs, sing_flat]
    walk_at "go"
    refine s_join (sep := []) (ps := rs) (by assumption) (by walk_at "hp") rfl (by
      have h1 : ((rs.map (·.1)).map List.length).sum = nm.length := by rw [← List.length_flatten, hrs, sing_flat]
      show ((rs.map (·.1)).map List.length).sum + _ ≤ _
      rw [h1, List.length_nil, Nat.mul_zero]; walk_at "o") ?_
    intro tj s' S
    rw [hj]
    walk_at "go"
    refine append4 (by assumption) (by simp only [txs, List.length_map]; walk_at "o") fun s' S => ?_
    walk_at "go"
    rw [txs_snoc] at S
    exact ⟨_, [_, _], _, _, _, _, F.sub.trans (F2.sub.trans (hg4.trans (hg6.trans hgg))), S⟩
end
end
section
open PySem PySem.Calls PyProof.Rows PySem.Spec PySem.W PySem.Builtin.Str
section
variable {W : Wd} {f : Nat → Addr} {g : Gr} {s : Shared} {A : Around} {Q : Value → Shared → Prop}
set_option linter.unusedVariables false
noncomputable abbrev It := Bool × List Nat
noncomputable def toKV (it : It) : KV := if it.1 then ([109], [42] ++ spellL it.2) else ([102], spellL it.2)
noncomputable def say (fo : List Nat) (it : It) : List Nat := if it.1 then it.2 else joinP fo it.2
noncomputable def gL (g : List Nat × List It) : List KV := ([105, 110], g.1) :: g.2.map toKV
noncomputable def tellG (g : List Nat × List It) : List (List Nat) := g.2.map (say g.1)
noncomputable def ItOk (it : It) : Prop := it.2.length ≤ 70 ∧ (∀ c ∈ it.2, c ∈ alph) ∧ (it.1 = false → ∀ r, it.2 ≠ 47 :: r)
noncomputable def GsOk (gs : List (List Nat × List It)) : Prop := gs.length ≤ 5 ∧ ∀ g ∈ gs, g.1.length ≤ 70 ∧ g.2.length ≤ 10 ∧ ∀ it ∈ g.2, ItOk it
theorem tell_len {gs : List (List Nat × List It)} (h : ∀ g ∈ gs, g.2.length ≤ 10) : (gs.flatMap tellG).length ≤ 10 * gs.length := by
  induction gs with
  | nil => simp
  | cons x r ih =>
    have h1 := h x (.head _)
    have h2 := ih fun y hy => h y (.tail _ hy)
    simp only [List.flatMap_cons, List.length_append, List.length_cons, tellG, List.length_map] at *
    walk_at "o"
inductive L2Q (W : Wd) (φ g g' : Gr) (L : Addr) (v0 : Option Value) (SA : Addr) (v2 v3 v4 v5 v6 v7 v8 : Option Value) (RD TO : Addr) (v15 : Option Value) (ls : List (List Nat)) : Flow → Shared → Prop
  | mk (g2 : Gr) (v11 v12 v13 v14 : Option Value) (qs : List (List Nat × Tok)) (n1 : Nat) (s' : Shared) (hs : Sub g' g2) (S : St W φ g nmsA g2 L [v0, some (.ref SA), v2, v3, v4, v5, v6, v7, v8, some (.ref RD), some (.ref TO), v11, v12, v13, v14, v15] [(TO, lst (txs qs) n1)] s') (e : qs.map (·.1) = ls) : L2Q W φ g g' L v0 SA v2 v3 v4 v5 v6 v7 v8 RD TO v15 ls .next s'
inductive L2J (g' : Gr) (v0 : Option Value) (SA : Addr) (v2 v3 v4 v5 v6 v7 v8 : Option Value) (RD TO : Addr) (v15 : Option Value) (gs : List (List Nat × List It)) (i : Nat) (g2 : Gr) : List (Option Value) → List (Addr × Obj) → Prop
  | mk (h : Sub g' g2) (v11 v12 v13 v14 : Option Value) (qs : List (List Nat × Tok)) (n1 : Nat) (e : qs.map (·.1) = (gs.take i).flatMap tellG) : L2J g' v0 SA v2 v3 v4 v5 v6 v7 v8 RD TO v15 gs i g2 [v0, some (.ref SA), v2, v3, v4, v5, v6, v7, v8, some (.ref RD), some (.ref TO), v11, v12, v13, v14, v15] [(TO, lst (txs qs) n1)]
theorem L2J.sub {g' g2 : Gr} {v0 : Option Value} {SA : Addr} {v2 v3 v4 v5 v6 v7 v8 : Option Value} {RD TO : Addr} {v15 : Option Value} {gs : List (List Nat × List It)} {i : Nat} {vals : List (Option Value)} {mu : List (Addr × Obj)} : L2J g' v0 SA v2 v3 v4 v5 v6 v7 v8 RD TO v15 gs i g2 vals mu → Sub g' g2 := fun x => by cases x; assumption
inductive L2K (g3 : Gr) (v0 : Option Value) (SA : Addr) (v2 v3 v4 v5 v6 v7 v8 : Option Value) (RD TO : Addr) (v15 : Option Value) (PA I : Addr) (o : Obj) (l0 : List (List Nat)) (its : List It) (fo : List Nat) (j : Nat) (g4 : Gr) : List (Option Value) → List (Addr × Obj) → Prop
  | mk (h : Sub g3 g4) (v12 v13 v14 : Option Value) (qs' : List (List Nat × Tok)) (n3 : Nat) (e : qs'.map (·.1) = l0 ++ (its.take j).map (say fo)) : L2K g3 v0 SA v2 v3 v4 v5 v6 v7 v8 RD TO v15 PA I o l0 its fo j g4 [v0, some (.ref SA), v2, v3, v4, v5, v6, v7, v8, some (.ref RD), some (.ref TO), some (.ref PA), v12, v13, v14, v15] [(I, o), (TO, lst (txs qs') n3)]
theorem L2K.sub {g3 g4 : Gr} {v0 : Option Value} {SA : Addr} {v2 v3 v4 v5 v6 v7 v8 : Option Value} {RD TO : Addr} {v15 : Option Value} {PA I : Addr} {o : Obj} {l0 : List (List Nat)} {its : List It} {fo : List Nat} {j : Nat} {vals : List (Option Value)} {mu : List (Addr × Obj)} : L2K g3 v0 SA v2 v3 v4 v5 v6 v7 v8 RD TO v15 PA I o l0 its fo j g4 vals mu → Sub g3 g4 := fun x => by cases x; assumption
set_option maxHeartbeats 8000000 in
theorem w_law_L2 {φ g : Gr} {L : Addr} {cd : Value} {t21 : Tb} {D : List (PyData × PyData)} (hA : Rm 6 A) (G : Gl W f) (B : Lb W) (TE : TrEnv W f t21 D) : AtFor 9 fun t it b pos scope => ∀ {g' : Gr} {RD TO SA : Addr} {vs : List Value} {gs : List (List Nat × List It)} {n n0 : Nat} {v0 v2 v3 v4 v5 v6 v7 v8 v11 v12 v13 v14 v15 : Option Value} {s : Shared},
    St W φ g nmsA g' L [v0, some (.ref SA), v2, v3, v4, v5, v6, v7, v8, some (.ref RD), some (.ref TO), v11, v12, v13, v14, v15] [(TO, lst [] n0)] s → g' RD = some (lst vs n) → All2 (ListAt g') vs (gs.map gL) → GsOk gs →
    wpAny (model PP W.w) (A.deeper (envOf "law" scope L (f 50) cd)) (exec (.For t it b [] pos) (envOf "law" scope L (f 50) cd)) (L2Q W φ g g' L v0 SA v2 v3 v4 v5 v6 v7 v8 RD TO v15 (gs.flatMap tellG)) NoE s := by
  intro g' RD TO SA vs gs n n0 v0 v2 v3 v4 v5 v6 v7 v8 v11 v12 v13 v14 v15 s S hRD hvs hgs
  have hvl : vs.length = gs.length := by have := hvs.len; simpa using this
  walk_at "go"
  refine it_list (by assumption) (St.gh (by walk_at "S") _ _ hRD) rfl ?_
  intro I o s₂ hI S
  refine for_loop (L2J g' v0 SA v2 v3 v4 v5 v6 v7 v8 RD TO v15 gs) (Nx.of_g (hA.deeper _).1 _) (fun i g3 vals mu h => ⟨_, h.sub _ _ hRD⟩) hI S ⟨.refl _, _, _, _, _, [], _, rfl⟩ (fun _ => rfl) ?_ ?_
  · rintro i g2 vals mu v s o hi ⟨hg2, v11, v12, v13, v14, qs, n1, hqs⟩ hv S
    obtain ⟨ls, hls, PA, ws, pn, rfl, hPA, hws⟩ := hvs.get i v hv
    rw [List.getElem?_map] at hls
    obtain ⟨⟨fo, its⟩, hgi, e⟩ := Option.map_eq_some_iff.mp hls
    subst e
    obtain ⟨hfo, hil, hit⟩ : fo.length ≤ 70 ∧ its.length ≤ 10 ∧ ∀ it ∈ its, ItOk it := hgs.2 _ (List.mem_of_getElem? hgi)
    have hql : qs.length ≤ 40 := by
      have h1 := congrArg List.length hqs
      have h2 := tell_len (gs := gs.take i) fun g hg => (hgs.2 g (List.mem_of_mem_take hg)).2.1
      have h3 := hgs.1
      simp only [List.length_map, List.length_take] at h1 h2
      walk_at "o"
    have hws : All2 (PairAt g') ws (([105, 110], fo) :: its.map toKV) := hws
    cases hws with
    | cons hp hrest =>
      rename_i w rest
      obtain ⟨pa, ta, tb, rfl, hpa⟩ := hp
      replace hPA := hg2 _ _ hPA
      replace hpa := hg2 _ _ hpa
      have hrl : rest.length = its.length := by have := hrest.len; simpa using this
      walk_at "go"
      refine sl_from (by assumption) (St.gh (by walk_at "S") _ _ hPA) (by simp [hrl]; walk_at "o") (by with_unfolding_all rfl) ?_
      intro R3 g3 s' hg3 hR3 S
      have hR3 : g3 R3 = some (lst rest 0) := hR3
      replace hPA := hg3 _ _ hPA
      replace hpa := hg3 _ _ hpa
      walk_at "go"
      refine it_list S (S.gh _ _ hR3) rfl ?_
      intro I2 o2 s₂ hI2 S
      refine for_loopT (L2K g3 v0 SA v2 v3 v4 v5 v6 v7 v8 RD TO v15 PA I o (qs.map (·.1)) its fo) (Nx.of_g (hA.deeper _).1 _) (fun j g4 vals mu h => ⟨_, h.sub _ _ hR3⟩) hI2 S ⟨.refl _, _, _, _, qs, _, by simp⟩ (fun j v hv => by obtain ⟨p, hp, ta, tk, tv, rfl, hta⟩ := hrest.get j v hv; exact ⟨_, rfl⟩) ?_ ?_
      · rintro j g4 vals mu v s o2 hj ⟨hg4, v12, v13, v14, qs', n3, hqs'⟩ hv S
        obtain ⟨p, hp, qa, tk, tv, rfl, hqa⟩ := hrest.get j v hv
        rw [List.getElem?_map] at hp
        obtain ⟨⟨b, nm⟩, hij, e⟩ := Option.map_eq_some_iff.mp hp
        subst e
        obtain ⟨hn70, hal, h47⟩ : nm.length ≤ 70 ∧ (∀ c ∈ nm, c ∈ alph) ∧ (b = false → ∀ r, nm ≠ 47 :: r) := hit _ (List.mem_of_getElem? hij)
        have hql' : qs'.length ≤ 60 := by
          have h1 := congrArg List.length hqs'
          simp only [List.length_map, List.length_take, List.length_append] at h1
          walk_at "o"
        replace hqa := hg4 _ _ (hg3 _ _ (hg2 _ _ hqa))
        replace hPA := hg4 _ _ hPA
        replace hpa := hg4 _ _ hpa
        cases b with
        | false =>
          have hqa : g4 qa = some (tup [.str (T [102]) tk, .str (T (spellL nm)) tv]) := hqa
          repeat ((fail_if_success (with_reducible show wpAny _ _ (execs _ _) _ _ _)); walk_at "1")
          refine wpAny_mono (w_told_f (f := f) hA G B TE (by assumption) hPA hpa hn70 hal (h47 rfl) hfo hql') (fun fl s' hq => ?_) fun _ _ x => x
          obtain ⟨g5, new, v14', tq, n5, _, hg5, S⟩ := hq
          have S := S.dropPre
          (repeat walk_at "kn"); refine ⟨_, _, [(I, o), (TO, _)], [], S, hg4.trans hg5, _, _, _, _, _, ?_⟩
          rw [List.map_append, hqs', take_snoc hij, List.map_append, List.append_assoc]; rfl
        | true =>
          have hqa : g4 qa = some (tup [.str (T [109]) tk, .str (T ([42] ++ spellL nm)) tv]) := hqa
          repeat ((fail_if_success (with_reducible show wpAny _ _ (execs _ _) _ _ _)); walk_at "1")
          refine wpAny_mono (w_told_m (f := f) hA G B TE (by assumption) hn70 hal hql') (fun fl s' hq => ?_) fun _ _ x => x
          obtain ⟨g5, new, v14', tq, n5, _, hg5, S⟩ := hq
          have S := S.dropPre
          (repeat walk_at "kn"); refine ⟨_, _, [(I, o), (TO, _)], [], S, hg4.trans hg5, _, _, _, _, _, ?_⟩
          rw [List.map_append, hqs', take_snoc hij, List.map_append, List.append_assoc]; rfl
      · rintro g4 vals mu s ⟨hg4, v12, v13, v14, qs', n3, hqs'⟩ S
        walk_at "go"
        refine ⟨_, _, [(TO, _)], [], S, hg2.trans (hg3.trans hg4), _, _, _, _, _, _, ?_⟩
        have ej : its.take rest.length = its := List.take_of_length_le (by walk_at "o")
        rw [hqs', hqs, take_snoc hgi, List.flatMap_append, ej]
        simp [tellG]
  · rintro g2 vals mu s ⟨hg2, v11, v12, v13, v14, qs, n1, hqs⟩ S
    rw [List.take_of_length_le (by walk_at "o")] at hqs
    exact ⟨g2, _, _, _, _, qs, _, _, hg2, S, hqs⟩
end
end
section
open PySem PySem.Calls PyProof.Rows PySem.Spec PySem.W PySem.Builtin.Str
section
variable {W : Wd} {f : Nat → Addr} {g : Gr} {s : Shared} {A : Around} {Q : Value → Shared → Prop}
set_option linter.unusedVariables false
noncomputable def dueC (c : Cut) : List (List Nat) := [joinP c.1 c.2.1, c.2.2]
noncomputable def dueG (cs : List Cut) (fo : List Nat) : List (List Nat) := (cs.filter (fun c => c.1 == fo)).flatMap dueC
theorem due_len (cs : List Cut) (fo : List Nat) : (dueG cs fo).length ≤ 2 * cs.length := by
  unfold dueG
  induction cs with
  | nil => simp
  | cons c r ih =>
    rw [List.filter_cons]
    split
    · simp only [List.flatMap_cons, List.length_append, List.length_cons, dueC, List.length_nil] at *; walk_at "o"
    · simp only [List.length_cons]; walk_at "o"
theorem due_all {cs : List Cut} {gs : List (List Nat × List It)} : (gs.flatMap fun g => dueG cs g.1).length ≤ 2 * cs.length * gs.length := by
  induction gs with
  | nil => simp
  | cons x r ih =>
    have := due_len cs x.1
    simp only [List.flatMap_cons, List.length_append, List.length_cons, Nat.mul_add, Nat.mul_one] at *
    walk_at "o"
inductive L3Q (W : Wd) (φ g g' : Gr) (L : Addr) (v0 v1 : Option Value) (CU : Addr) (v3 : Option Value) (LI : Addr) (v8 v9 v10 v12 v13 v14 : Option Value) (DU : Addr) (ls : List (List Nat)) : Flow → Shared → Prop
  | mk (g2 : Gr) (v4 v5 v6 v11 : Option Value) (qs : List (List Nat × Tok)) (n1 : Nat) (s' : Shared) (hs : Sub g' g2) (S : St W φ g nmsA g2 L [v0, v1, some (.ref CU), v3, v4, v5, v6, some (.ref LI), v8, v9, v10, v11, v12, v13, v14, some (.ref DU)] [(DU, lst (txs qs) n1)] s') (e : qs.map (·.1) = ls) : L3Q W φ g g' L v0 v1 CU v3 LI v8 v9 v10 v12 v13 v14 DU ls .next s'
inductive L3J (g' : Gr) (v0 v1 : Option Value) (CU : Addr) (v3 : Option Value) (LI : Addr) (v8 v9 v10 v12 v13 v14 : Option Value) (DU : Addr) (cs : List Cut) (gs : List (List Nat × List It)) (i : Nat) (g2 : Gr) : List (Option Value) → List (Addr × Obj) → Prop
  | mk (h : Sub g' g2) (v4 v5 v6 v11 : Option Value) (qs : List (List Nat × Tok)) (n1 : Nat) (e : qs.map (·.1) = (gs.take i).flatMap fun g => dueG cs g.1) : L3J g' v0 v1 CU v3 LI v8 v9 v10 v12 v13 v14 DU cs gs i g2 [v0, v1, some (.ref CU), v3, v4, v5, v6, some (.ref LI), v8, v9, v10, v11, v12, v13, v14, some (.ref DU)] [(DU, lst (txs qs) n1)]
theorem L3J.sub {g' g2 : Gr} {v0 v1 : Option Value} {CU : Addr} {v3 : Option Value} {LI : Addr} {v8 v9 v10 v12 v13 v14 : Option Value} {DU : Addr} {cs : List Cut} {gs : List (List Nat × List It)} {i : Nat} {vals : List (Option Value)} {mu : List (Addr × Obj)} : L3J g' v0 v1 CU v3 LI v8 v9 v10 v12 v13 v14 DU cs gs i g2 vals mu → Sub g' g2 := fun x => by cases x; assumption
inductive L3K (g2 : Gr) (v0 v1 : Option Value) (CU : Addr) (v3 : Option Value) (LI : Addr) (v8 v9 v10 v12 v13 v14 : Option Value) (DU : Addr) (PA I : Addr) (o : Obj) (l0 : List (List Nat)) (cs : List Cut) (fo : List Nat) (j : Nat) (g4 : Gr) : List (Option Value) → List (Addr × Obj) → Prop
  | mk (h : Sub g2 g4) (v4 v5 v6 : Option Value) (qs' : List (List Nat × Tok)) (n3 : Nat) (e : qs'.map (·.1) = l0 ++ dueG (cs.take j) fo) : L3K g2 v0 v1 CU v3 LI v8 v9 v10 v12 v13 v14 DU PA I o l0 cs fo j g4 [v0, v1, some (.ref CU), v3, v4, v5, v6, some (.ref LI), v8, v9, v10, some (.ref PA), v12, v13, v14, some (.ref DU)] [(I, o), (DU, lst (txs qs') n3)]
theorem L3K.sub {g2 g4 : Gr} {v0 v1 : Option Value} {CU : Addr} {v3 : Option Value} {LI : Addr} {v8 v9 v10 v12 v13 v14 : Option Value} {DU : Addr} {PA I : Addr} {o : Obj} {l0 : List (List Nat)} {cs : List Cut} {fo : List Nat} {j : Nat} {vals : List (Option Value)} {mu : List (Addr × Obj)} : L3K g2 v0 v1 CU v3 LI v8 v9 v10 v12 v13 v14 DU PA I o l0 cs fo j g4 vals mu → Sub g2 g4 := fun x => by cases x; assumption
set_option maxHeartbeats 8000000 in
theorem w_law_L3 {φ g : Gr} {L : Addr} {cd : Value} (hA : Rm 6 A) (G : Gl W f) : AtFor 11 fun t it b pos scope => ∀ {g' : Gr} {LI CU DU : Addr} {vs cvs : List Value} {cs : List Cut} {gs : List (List Nat × List It)} {n nc n0 : Nat} {v0 v1 v3 v4 v5 v6 v8 v9 v10 v11 v12 v13 v14 : Option Value} {s : Shared},
    St W φ g nmsA g' L [v0, v1, some (.ref CU), v3, v4, v5, v6, some (.ref LI), v8, v9, v10, v11, v12, v13, v14, some (.ref DU)] [(DU, lst [] n0)] s → g' LI = some (lst vs n) → All2 (ListAt g') vs (gs.map gL) → gs.length ≤ 5 → g' CU = some (lst cvs nc) → All2 (CutAt g') cvs cs → cs.length ≤ 5 → (∀ c ∈ cs, c.1.length ≤ 70 ∧ c.2.1.length ≤ 70) →
    wpAny (model PP W.w) (A.deeper (envOf "law" scope L (f 50) cd)) (exec (.For t it b [] pos) (envOf "law" scope L (f 50) cd)) (L3Q W φ g g' L v0 v1 CU v3 LI v8 v9 v10 v12 v13 v14 DU (gs.flatMap fun g => dueG cs g.1)) NoE s := by
  intro g' LI CU DU vs cvs cs gs n nc n0 v0 v1 v3 v4 v5 v6 v8 v9 v10 v11 v12 v13 v14 s S hLI hvs hgl hCU hcs hcl hcn
  have hvl : vs.length = gs.length := by have := hvs.len; simpa using this
  have hcvl : cvs.length = cs.length := hcs.len
  walk_at "go"
  refine it_list (by assumption) (St.gh (by walk_at "S") _ _ hLI) rfl ?_
  intro I o s₂ hI S
  refine for_loop (L3J g' v0 v1 CU v3 LI v8 v9 v10 v12 v13 v14 DU cs gs) (Nx.of_g (hA.deeper _).1 _) (fun i g3 vals mu h => ⟨_, h.sub _ _ hLI⟩) hI S ⟨.refl _, _, _, _, _, [], _, rfl⟩ (fun _ => rfl) ?_ ?_
  · rintro i g2 vals mu v s o hi ⟨hg2, v4, v5, v6, v11, qs, n1, hqs⟩ hv S
    obtain ⟨ls, hls, PA, ws, pn, rfl, hPA, hws⟩ := hvs.get i v hv
    rw [List.getElem?_map] at hls
    obtain ⟨⟨fo, its⟩, hgi, e⟩ := Option.map_eq_some_iff.mp hls
    subst e
    have hql : qs.length ≤ 40 := by
      have h1 := congrArg List.length hqs
      have h2 := due_all (cs := cs) (gs := gs.take i)
      simp only [List.length_map, List.length_take] at h1 h2
      have h3 : 2 * cs.length * min i gs.length ≤ 10 * min i gs.length := Nat.mul_le_mul_right _ (by walk_at "o")
      walk_at "o"
    have hws : All2 (PairAt g') ws (([105, 110], fo) :: its.map toKV) := hws
    cases hws with
    | cons hp hrest =>
      rename_i w rest
      obtain ⟨pa, ta, tb, rfl, hpa⟩ := hp
      replace hPA := hg2 _ _ hPA
      replace hpa := hg2 _ _ hpa
      replace hCU := hg2 _ _ hCU
      walk_at "go"
      refine it_list (by assumption) (St.gh (by walk_at "S") _ _ hCU) rfl ?_
      intro I2 o2 s₂ hI2 S
      refine for_loopT (L3K g2 v0 v1 CU v3 LI v8 v9 v10 v12 v13 v14 DU PA I o (qs.map (·.1)) cs fo) (Nx.of_g (hA.deeper _).1 _) (fun j g4 vals mu h => ⟨_, h.sub _ _ hCU⟩) hI2 S ⟨.refl _, _, _, _, qs, _, by simp [dueG]⟩ (fun j v hv => by obtain ⟨p, hp, ta, t1, t2, t3, rfl, hta⟩ := hcs.get j v hv; exact ⟨_, rfl⟩) ?_ ?_
      · rintro j g4 vals mu v s o2 hj ⟨hg4, v4, v5, v6, qs', n3, hqs'⟩ hv S
        obtain ⟨c, hc, qa, t1, t2, t3, rfl, hqa⟩ := hcs.get j v hv
        obtain ⟨hc1, hc2⟩ := hcn _ (List.mem_of_getElem? hc)
        have hql' : qs'.length ≤ 60 := by
          have h1 := congrArg List.length hqs'
          have h2 := due_len (cs.take j) fo
          simp only [List.length_map, List.length_take, List.length_append] at h1 h2
          walk_at "o"
        replace hqa := hg4 _ _ (hg2 _ _ hqa)
        replace hPA := hg4 _ _ hPA
        replace hpa := hg4 _ _ hpa
        walk_at "go"
        refine ⟨fun h => ?_, fun h => ?_⟩
        · show wpAny _ _ _ _ _ _
          walk_at "go"
          refine w_law_glued (Rm.le (hA.deeper _) (by walk_at "o")) (St.rdy (by assumption)) G (by walk_at "o") (by walk_at "o") fun v g5 s' F hv => ?_
          obtain ⟨tq, rfl⟩ := hv
          have S := St.back (by assumption) F
          walk_at "go"
          rename_i NL _ _ S
          have hNL := (S.mus _ (.head _)).1
          refine l_extend [(NL, _), (I2, o2), (I, o)] S hNL (by simp [txs]; walk_at "o") fun n' s' S => ?_
          walk_at "go"
          have eT : txs qs' ++ [Value.str (T (joinP c.1 c.2.1)) tq, .str (T c.2.2) t3] = txs (qs' ++ [(joinP c.1 c.2.1, tq), (c.2.2, t3)]) := (txs_append qs' [(joinP c.1 c.2.1, tq), (c.2.2, t3)]).symm
          rw [eT] at S
          refine ⟨_, _, [(I, o), (DU, _)], [_], S, hg4.trans F.sub, _, _, _, _, _, ?_⟩
          rw [List.map_append, hqs', take_snoc hc]
          unfold dueG
          rw [List.filter_append, List.filter_cons, h]
          simp [dueC]
        · show wpAny _ _ _ _ _ _
          walk_at "go"
          rename_i S
          refine ⟨_, _, [(I, o), (DU, _)], [], S, hg4, _, _, _, _, _, ?_⟩
          rw [hqs', take_snoc hc]
          unfold dueG
          rw [List.filter_append, List.filter_cons, h]
          simp
      · rintro g4 vals mu s ⟨hg4, v4, v5, v6, qs', n3, hqs'⟩ S
        have ej : cs.take cvs.length = cs := List.take_of_length_le (by walk_at "o")
        rw [ej] at hqs'
        walk_at "go"
        refine ⟨_, _, [(DU, _)], [], S, hg2.trans hg4, _, _, _, _, _, _, ?_⟩
        rw [hqs', hqs, take_snoc hgi, List.flatMap_append]
        simp
  · rintro g2 vals mu s ⟨hg2, v4, v5, v6, v11, qs, n1, hqs⟩ S
    rw [List.take_of_length_le (by walk_at "o")] at hqs
    exact ⟨g2, _, _, _, _, qs, _, _, hg2, S, hqs⟩
end
end
section
open PySem PySem.Calls PyProof.Rows PySem.Spec PySem.W PySem.Builtin.Str
section
noncomputable def cutIt (c : Cut) : List It := [(false, c.2.1), (true, c.2.2)]
noncomputable def itsOf (cs : List Cut) (fo : List Nat) : List It := (cs.filter (fun c => c.1 == fo)).flatMap cutIt
noncomputable def gsOf (cs : List Cut) : List (List Nat × List It) := (cs.foldl addC []).map fun g => (g.1, itsOf cs g.1)
theorem cutIt_kv (cs : List Cut) : cs.flatMap cutKV = (cs.flatMap cutIt).map toKV := by
  induction cs with
  | nil => rfl
  | cons c r ih => rw [List.flatMap_cons, List.flatMap_cons, List.map_append, ih]; rfl
theorem lawLists_gs (cs : List Cut) : lawLists cs = (gsOf cs).map gL := by
  unfold lawLists gsOf
  rw [List.map_map]
  apply List.map_congr_left
  intro g hg
  have h := (inv_cuts cs).1 g hg
  show (([105, 110], g.1) :: g.2 : List KV) = ([105, 110], g.1) :: (itsOf cs g.1).map toKV
  rw [h, cutIt_kv]; rfl
theorem addC_from (cs : List Cut) : ∀ (ds : List Cut) (gs : List Gp), (∀ g ∈ gs, ∃ c ∈ cs, c.1 = g.1) → (∀ d ∈ ds, d ∈ cs) → ∀ g ∈ ds.foldl addC gs, ∃ c ∈ cs, c.1 = g.1
  | [], gs, h, _ => h
  | d :: r, gs, h, hd => by
    refine addC_from cs r (addC gs d) (fun g hg => ?_) fun x hx => hd x (.tail _ hx)
    unfold addC at hg
    split at hg
    · obtain ⟨g', hg', rfl⟩ := List.mem_map.mp hg
      split
      · exact h g' hg'
      · exact h g' hg'
    · rcases List.mem_append.mp hg with hg | hg
      · exact h g hg
      · rw [List.mem_singleton.mp hg]; exact ⟨d, hd d (.head _), rfl⟩
theorem addC_len : ∀ (ds : List Cut) (gs : List Gp), (ds.foldl addC gs).length ≤ gs.length + ds.length
  | [], gs => Nat.le_refl _
  | d :: r, gs => by
    have h := addC_len r (addC gs d)
    have : (addC gs d).length ≤ gs.length + 1 := by unfold addC; split <;> simp
    simp only [List.foldl_cons, List.length_cons]; walk_at "o"
theorem its_len (cs : List Cut) (fo : List Nat) : (itsOf cs fo).length ≤ 2 * cs.length := by
  unfold itsOf
  induction cs with
  | nil => simp
  | cons c r ih =>
    rw [List.filter_cons]
    split
    · simp only [List.flatMap_cons, List.length_append, List.length_cons, cutIt, List.length_nil] at *; walk_at "o"
    · simp only [List.length_cons]; walk_at "o"
theorem cut_ok {cs : List Cut} (h : CutsOk cs) {c : Cut} (hc : c ∈ cs) : c.1.length ≤ 70 ∧ c.2.1.length ≤ 70 ∧ c.2.2.length ≤ 70 ∧ (∀ x ∈ c.1, x ∈ alph) ∧ (∀ x ∈ c.2.1, x ∈ alph) ∧ (∀ x ∈ c.2.2, x ∈ alph) ∧ ∀ r, c.2.1 ≠ 47 :: r := by
  obtain ⟨p, rfl, hp, ha⟩ := h.2.2 c hc
  have h1 := hd_len p
  have h2 := behind_len 47 p
  have h3 := endL_len (behind 47 p)
  refine ⟨by show (hd p).length ≤ 70; walk_at "o", by show (behind 47 p).length ≤ 70; walk_at "o", by show (endL (behind 47 p)).length ≤ 70; walk_at "o", fun x hx => ha x (hd_sub hx), fun x hx => ha x (behind_sub hx), fun x hx => ha x (behind_sub (endL_sub hx)), fun r e => ?_⟩
  have := behind_free 47 p
  have e : behind 47 p = 47 :: r := e
  rw [e] at this
  exact this (.head _)
theorem gs_ok {cs : List Cut} (h : CutsOk cs) : GsOk (gsOf cs) := by
  have h1 := addC_len cs []
  have h2 := h.1
  refine ⟨by unfold gsOf; rw [List.length_map]; simp only [List.length_nil] at h1; walk_at "o", fun g hg => ?_⟩
  obtain ⟨g0, hg0, rfl⟩ := List.mem_map.mp hg
  obtain ⟨c, hc, e⟩ := addC_from cs cs [] (by simp) (fun _ h => h) g0 hg0
  have hk := cut_ok h hc
  have h3 := its_len cs g0.1
  refine ⟨by rw [← e]; exact hk.1, by show (itsOf cs g0.1).length ≤ 10; walk_at "o", fun it hit => ?_⟩
  obtain ⟨d, hd, hit⟩ := List.mem_flatMap.mp hit
  have hk := cut_ok h (List.mem_filter.mp hd).1
  unfold cutIt at hit
  simp only [List.mem_cons, List.not_mem_nil, or_false] at hit
  rcases hit with rfl | rfl
  · exact ⟨hk.2.1, hk.2.2.2.2.1, fun _ => hk.2.2.2.2.2.2⟩
  · exact ⟨hk.2.2.1, hk.2.2.2.2.2.1, fun e => by cases e⟩
theorem tell_due (cs : List Cut) : (gsOf cs).flatMap tellG = (gsOf cs).flatMap fun g => dueG cs g.1 := by
  unfold gsOf
  rw [List.flatMap_map, List.flatMap_map]
  congr 1
  funext g
  show (itsOf cs g.1).map (say g.1) = dueG cs g.1
  unfold itsOf dueG
  induction cs with
  | nil => rfl
  | cons c r ih =>
    rw [List.filter_cons]
    split
    · rename_i hc
      have hc : c.1 = g.1 := by simpa using hc
      rw [List.flatMap_cons, List.flatMap_cons, List.map_append, ih]
      show [joinP g.1 c.2.1, c.2.2] ++ _ = [joinP c.1 c.2.1, c.2.2] ++ _
      rw [hc]
    · exact ih
theorem joinP_sub {x : Nat} {p q : List Nat} (h : x ∈ joinP p q) : x ∈ p ∨ x ∈ q ∨ x = 47 := by
  unfold joinP at h
  split at h
  · exact .inr (.inl h)
  · split at h
    · rcases List.mem_append.mp h with h | h
      · exact .inl h
      · exact .inr (.inl h)
    · rcases List.mem_append.mp h with h | h
      · exact .inl h
      · rcases List.mem_cons.mp h with h | h
        · exact .inr (.inr h)
        · exact .inr (.inl h)
theorem due_ok {cs : List Cut} (h : CutsOk cs) : ∀ x ∈ (gsOf cs).flatMap (fun g => dueG cs g.1), Ok x := by
  intro x hx
  obtain ⟨g, _, hx⟩ := List.mem_flatMap.mp hx
  obtain ⟨c, hc, hx⟩ := List.mem_flatMap.mp hx
  have hk := cut_ok h (List.mem_filter.mp hc).1
  unfold dueC at hx
  simp only [List.mem_cons, List.not_mem_nil, or_false] at hx
  rcases hx with rfl | rfl
  · intro y hy
    rcases joinP_sub hy with h | h | rfl
    · exact alph_ok hk.2.2.2.1 y h
    · exact alph_ok hk.2.2.2.2.1 y h
    · decide
  · exact alph_ok hk.2.2.2.2.2.1
theorem kv_ok {it : It} (h : ItOk it) : (toKV it).1.length ≤ 10 ∧ (toKV it).2.length ≤ 220 ∧ KeyOk (toKV it).1 ∧ Ok (toKV it).1 ∧ Ok (toKV it).2 := by
  have hl := spellL_len it.2
  have h70 := h.1
  have hs : Ok (spellL it.2) := by
    intro x hx
    unfold spellL at hx
    obtain ⟨l, hl, hx⟩ := List.mem_flatten.mp hx
    obtain ⟨c, hc, rfl⟩ := List.mem_map.mp hl
    have hc' := alph_ok h.2.1 c hc
    unfold spell1 at hx
    split at hx <;> simp only [List.mem_cons, List.not_mem_nil, or_false] at hx
    · rcases hx with rfl | rfl | rfl <;> first | exact hc' | decide
    · rw [hx]; exact hc'
  unfold toKV
  split
  · refine ⟨by simp, by simp; walk_at "o", ⟨by simp, by simp⟩, by intro x hx; simp at hx; walk_at "o", fun x hx => ?_⟩
    rcases List.mem_append.mp hx with hx | hx
    · simp at hx; walk_at "o"
    · exact hs x hx
  · exact ⟨by simp, by show (spellL it.2).length ≤ 220; walk_at "o", ⟨by simp, by simp⟩, by intro x hx; simp at hx; walk_at "o", hs⟩
theorem ls_ok {cs : List Cut} (h : CutsOk cs) : (gsOf cs).length ≤ 5 ∧ ∀ ps ∈ (gsOf cs).map gL, ps ≠ [] ∧ ps.length ≤ 11 ∧ ∀ p ∈ ps, p.1.length ≤ 10 ∧ p.2.length ≤ 220 ∧ KeyOk p.1 ∧ Ok p.1 ∧ Ok p.2 := by
  obtain ⟨h5, hg⟩ := gs_ok h
  refine ⟨h5, fun ps hps => ?_⟩
  obtain ⟨g, hgm, rfl⟩ := List.mem_map.mp hps
  obtain ⟨k1, k2, k3⟩ := hg g hgm
  have hfo : Ok g.1 := by
    obtain ⟨g0, hg0, rfl⟩ := List.mem_map.mp hgm
    obtain ⟨c, hc, e⟩ := addC_from cs cs [] (by simp) (fun _ h => h) g0 hg0
    rw [← e]; exact alph_ok (cut_ok h hc).2.2.2.1
  refine ⟨by unfold gL; simp, by unfold gL; simp only [List.length_cons, List.length_map]; walk_at "o", fun p hp => ?_⟩
  unfold gL at hp
  rcases List.mem_cons.mp hp with rfl | hp
  · exact ⟨by simp, by show g.1.length ≤ 220; walk_at "o", ⟨by simp, by simp⟩, by intro x hx; simp at hx; walk_at "o", hfo⟩
  · obtain ⟨it, hit, rfl⟩ := List.mem_map.mp hp
    exact kv_ok (k3 it hit)
theorem gs_ne {cs : List Cut} (h : CutsOk cs) : gsOf cs ≠ [] := by
  cases cs with
  | nil => exact absurd rfl h.2.1
  | cons c r =>
    obtain ⟨g, hg, _⟩ := (inv_cuts (c :: r)).2 c (.head _)
    intro e
    unfold gsOf at e
    rw [List.map_eq_nil_iff] at e
    rw [e] at hg; cases hg
theorem strm_len : ∀ ls : List (List KV), (∀ l ∈ ls, l.length ≤ 11) → (strm ls).length ≤ 11 * ls.length
  | [], _ => Nat.le_refl _
  | [] :: r, h => by
    have := strm_len r fun l hl => h l (.tail _ hl)
    simp only [strm, List.length_cons]; walk_at "o"
  | (p :: ps) :: r, h => by
    have h1 := strm_len r fun l hl => h l (.tail _ hl)
    have h2 := h _ (.head _)
    simp only [strm, List.length_cons, List.length_append, List.length_map, List.cons_append] at *; walk_at "o"
theorem strm_mem : ∀ (ls : List (List KV)) (q : Bool × KV), q ∈ strm ls → ∃ l ∈ ls, q.2 ∈ l
  | [], q, h => by cases h
  | [] :: r, q, h => by
    obtain ⟨l, hl, hq⟩ := strm_mem r q h
    exact ⟨l, .tail _ hl, hq⟩
  | (p :: ps) :: r, q, h => by
    simp only [strm, List.cons_append, List.mem_cons, List.mem_append, List.mem_map] at h
    rcases h with rfl | ⟨x, hx, rfl⟩ | h
    · exact ⟨_, .head _, .head _⟩
    · exact ⟨_, .head _, .tail _ hx⟩
    · obtain ⟨l, hl, hq⟩ := strm_mem r q h
      exact ⟨l, .tail _ hl, hq⟩
theorem head_len {ls : List (List KV)} (hl : ls.length ≤ 5) (h : ∀ ps ∈ ls, ps.length ≤ 11 ∧ ∀ p ∈ ps, p.1.length ≤ 10 ∧ p.2.length ≤ 220) : (headL ls).length ≤ 90000 := by
  have h1 := joinL_len [44, 32] (ls.map listL)
  have h2 : ((ls.map listL).map (·.length)).sum ≤ 9240 * ls.length := by
    rw [List.map_map]
    show (ls.map fun p => (listL p).length).sum ≤ _
    exact sum_le (fun p => (listL p).length) 9240 ls fun ps hps => (listL_len (by have := (h ps hps).1; walk_at "o") (h ps hps).2).2
  unfold headL
  simp only [List.length_map, List.length_cons, List.length_nil] at h1
  walk_at "o"
theorem header {cs : List Cut} (h : CutsOk cs) : ∃ p0 r, headL ((gsOf cs).map gL) = pairL p0 ++ restS r ∧ grS [p0] r = (gsOf cs).map gL ∧ r.length ≤ 100 ∧ (∀ p ∈ p0 :: r.map (·.2), KeyOk p.1 ∧ p.2.length ≤ 220) ∧ (pairL p0 ++ restS r).length ≤ 90000 := by
  obtain ⟨h5, hk⟩ := ls_ok h
  have hne := gs_ne h
  have hl5 : ((gsOf cs).map gL).length ≤ 5 := by rw [List.length_map]; exact h5
  have hln : (gsOf cs).map gL ≠ [] := fun e => hne (List.map_eq_nil_iff.mp e)
  generalize (gsOf cs).map gL = ls at *
  match ls, hln with
  | [] :: r, _ => exact absurd rfl (hk [] (.head _)).1
  | (p :: ps) :: r, _ =>
    have hne' : ∀ l ∈ r, l ≠ [] := fun l hl => (hk l (.tail _ hl)).1
    have e := headL_strm (p := p) (ps := ps) hne'
    refine ⟨p, _, e, ?_, ?_, ?_, ?_⟩
    · rw [grS_false, grS_strm r _ hne']; rfl
    · have h1 := strm_len r fun l hl => (hk l (.tail _ hl)).2.1
      have h2 := (hk _ (.head _)).2.1
      simp only [List.length_append, List.length_map, List.length_cons] at *; walk_at "o"
    · intro q hq
      have : ∃ l ∈ (p :: ps) :: r, q ∈ l := by
        rcases List.mem_cons.mp hq with rfl | hq
        · exact ⟨_, .head _, .head _⟩
        · obtain ⟨x, hx, rfl⟩ := List.mem_map.mp hq
          rcases List.mem_append.mp hx with hx | hx
          · obtain ⟨y, hy, rfl⟩ := List.mem_map.mp hx
            exact ⟨_, .head _, .tail _ hy⟩
          · obtain ⟨l, hl, hq⟩ := strm_mem r x hx
            exact ⟨l, .tail _ hl, hq⟩
      obtain ⟨l, hl, hq⟩ := this
      have := (hk l hl).2.2 q hq
      exact ⟨this.2.2.1, this.2.1⟩
    · rw [← e]
      exact head_len hl5 fun l hl => ⟨(hk l hl).2.1, fun q hq => ⟨((hk l hl).2.2 q hq).1, ((hk l hl).2.2 q hq).2.1⟩⟩
end
end
section
open PySem PySem.Calls PyProof.Rows PySem.Spec PySem.W PySem.Builtin.Str
section
variable {W : Wd} {f : Nat → Addr} {g : Gr} {s : Shared} {A : Around} {Q : Value → Shared → Prop}
set_option linter.unusedVariables false
noncomputable abbrev nmsS : List Str := ["header_values", "result", "text", "orig_text", "pairs", "m", "name", "value", "non_junk", "nr_junk_chars"]
noncomputable def Good (ps : List KV) : Prop := ∀ p ∈ ps, KeyOk p.1 ∧ p.2.length ≤ 220
inductive SpC (full : List (List KV)) (cur : List KV) (done : List (List KV)) : List Nat → Nat → Prop
  | a (ws : List Nat) (p : KV) (r : List (Bool × KV)) (hws : ws = [] ∨ ws = [32]) (hf : full = done ++ grS (cur ++ [p]) r) (hg : Good (p :: r.map (·.2))) (h1 : cur.length + r.length ≤ 110) (h2 : done.length + r.length ≤ 110) : SpC full cur done (ws ++ pairL p ++ restS r) (2 * r.length + 1)
  | b (r : List (Bool × KV)) (hc : cur ≠ []) (hf : full = done ++ grS cur r) (hg : Good (r.map (·.2))) (h1 : cur.length + r.length ≤ 111) (h2 : done.length + r.length ≤ 110) : SpC full cur done (restS r) (2 * r.length)
inductive SpI (W : Wd) (φ g0 : Gr) (L H RL I : Addr) (o : Obj) (full : List (List KV)) (g1 : Gr) (n : Nat) (s : Shared) : Prop
  | mk (g' : Gr) (txt : List Nat) (tt : Tok) (v3 : Option Value) (PL : Addr) (v5 v6 v7 v8 v9 : Option Value) (pvs : List Value) (n1 : Nat) (rvs : List Value) (n2 : Nat) (cur : List KV) (done : List (List KV)) (hg : Sub g1 g')
    (S : St W φ g0 nmsS g' L [some (.ref H), some (.ref RL), some (.str (T txt) tt), v3, some (.ref PL), v5, v6, v7, v8, v9] [(PL, lst pvs n1), (I, o), (RL, lst rvs n2)] s)
    (hp : All2 (PairAt g') pvs cur) (hr : All2 (ListAt g') rvs done) (hl : txt.length ≤ 90000) (h : SpC full cur done txt n) : SpI W φ g0 L H RL I o full g1 n s
noncomputable def AtSpl (P : List Stmt → Scope → Prop) : Prop := onFn False (fun _ _ body scope => inFor (fun _ _ fb _ => inWhile (fun wb => P wb scope) (fb.getD 2 (.Pass default))) (body.getD 3 (.Pass default))) (stm 10)
set_option maxHeartbeats 8000000 in
theorem w_spl_A {φ g : Gr} {L : Addr} {t10 : Tb} (hA : Rm 3 A) (G : Gl W f) (B : Lb W) (ht : t10 ∈ W.tabs) (hcd : t10.codes = cod10) (hPT : PatAt W (f 6) cTOK 1) (hPQ : PatAt W (f 7) cQUO 1) (hPV : PatAt W (f 8) cVAL 1) (hPE : PatAt W (f 9) cESC 1) :
    AtSpl fun body scope => ∀ {g1 g' : Gr} {H RL I PL : Addr} {o : Obj} {full : List (List KV)} {tt : Tok} {v3 v5 v6 v7 v8 v9 : Option Value} {pvs rvs : List Value} {n1 n2 : Nat} {cur : List KV} {done : List (List KV)} {ws : List Nat} {p : KV} {r : List (Bool × KV)} {s : Shared}, Sub g1 g' →
      St W φ g nmsS g' L [some (.ref H), some (.ref RL), some (.str (T (ws ++ pairL p ++ restS r)) tt), v3, some (.ref PL), v5, v6, v7, v8, v9] [(PL, lst pvs n1), (I, o), (RL, lst rvs n2)] s →
      All2 (PairAt g') pvs cur → All2 (ListAt g') rvs done → (ws ++ pairL p ++ restS r).length ≤ 90000 → (ws = [] ∨ ws = [32]) → full = done ++ grS (cur ++ [p]) r → Good (p :: r.map (·.2)) → cur.length + r.length ≤ 110 → done.length + r.length ≤ 110 →
      wpAny (model PP W.w) (A.deeper (envOf "split_header_words" scope L (f 10) (.ref t10.c))) (execs body (envOf "split_header_words" scope L (f 10) (.ref t10.c))) (fun fl s' => fl = .next ∧ SpI W φ g L H RL I o full g1 (2 * r.length) s') NoE s := by
  intro g1 g' H RL I PL o full tt v3 v5 v6 v7 v8 v9 pvs rvs n1 n2 cur done ws p r s hg' S hpv hrv hL hws hfull hgood hcl hdl
  have hkp := hgood p (.head _)
  obtain ⟨hk1, hk2, hk3⟩ := hkp.1.tk
  have hwsp : ∀ c ∈ ws, Unicode.isSpace c = true := by rcases hws with rfl | rfl <;> simp; rfl
  have hwl : ws.length ≤ 1 := by rcases hws with rfl | rfl <;> simp
  have etxt : ws ++ pairL p ++ restS r = ws ++ p.1 ++ (61 :: wvL p.2 ++ restS r) := by simp [pairL]
  have hL2 : (ws ++ p.1 ++ (61 :: wvL p.2 ++ restS r)).length ≤ 90000 := by rw [← etxt]; exact hL
  have hL3 := hL2
  simp only [List.length_append] at hL3
  (walk_at "zS"); rw [etxt] at S
  walk_at "go"
  refine gm_pat hPT (by assumption) sl_search ty_search ?_
  walk_at "go"
  refine c_search1 (by assumption) hPT (by walk_at "o") (tok_match hwsp hkp.1.1 hk1 hk2 (.inr ⟨61, _, rfl, tk61⟩) (by walk_at "o")) (by decide) (by walk_at "o") fun v g2 s' hg2 hM S => ?_
  walk_at "go"
  refine tr_match (by assumption) hM ?_
  walk_at "go"
  refine w_unmatched (Rm.le (hA.deeper _) (by walk_at "o")) (St.rdy (by assumption)) G hM (by walk_at "o") (by simp only [List.length_append]; walk_at "o") fun u g3 s' F3 hv => ?_
  have S := St.back (by assumption) F3
  obtain ⟨tu, rfl⟩ := hv
  have hM3 := hM.mono F3.sub
  have edr : (ws ++ p.1 ++ (61 :: wvL p.2 ++ restS r)).drop (ws.length + p.1.length) = 61 :: wvL p.2 ++ restS r := by rw [← List.length_append, List.drop_left' rfl]
  rw [edr]
  walk_at "go"
  refine gm_mat hM3 (by assumption) sl_group ty_group ?_
  walk_at "go"
  refine c_group1 (by assumption) hM3 (by walk_at "o") (by simp only [List.length_append]; walk_at "o") (by walk_at "o") fun t3 s3 S3 => ?_
  have egr : ((ws ++ p.1 ++ (61 :: wvL p.2 ++ restS r)).drop ws.length).take (ws.length + p.1.length - ws.length) = p.1 := by
    rw [List.append_assoc, List.drop_left' rfl, show ws.length + p.1.length - ws.length = p.1.length by walk_at "o", List.take_left' rfl]
  rw [egr]
  walk_at "go"
  refine gm_pat hPQ (by assumption) sl_search ty_search ?_
  walk_at "go"
  rename_i S
  have hL4 : (61 :: wvL p.2 ++ restS r).length ≤ 90000 := by simp only [List.length_append]; walk_at "o"
  cases hb : bareV p.2 with
  | true =>
    obtain ⟨b1, b2, b3, b4⟩ := bare_facts hb
    have ewv : wvL p.2 = p.2 := by unfold wvL; rw [hb]; rfl
    (walk_at "zS"); rw [ewv] at S hL4 ⊢
    obtain ⟨y, vr, hy⟩ : ∃ y vr, p.2 = y :: vr := by
      cases hq : p.2 with
      | nil => exact absurd hq b1
      | cons y vr => exact ⟨_, _, rfl⟩
    have hq0 : Ends 3000000 (Sre.forSearch cQUO (61 :: p.2 ++ restS r).toArray 1 0 (61 :: p.2 ++ restS r).length false) Failed := by
      have e : 61 :: p.2 ++ restS r = 61 :: y :: (vr ++ restS r) := by rw [hy]; rfl
      rw [e] at hL4 ⊢
      exact quo_none (b3 y (by rw [hy]; exact .head _)) (b4 y (by rw [hy]; exact .head _)) (by walk_at "o")
    refine c_search0 S hPQ (by walk_at "o") hq0 (by decide) ?_
    walk_at "go"
    refine gm_pat hPV (by assumption) sl_search ty_search ?_
    walk_at "go"
    refine c_search1 (by assumption) hPV (by walk_at "o") (val_match b1 b2 (restS_head r) (by walk_at "o")) (by decide) (by walk_at "o") fun v4 g4 s' hg4 hM4 S => ?_
    walk_at "go"
    refine tr_match (by assumption) hM4 ?_
    walk_at "go"
    refine w_unmatched (Rm.le (hA.deeper _) (by walk_at "o")) (St.rdy (by assumption)) G hM4 (by walk_at "o") (by simp; walk_at "o") fun u g5 s' F5 hv => ?_
    have S := St.back (by assumption) F5
    obtain ⟨tu5, rfl⟩ := hv
    have hM5 := hM4.mono F5.sub
    have edr2 : (61 :: p.2 ++ restS r).drop (1 + p.2.length) = restS r := by rw [Nat.add_comm]; exact List.drop_left' (l₁ := 61 :: p.2) rfl
    rw [edr2]
    walk_at "go"
    refine gm_mat hM5 (by assumption) sl_group ty_group ?_
    walk_at "go"
    refine c_group1 (by assumption) hM5 (by walk_at "o") (by simp; walk_at "o") (by walk_at "o") fun t6 s6 S6 => ?_
    have egr2 : ((61 :: p.2 ++ restS r).drop 1).take (1 + p.2.length - 1) = p.2 := by
      rw [show 1 + p.2.length - 1 = p.2.length by walk_at "o"]; exact List.take_left' (l₁ := p.2) rfl
    rw [egr2]
    walk_at "go"
    rename_i ta _ _ hs6 ha S
    rw [rstrip_none b3] at ha
    refine append0 S (by have := hpv.len; walk_at "o") fun s' S => ?_
    walk_at "go"
    have hsub := hg2.trans (F3.sub.trans (hg4.trans (F5.sub.trans hs6)))
    exact ⟨rfl, _, restS r, _, _, PL, _, _, _, _, _, _, _, _, _, cur ++ [p], done, hg'.trans hsub, S, (hpv.mono fun _ _ => PairAt.mono hsub).app (.cons ⟨_, _, _, rfl, ha⟩ .nil), hrv.mono fun _ _ => ListAt.mono hsub, by simp only [List.length_append] at hL4; walk_at "o",
      .b r (by simp) hfull (fun q hq => hgood q (.tail _ hq)) (by simp; walk_at "o") hdl⟩
  | false =>
    have ewv : wvL p.2 = [34] ++ escL p.2 ++ [34] := by unfold wvL; rw [hb]; rfl
    obtain ⟨pp, ts, q1, q2, q3, q4, q5⟩ := escL_split p.2
    have etx : 61 :: wvL p.2 ++ restS r = [61, 34] ++ (pp ++ tailL ts) ++ 34 :: restS r := by rw [ewv, q1]; simp
    (walk_at "zS"); rw [etx] at S hL4 ⊢
    have hel : (pp ++ tailL ts).length ≤ 440 := by
      rw [← q1]
      have : ∀ l : List Nat, (escL l).length ≤ 2 * l.length := by
        intro l
        induction l with
        | nil => simp [escL]
        | cons c r ih =>
          have e : escL (c :: r) = (if BJ c then [92, c] else [c]) ++ escL r := by unfold escL; simp
          rw [e]; split <;> simp <;> walk_at "o"
      have := this p.2; have := hkp.2; walk_at "o"
    refine c_search1 S hPQ (by walk_at "o") (quo_match q3 q4 (by walk_at "o")) (by decide) (by walk_at "o") fun v4 g4 s' hg4 hM4 S => ?_
    walk_at "go"
    refine tr_match (by assumption) hM4 ?_
    walk_at "go"
    refine w_unmatched (Rm.le (hA.deeper _) (by walk_at "o")) (St.rdy (by assumption)) G hM4 (by walk_at "o") (by simp; walk_at "o") fun u g5 s' F5 hv => ?_
    have S := St.back (by assumption) F5
    obtain ⟨tu5, rfl⟩ := hv
    have hM5 := hM4.mono F5.sub
    have edr2 : ([61, 34] ++ (pp ++ tailL ts) ++ 34 :: restS r).drop (2 + (pp ++ tailL ts).length + 1) = restS r := by
      rw [show 2 + (pp ++ tailL ts).length + 1 = ([61, 34] ++ (pp ++ tailL ts)).length + 1 by simp; walk_at "o", dr_k]; rfl
    rw [edr2]
    walk_at "go"
    refine gm_mat hM5 (by assumption) sl_group ty_group ?_
    walk_at "go"
    refine c_group1 (by assumption) hM5 (by walk_at "o") (by simp; walk_at "o") (by walk_at "o") fun t6 s6 S6 => ?_
    have egr2 : (([61, 34] ++ (pp ++ tailL ts) ++ 34 :: restS r).drop 2).take (2 + (pp ++ tailL ts).length - 2) = pp ++ tailL ts := by
      rw [show 2 + (pp ++ tailL ts).length - 2 = (pp ++ tailL ts).length by walk_at "o"]
      exact List.take_left' (l₁ := pp ++ tailL ts) rfl
    rw [egr2]
    walk_at "go"
    refine gm_pat hPE (by assumption) sl_sub ty_sub ?_
    walk_at "go"
    refine ev_lam B ht (qual := "split_header_words.<locals>.<lambda>") (by rw [hcd]; exact .head _) (by show (Str.ofString "split_header_words" ++ Str.ofString ".<locals>.") ++ Str.ofString "<lambda>" = _; decide +kernel) (by assumption) rfl rfl rfl (by decide) fun lv g6 s' hg6 hLm S => ?_
    walk_at "go"
    refine sub_start S hPE hLm fun SD s' S => ?_
    refine sub_esc (l := pp ++ tailL ts) hPE (by walk_at "o") ts [] pp 0 0 false g6 s' [] rfl (fun x hx => (q3 x hx).2) q4 rfl S ?_ (by simp; walk_at "o") (by simp) fun t' g7 s' hg7 S => ?_
    · intro v g' st hd b e mu' s' hs hM hbe hel S
      refine call_lam (n := 0) (nm := "_m") (new := []) (mu0 := mu') (Rm.le (Rm.in1 (hA.deeper _)) (by walk_at "o")) S (hLm.mono hs) (fun _ _ _ => rfl) (by decide +kernel) rfl rfl rfl (by decide) ?_
      intro φ' L' s₁ a c env henv S'
      subst henv
      walk_at "go"
      refine BoolOp_or ?_
      walk_at "go"
      refine gm_mat hM (by assumption) sl_group ty_group ?_
      walk_at "go"
      refine c_group1 (by assumption) hM hbe hel (by walk_at "o") fun t3 s3 S3 => ?_
      walk_at "go"
      cases hx : (((pp ++ tailL ts).drop b).take (e - b)).isEmpty
      · rw [if_pos (show (!false) = true from rfl)]
        walk_at "go"
        exact ⟨_, _, by assumption, fun s' hsub S => ⟨_, _, rfl, hsub, S⟩⟩
      · rw [if_neg (show ¬ (!true) = true by decide)]
        refine BoolOp_one ?_
        walk_at "go"
        have hx0 := List.isEmpty_iff.mp hx
        rw [hx0]
        exact ⟨_, _, by assumption, fun s' hsub S => ⟨_, _, rfl, hsub, S⟩⟩
    · simp only [List.map_nil, List.flatten_nil, List.nil_append, q2]
      show wpAny _ _ _ _ _ _
      walk_at "go"
      rename_i ta _ _ hs8 ha S
      refine append0 S (by have := hpv.len; walk_at "o") fun s' S => ?_
      walk_at "go"
      have hsub := hg2.trans (F3.sub.trans (hg4.trans (F5.sub.trans (hg6.trans (hg7.trans hs8)))))
      exact ⟨rfl, _, restS r, _, _, PL, _, _, _, _, _, _, _, _, _, cur ++ [p], done, hg'.trans hsub, S, (hpv.mono fun _ _ => PairAt.mono hsub).app (.cons ⟨_, _, _, rfl, ha⟩ .nil), hrv.mono fun _ _ => ListAt.mono hsub, by simp only [List.length_append] at hL4; simp at hL4; walk_at "o",
        .b r (by simp) hfull (fun q hq => hgood q (.tail _ hq)) (by simp; walk_at "o") hdl⟩
end
end
section
open PySem PySem.Calls PyProof.Rows PySem.Spec PySem.W PySem.Builtin.Str
section
variable {W : Wd} {f : Nat → Addr} {g : Gr} {s : Shared} {A : Around} {Q : Value → Shared → Prop}
set_option linter.unusedVariables false
set_option maxHeartbeats 8000000 in
theorem w_spl_B {φ g : Gr} {L : Addr} {t10 : Tb} (hA : Rm 3 A) (G : Gl W f) (hPT : PatAt W (f 6) cTOK 1) (hPS : PatAt W (f 4) cSEP 0) :
    AtSpl fun body scope => ∀ {g1 g' : Gr} {H RL I PL : Addr} {o : Obj} {full : List (List KV)} {tt : Tok} {v3 v5 v6 v7 v8 v9 : Option Value} {pvs rvs : List Value} {n1 n2 : Nat} {cur : List KV} {done : List (List KV)} {b : Bool} {p : KV} {r : List (Bool × KV)} {s : Shared}, Sub g1 g' →
      St W φ g nmsS g' L [some (.ref H), some (.ref RL), some (.str (T (restS ((b, p) :: r))) tt), v3, some (.ref PL), v5, v6, v7, v8, v9] [(PL, lst pvs n1), (I, o), (RL, lst rvs n2)] s →
      All2 (PairAt g') pvs cur → All2 (ListAt g') rvs done → (restS ((b, p) :: r)).length ≤ 90000 → cur ≠ [] → full = done ++ grS cur ((b, p) :: r) → Good (((b, p) :: r).map (·.2)) → cur.length + (r.length + 1) ≤ 111 → done.length + (r.length + 1) ≤ 110 →
      wpAny (model PP W.w) (A.deeper (envOf "split_header_words" scope L (f 10) (.ref t10.c))) (execs body (envOf "split_header_words" scope L (f 10) (.ref t10.c))) (fun fl s' => fl = .next ∧ SpI W φ g L H RL I o full g1 (2 * r.length + 1) s') NoE s := by
  intro g1 g' H RL I PL o full tt v3 v5 v6 v7 v8 v9 pvs rvs n1 n2 cur done b p r s hg' S hpv hrv hL hcne hfull hgood hcl hdl
  have hkp := hgood p (.head _)
  have hPLn := (S.mus _ (.head _)).2.2.1
  obtain ⟨hk1, hk2, hk3⟩ := hkp.1.tk
  obtain ⟨k0, kr, hkk⟩ : ∃ k0 kr, p.1 = k0 :: kr := by
    cases hq : p.1 with
    | nil => exact absurd hq hkp.1.1
    | cons y vr => exact ⟨_, _, rfl⟩
  cases b with
  | false =>
    have etx : restS ((false, p) :: r) = 59 :: 32 :: (pairL p ++ restS r) := rfl
    (walk_at "zS"); rw [etx] at S hL
    walk_at "go"
    refine gm_pat hPT (by assumption) sl_search ty_search ?_
    walk_at "go"
    refine c_search0 (by assumption) hPT (by walk_at "o") (tok_fail rfl tk59 (by walk_at "o")) (by decide) ?_
    walk_at "go"
    refine gm_pat hPS (by assumption) sl_subn ty_subn ?_
    walk_at "go"
    refine subn_start (by assumption) hPS fun D s' S => ?_
    have ek : pairL p ++ restS r = k0 :: (kr ++ 61 :: wvL p.2 ++ restS r) := by unfold pairL; rw [hkk]; simp
    have hLn : 2 < (59 :: 32 :: (pairL p ++ restS r)).length := by rw [ek]; simp
    refine subn_turn (hd := 2) S hPS (by walk_at "o") (k := 20) (lm := -1) (li := -1) (marks := []) ?_ (by decide) (by simp) fun m'' s'' S => ?_
    · rw [ek] at hL ⊢
      exact sep_match (hk3 k0 (by rw [hkk]; exact .head _)) (by walk_at "o")
    · refine subn_none (k := 3000000) S hPS (by walk_at "o") hLn (sep_fail (by walk_at "o") (by decide) (by walk_at "o")) (by decide) (by simp) (by simp) fun b t' u' g2 s' hg2 hb S => ?_
      show wpAny _ _ _ _ _ _
      walk_at "go"
      refine ex_assert ?_
      walk_at "go"
      refine ⟨rfl, ?_⟩
      walk_at "go"
      rename_i S
      have hgg : Good (p :: r.map (·.2)) := hgood
      exact ⟨rfl, _, [] ++ pairL p ++ restS r, _, _, PL, _, _, _, _, _, _, _, _, _, cur, done, hg'.trans hg2, S, hpv.mono fun _ _ => PairAt.mono hg2, hrv.mono fun _ _ => ListAt.mono hg2, by simp only [List.length_cons] at hL; simp only [List.nil_append]; walk_at "o",
        .a [] p r (.inl rfl) hfull hgg (by walk_at "o") (by walk_at "o")⟩
  | true =>
    have etx : restS ((true, p) :: r) = 44 :: 32 :: (pairL p ++ restS r) := rfl
    (walk_at "zS"); rw [etx] at S hL
    walk_at "go"
    refine gm_pat hPT (by assumption) sl_search ty_search ?_
    walk_at "go"
    refine c_search0 (by assumption) hPT (by walk_at "o") (tok_fail rfl tk44 (by walk_at "o")) (by decide) ?_
    walk_at "go"
    have edw : (44 :: 32 :: (pairL p ++ restS r)).dropWhile Unicode.isSpace = 44 :: 32 :: (pairL p ++ restS r) := rfl
    rw [edw]
    walk_at "go"
    rename_i S
    refine l_tr S (by walk_at "hp") rfl (by have := hpv.len; walk_at "o") fun s' S => ?_
    have hne : (!pvs.isEmpty) = true := by
      cases pvs with
      | nil => exact absurd (by have := hpv.len; exact List.length_eq_zero_iff.mp this.symm) hcne
      | cons _ _ => rfl
    walk_at "go"
    refine append2 (by assumption) (by have := hrv.len; walk_at "o") fun s' S => ?_
    walk_at "go"
    rename_i PL2 _ _ _ _ S
    have S := (St.swap S).freeze
    have hs := gset_sub (o := lst pvs n1) hPLn
    have hgg : Good (p :: r.map (·.2)) := hgood
    have hfull' : full = (done ++ [cur]) ++ grS ([] ++ [p]) r := by rw [hfull]; simp [grS]
    exact ⟨rfl, _, [32] ++ pairL p ++ restS r, _, _, PL2, _, _, _, _, _, [], _, rvs ++ [.ref PL], _, [], done ++ [cur], hg'.trans hs, S, .nil, (hrv.mono fun _ _ => ListAt.mono hs).app (.cons ⟨PL, pvs, n1, rfl, gset_self _ _ _, hpv.mono fun _ _ => PairAt.mono hs⟩ .nil),
      by show (32 :: (pairL p ++ restS r)).length ≤ 90000; simp only [List.length_cons] at hL ⊢; walk_at "o",
      .a [32] p r (.inr rfl) hfull' hgg (by simp; walk_at "o") (by simp; walk_at "o")⟩
end
end
section
open PySem PySem.Calls PyProof.Rows PySem.Spec PySem.W PySem.Builtin.Str
section
variable {W : Wd} {f : Nat → Addr} {g : Gr} {s : Shared} {A : Around} {Q : Value → Shared → Prop}
set_option linter.unusedVariables false
inductive JsO (g : Gr) (H RL : Addr) (full : List (List KV)) (i : Nat) (g' : Gr) : List (Option Value) → List (Addr × Obj) → Prop
  | mk (h : Sub g g') (v2 v3 v4 v5 v6 v7 v8 v9 : Option Value) (rvs : List Value) (n2 : Nat) (e : All2 (ListAt g') rvs (if i = 0 then [] else full)) : JsO g H RL full i g' [some (.ref H), some (.ref RL), v2, v3, v4, v5, v6, v7, v8, v9] [(RL, lst rvs n2)]
theorem JsO.sub {g g' : Gr} {H RL : Addr} {full : List (List KV)} {i : Nat} {vals : List (Option Value)} {mu : List (Addr × Obj)} : JsO g H RL full i g' vals mu → Sub g g' := fun x => by cases x; assumption
set_option maxHeartbeats 8000000 in
theorem w_split_hw {t10 : Tb} (hA : Rm 3 A) (R : Rdy W g s) (G : Gl W f) (B : Lb W) (ht : t10 ∈ W.tabs) (hcd : t10.codes = cod10) (hF : FnC W (f 10) t10 (stm 10)) (hPT : PatAt W (f 6) cTOK 1) (hPQ : PatAt W (f 7) cQUO 1) (hPV : PatAt W (f 8) cVAL 1) (hPE : PatAt W (f 9) cESC 1) (hPS : PatAt W (f 4) cSEP 0)
    {H : Addr} {n : Nat} {t : Tok} {p0 : KV} {r : List (Bool × KV)} (hH : g H = some (lst [.str (T (pairL p0 ++ restS r)) t] n)) (hk : ∀ p ∈ p0 :: r.map (·.2), KeyOk p.1 ∧ p.2.length ≤ 220) (hrl : r.length ≤ 100) (hL : (pairL p0 ++ restS r).length ≤ 90000)
    (k : ∀ v g' s', Fin' W g s g' s' → (∃ a vs n, v = .ref a ∧ g' a = some (lst vs n) ∧ All2 (ListAt g') vs (grS [p0] r)) → Q v s') :
    wpAny (model PP W.w) A (call (.ref (f 10)) [.ref H]) Q NoE s := by
  obtain ⟨o, doc, pm, an, ct, ho, hd', hc⟩ := hF
  refine enterP ["header_values"] ["result", "text", "orig_text", "pairs", "m", "name", "value", "non_junk", "nr_junk_chars"] nmsS [some (.ref H), none, none, none, none, none, none, none, none, none] rfl rfl
    (Post := fun g' v => ∃ a vs n, v = .ref a ∧ g' a = some (lst vs n) ∧ All2 (ListAt g') vs (grS [p0] r)) hA R ho hd' hc rfl rfl (by decide) (by decide) (by decide) ?_ k
  intro φ L s₁ S
  walk_at "go"
  rename_i S
  refine ex_assert ?_
  walk_at "go"
  refine IsiPair.list_str (S.gh _ _ hH) rfl ?_
  walk_at "go"
  refine ⟨rfl, ?_⟩
  walk_at "go"
  rename_i RL _ _ _ _ S
  refine it_list S (S.gh _ _ hH) rfl ?_
  intro I o s₂ hI S
  refine for_loop (JsO g H RL (grS [p0] r)) (Nx.of_g (hA.deeper _).1 _) (fun i g' vals mu h => ⟨_, h.sub _ _ hH⟩) hI S ⟨.refl _, _, _, _, _, _, _, _, _, _, _, .nil⟩ (fun _ => rfl) ?_ ?_
  · rintro i g' vals mu v s o hi ⟨hg', v2, v3, v4, v5, v6, v7, v8, v9, rvs, n2, hrv⟩ hv S
    have hi0 : i = 0 := by simp at hi; walk_at "o"
    subst hi0
    have hrv0 : rvs = [] := by cases hrv; rfl
    subst hrv0
    injection hv with hv
    subst hv
    walk_at "go"
    rename_i PL _ _ _ _ S
    have hgood : Good (p0 :: r.map (·.2)) := hk
    refine ex_while (SpI W φ g L H RL I o (grS [p0] r) g) (2 * r.length + 1) ⟨_, pairL p0 ++ restS r, _, _, PL, _, _, _, _, _, [], _, [], _, [], [], hg', S, .nil, .nil, hL, .a [] p0 r (.inl rfl) rfl hgood (by simp; walk_at "o") (by simp; walk_at "o")⟩ ?_
    rintro m s ⟨g3, txt, tt, w3, PL, w5, w6, w7, w8, w9, pvs, n1, rvs, n2, cur, done, hg3', S, hpv, hrv2, htl, ⟨ws, p, r', hws, hfull, hgd, hc1, hc2⟩ | ⟨r', hcne, hfull, hgd, hc1, hc2⟩⟩
    · have hne : (!(ws ++ pairL p ++ restS r').isEmpty) = true := by
        have : pairL p ≠ [] := by unfold pairL; simp
        rcases hws with rfl | rfl
        · cases hq : pairL p with
          | nil => exact absurd hq this
          | cons _ _ => rfl
        · rfl
      repeat walk_at "1"
      refine tfT hne ?_
      rename_i S
      (walk_at "1"); refine wpAny_mono (w_spl_A (f := f) hA G B ht hcd hPT hPQ hPV hPE hg3' S hpv hrv2 htl hws hfull hgd (by walk_at "o") hc2) (fun fl s' hq => ?_) fun _ _ x => x
      obtain ⟨rfl, hq⟩ := hq
      (repeat walk_at "kn"); exact ⟨_, by walk_at "o", hq⟩
    · cases r' with
      | nil =>
        have hPLn := (S.mus _ (.head _)).2.2.1
        walk_at "go"
        rename_i S
        refine l_tr S (by walk_at "hp") rfl (by have := hpv.len; walk_at "o") fun s' S => ?_
        have hne : (!pvs.isEmpty) = true := by
          cases pvs with
          | nil => exact absurd (by have := hpv.len; exact List.length_eq_zero_iff.mp this.symm) hcne
          | cons _ _ => rfl
        walk_at "go"
        refine append2 (by assumption) (by have := hrv2.len; walk_at "o") fun s' S => ?_
        walk_at "go"
        have hs := gset_sub (o := lst pvs n1) hPLn
        exact ⟨_, _, [(RL, _)], [], S.freeze, hg3'.trans hs, _, _, _, _, _, _, _, _, _, _, by
          rw [if_neg (by decide), hfull]
          exact (hrv2.mono fun _ _ => ListAt.mono hs).app (.cons ⟨PL, pvs, n1, rfl, gset_self _ _ _, hpv.mono fun _ _ => PairAt.mono hs⟩ .nil)⟩
      | cons x r' =>
        obtain ⟨b, p⟩ := x
        have hne : (!(restS ((b, p) :: r')).isEmpty) = true := rfl
        repeat walk_at "1"
        refine tfT hne ?_
        rename_i S
        (walk_at "1"); refine wpAny_mono (w_spl_B (f := f) hA G hPT hPS hg3' S hpv hrv2 htl hcne hfull hgd (by simpa using hc1) (by simpa using hc2)) (fun fl s' hq => ?_) fun _ _ x => x
        obtain ⟨rfl, hq⟩ := hq
        (repeat walk_at "kn"); exact ⟨_, by simp; walk_at "o", hq⟩
  · rintro g' vals mu s ⟨hg', v2, v3, v4, v5, v6, v7, v8, v9, rvs, n2, hrv⟩ S
    walk_at "go"
    exact ⟨_, _, _, St.freeze (by assumption), _, _, _, rfl, gset_self _ _ _, hrv.mono fun _ _ => ListAt.mono (gset_sub (S.mus _ (.head _)).2.2.1)⟩
end
end
section
open PySem PySem.Calls PyProof.Rows PySem.Spec PySem.W PySem.Builtin.Str
section
variable {W : Wd} {f : Nat → Addr} {g : Gr} {s : Shared} {A : Around} {Q : Value → Shared → Prop}
set_option linter.unusedVariables false
structure LawEnv (W : Wd) (f : Nat → Addr) (t10 t13 t21 : Tb) (D : List (PyData × PyData)) : Prop where
  B : Lb W
  TE : TrEnv W f t21 D
  m10 : t10 ∈ W.tabs
  c10 : t10.codes = cod10
  f10 : FnC W (f 10) t10 (stm 10)
  m13 : t13 ∈ W.tabs
  c13 : t13.codes = cod13
  f13 : FnC W (f 13) t13 (stm 13)
  p6 : PatAt W (f 6) cTOK 1
  p7 : PatAt W (f 7) cQUO 1
  p8 : PatAt W (f 8) cVAL 1
  p9 : PatAt W (f 9) cESC 1
  p4 : PatAt W (f 4) cSEP 0
  p11 : PatAt W (f 11) cJTK 0
  p12 : PatAt W (f 12) cJES 1
theorem cutUp {g g' : Gr} (hg : Sub g g') {v : Value} {c : Cut} (h : CutAt g v c) : CutAt g' v c := by
  obtain ⟨a, t1, t2, t3, e, h⟩ := h
  exact ⟨a, t1, t2, t3, e, hg _ _ h⟩
theorem St.frz {φ g0 g : Gr} {names : List Str} {L : Addr} {vals : List (Option Value)} {mu : List (Addr × Obj)} {s : Shared} {a : Addr} {o : Obj} (S : St W φ g0 names g L vals ((a, o) :: mu) s) : ∃ g', Sub g g' ∧ g' a = some o ∧ St W φ g0 names g' L vals mu s :=
  ⟨_, gset_sub (S.mus _ (.head _)).2.2.1, gset_self _ _ _, S.freeze⟩
set_option maxHeartbeats 8000000 in
theorem w_law {t10 t13 t21 : Tb} {D : List (PyData × PyData)} (hA : Rm 6 A) (R : Rdy W g s) (G : Gl W f) (V : LawEnv W f t10 t13 t21 D) {P : Addr} {ns : List (Int × Tok)} {n : Nat} (hP : g P = some (lst (ns.map fun x => .int x.1 x.2) n)) (hl : ns.length ≤ 63)
    (k : ∀ v g' s', Fin' W g s g' s' → v = .bool true → Q v s') :
    wpAny (model PP W.w) A (call (.ref (f 50)) [.ref P]) Q NoE s := by
  obtain ⟨o, doc, pm, an, cd, ct, ho, hd', hc⟩ := G.fn 50 rfl
  refine enterP ["script"] ["star", "cuts", "path", "folder", "name", "ending", "lists", "text", "read", "told", "pairs", "key", "pattern", "parts", "due"] nmsA [some (.ref P), none, none, none, none, none, none, none, none, none, none, none, none, none, none, none] rfl rfl
    (Post := fun g' v => v = .bool true) hA R ho hd' hc rfl rfl (by decide) (by decide) (by decide) ?_ k
  intro φ L s₁ S
  repeat ((fail_if_success (with_reducible show wpAny _ _ (exec (.For _ _ _ _ _) _) _ _ _)); walk_at "1")
  rename_i SA _ _ _ _ _ CU _ _ _ _ S
  have S := S.swap
  obtain ⟨g1, hg1, _, S⟩ := S.frz
  replace hP := hg1 _ _ hP
  refine wpAny_mono (w_law_L1 (f := f) hA G S hP hl) (fun fl s' hq => ?_) fun _ _ x => x
  obtain ⟨g2, v3, v4, v5, v6, cs, cvs, n1, _, hg2, S, hcv, hcs⟩ := hq
  (repeat walk_at "kn"); show wpAny _ _ _ _ _ _
  obtain ⟨g3, hs3, hCU, S⟩ := S.frz
  replace hcv := hcv.mono fun _ _ => cutUp hs3
  obtain ⟨hls5, hlok⟩ := ls_ok hcs
  have hgok := gs_ok hcs
  have hll5 : ((gsOf cs).map gL).length ≤ 5 := by rw [List.length_map]; exact hls5
  walk_at "go"
  refine w_law_lists (Rm.le (hA.deeper _) (by walk_at "o")) (St.rdy (by assumption)) G hCU hcv hcs.1 (fun c hc => by have := cut_ok hcs hc; walk_at "o") fun v g4 s' F hv => ?_
  obtain ⟨LI, vs, n2, rfl, hLI, hls⟩ := hv
  have S := St.back (by assumption) F
  rw [lawLists_gs] at hls
  replace hCU := F.sub _ _ hCU
  replace hcv := hcv.mono fun _ _ => cutUp F.sub
  walk_at "go"
  refine w_join_hw (Rm.le (hA.deeper _) (by walk_at "o")) (St.rdy (by assumption)) G V.B V.m13 V.c13 V.f13 V.p11 V.p12 hLI hls (fun ps hps => ⟨(hlok ps hps).1, by have := (hlok ps hps).2.1; walk_at "o", fun p hp => ⟨((hlok ps hps).2.2 p hp).1, ((hlok ps hps).2.2 p hp).2.1⟩⟩) (by walk_at "o") fun v g5 s' F5 hv => ?_
  obtain ⟨tx, rfl⟩ := hv
  have S := St.back (by assumption) F5
  replace hCU := F5.sub _ _ hCU
  replace hcv := hcv.mono fun _ _ => cutUp F5.sub
  replace hLI := F5.sub _ _ hLI
  replace hls := hls.mono fun _ _ => ListAt.mono F5.sub
  walk_at "go"
  refine w_law_written (Rm.le (hA.deeper _) (by walk_at "o")) (St.rdy (by assumption)) G hLI hls (fun ps hps => ⟨by have := (hlok ps hps).2.1; walk_at "o", fun p hp => ⟨((hlok ps hps).2.2 p hp).1, ((hlok ps hps).2.2 p hp).2.1⟩⟩) (by walk_at "o") fun v g6 s' F6 hv => ?_
  obtain ⟨tw, rfl⟩ := hv
  have S := St.back (by assumption) F6
  replace hCU := F6.sub _ _ hCU
  replace hcv := hcv.mono fun _ _ => cutUp F6.sub
  replace hLI := F6.sub _ _ hLI
  replace hls := hls.mono fun _ _ => ListAt.mono F6.sub
  walk_at "go"
  rename_i HL _ _ S
  obtain ⟨g7, hg7, hHL, S⟩ := S.frz
  obtain ⟨p0, r, e1, e2, e3, e4, e5⟩ := header hcs
  rw [e1] at hHL
  replace hCU := hg7 _ _ hCU
  replace hcv := hcv.mono fun _ _ => cutUp hg7
  replace hLI := hg7 _ _ hLI
  replace hls := hls.mono fun _ _ => ListAt.mono hg7
  refine w_split_hw (Rm.le (hA.deeper _) (by walk_at "o")) (St.rdy (by assumption)) G V.B V.m10 V.c10 V.f10 V.p6 V.p7 V.p8 V.p9 V.p4 hHL e4 e3 e5 fun v g8 s' F8 hv => ?_
  obtain ⟨RD, rvs, n8, rfl, hRD, hrv⟩ := hv
  rw [e2] at hrv
  have S := St.back (by assumption) F8
  replace hCU := F8.sub _ _ hCU
  replace hcv := hcv.mono fun _ _ => cutUp F8.sub
  replace hLI := F8.sub _ _ hLI
  replace hls := hls.mono fun _ _ => ListAt.mono F8.sub
  walk_at "go"
  refine e_ne_same (by assumption) (hA.deeper _) (d := dL ((gsOf cs).map gL)) (Rd.lst hRD (rdL hrv)) (Rd.lst hLI (rdL hls)) (layL fun ps hps p hp => ((hlok ps hps).2.2 p hp).2.2.2) (Nat.le_trans (depL _) (by decide)) ?_
  walk_at "1"
  repeat ((fail_if_success (with_reducible show wpAny _ _ (exec (.For _ _ _ _ _) _) _ _ _)); walk_at "1")
  rename_i S
  refine wpAny_mono (w_law_L2 (f := f) hA G V.B V.TE S hRD hrv hgok) (fun fl s' hq => ?_) fun _ _ x => x
  obtain ⟨g9, v11, v12, v13, v14, qs, n9, _, hg9, S, hqs⟩ := hq
  (repeat walk_at "kn"); show wpAny _ _ _ _ _ _
  obtain ⟨g10, hg10, hTO, S⟩ := S.frz
  replace hCU := hg10 _ _ (hg9 _ _ hCU)
  replace hcv := hcv.mono fun _ _ => cutUp (hg9.trans hg10)
  replace hLI := hg10 _ _ (hg9 _ _ hLI)
  replace hls := hls.mono fun _ _ => ListAt.mono (hg9.trans hg10)
  repeat ((fail_if_success (with_reducible show wpAny _ _ (exec (.For _ _ _ _ _) _) _ _ _)); walk_at "1")
  rename_i S
  refine wpAny_mono (w_law_L3 (f := f) hA G S hLI hls hls5 hCU hcv hcs.1 fun c hc => ⟨(cut_ok hcs hc).1, (cut_ok hcs hc).2.1⟩) (fun fl s' hq => ?_) fun _ _ x => x
  obtain ⟨g11, w4, w5, w6, w11, rs, n11, _, hg11, S, hrs⟩ := hq
  (repeat walk_at "kn"); show wpAny _ _ _ _ _ _
  obtain ⟨g12, hg12, hDU, S⟩ := S.frz
  replace hTO := hg12 _ _ (hg11 _ _ hTO)
  have r1 := rdT (g := g12) qs
  have r2 := rdT (g := g12) rs
  rw [hqs, tell_due] at r1
  rw [hrs] at r2
  walk_at "go"
  refine e_eq_same (by assumption) (hA.deeper _) (d := dT _) (Rd.lst hTO r1) (Rd.lst hDU r2) (layT (due_ok hcs)) (Nat.le_trans (depT _) (by decide)) ?_
  walk_at "go"
  exact ⟨_, _, _, S, rfl⟩
end
end
section
set_option maxHeartbeats 8000000
open PySem PySem.W PyProof.Rows
noncomputable def fdOf : Data → FuncData | .func fd => fd | _ => default
noncomputable def isDef (st : Stmt) : Bool := onFn false (fun _ _ _ _ => true) st
noncomputable def nmOf : Stmt → Str := onFn "" fun n _ _ _ => n
noncomputable def fnDat (st : Stmt) (d : Data) (c : Addr) : Data := onFn .plain (fun name params body scope => .func (fnOf name name params body scope .none .none (fdOf d).doc (fdOf d).pyModule (fdOf d).annotations (.ref c) (fdOf d).closureTuple)) st
noncomputable def fldOf : Data → Array Value | .fields vs => vs | _ => #[]
noncomputable def tkOf : Option Value → Tok | some (.str _ t) => t | _ => 0
noncomputable def Fn3 (h : Heap) (a c : Addr) (st : Stmt) : Prop := ∃ o oc, h.get? a = some o ∧ h.get? c = some oc ∧ isDef st = true ∧ o.data = fnDat st o.data c ∧ oc.data = .fields (fldOf oc.data) ∧ (fldOf oc.data)[1]? = some (.str (nmOf st) (tkOf (fldOf oc.data)[1]?))
theorem onFn_case {st : Stmt} {P : Stmt → Prop} (h : onFn false (fun _ _ _ _ => true) st = true) (k : ∀ n a b x y z sc u v w, P (.FunctionDef n a b x y z sc u v w)) : P st := by
  cases st <;> first | exact absurd h Bool.false_ne_true | exact k _ _ _ _ _ _ _ _ _ _
theorem Fn3.fnC {W : Wd} {a c P : Addr} {l : List (Pos × Str)} {st : Stmt} (h : Fn3 W.h0 a c st) : FnC W a ⟨P, c, l⟩ st := by
  obtain ⟨o, oc, h1, h2, h3, h4, h5, h6⟩ := h
  refine onFn_case (P := fun st => o.data = fnDat st o.data c → (fldOf oc.data)[1]? = some (.str (nmOf st) (tkOf (fldOf oc.data)[1]?)) → FnC W a ⟨P, c, l⟩ st) h3 (fun n _ _ _ _ _ _ _ _ _ h4 h6 => ?_) h4 h6
  exact ⟨o, _, _, _, _, h1, h4, c, oc, _, _, rfl, h2, h5, h6⟩
theorem FnC.at {W : Wd} {a : Addr} {t : Tb} {st : Stmt} (h : FnC W a t st) : FnAt W a st := onFn_imp h fun _ _ _ _ ⟨o, doc, pm, an, ct, x, y, z⟩ => ⟨o, doc, pm, an, _, ct, x, y, z⟩
noncomputable def seqOf : Data → Array Value | .seq vs _ => vs | _ => #[]
noncomputable def HH (P : Params) : Heap := hideAll (hp_fin P) [79, 96, 127]
theorem hh_of {P : Params} {b : Addr} {o : Obj} (h : (HH P).get? b = some o) : (hp_fin P).get? b = some o := of_hideAll _ h
theorem hh_get {P : Params} {b : Addr} {o : Obj} (h : (hp_fin P).get? b = some o) (n : b ∉ [79, 96, 127]) : (HH P).get? b = some o := hideAll_get _ h n
theorem hh_no {P : Params} {b : Addr} (n : b ∈ [79, 96, 127]) : (HH P).get? b = none := hideAll_none _ n
noncomputable def fA : Nat → Addr | 4 => 50 | 5 => 57 | 6 => 62 | 7 => 67 | 8 => 72 | 9 => 77 | 10 => 84 | 11 => 89 | 12 => 94 | 13 => 101 | 15 => 106 | 16 => 113 | 18 => 115 | 19 => 125 | 21 => 132 | 22 => 139 | 31 => 212 | 33 => 219 | 36 => 233 | 37 => 240 | 38 => 247 | 39 => 254 | 42 => 262 | 43 => 267 | 44 => 274 | 45 => 281 | 46 => 288 | 47 => 293 | 48 => 298 | 49 => 305 | 50 => 310 | _ => 0
theorem g0 (P : Params) : (hp_fin P).get? 0 = some (o0 P) := by kernel_rfl
theorem g2 (P : Params) : (hp_fin P).get? 2 = some (o2 P) := by kernel_rfl
theorem g3 (P : Params) : (hp_fin P).get? 3 = some (o3v4 P) := by kernel_rfl
theorem g4 (P : Params) : (hp_fin P).get? 4 = some (o4 P) := by kernel_rfl
theorem g49 (P : Params) : (hp_fin P).get? 49 = some (o49 P) := by kernel_rfl
theorem g50 (P : Params) : (hp_fin P).get? 50 = some (o50 P) := by kernel_rfl
theorem g56 (P : Params) : (hp_fin P).get? 56 = some (o56 P) := by kernel_rfl
theorem g57 (P : Params) : (hp_fin P).get? 57 = some (o57 P) := by kernel_rfl
theorem g61 (P : Params) : (hp_fin P).get? 61 = some (o61 P) := by kernel_rfl
theorem g62 (P : Params) : (hp_fin P).get? 62 = some (o62 P) := by kernel_rfl
theorem g66 (P : Params) : (hp_fin P).get? 66 = some (o66 P) := by kernel_rfl
theorem g67 (P : Params) : (hp_fin P).get? 67 = some (o67 P) := by kernel_rfl
theorem g71 (P : Params) : (hp_fin P).get? 71 = some (o71 P) := by kernel_rfl
theorem g72 (P : Params) : (hp_fin P).get? 72 = some (o72 P) := by kernel_rfl
theorem g76 (P : Params) : (hp_fin P).get? 76 = some (o76 P) := by kernel_rfl
theorem g77 (P : Params) : (hp_fin P).get? 77 = some (o77 P) := by kernel_rfl
theorem g79 (P : Params) : (hp_fin P).get? 79 = some (o79 P) := by kernel_rfl
theorem g83 (P : Params) : (hp_fin P).get? 83 = some (o83 P) := by kernel_rfl
theorem g84 (P : Params) : (hp_fin P).get? 84 = some (o84 P) := by kernel_rfl
theorem g88 (P : Params) : (hp_fin P).get? 88 = some (o88 P) := by kernel_rfl
theorem g89 (P : Params) : (hp_fin P).get? 89 = some (o89 P) := by kernel_rfl
theorem g93 (P : Params) : (hp_fin P).get? 93 = some (o93 P) := by kernel_rfl
theorem g94 (P : Params) : (hp_fin P).get? 94 = some (o94 P) := by kernel_rfl
theorem g96 (P : Params) : (hp_fin P).get? 96 = some (o96 P) := by kernel_rfl
theorem g100 (P : Params) : (hp_fin P).get? 100 = some (o100 P) := by kernel_rfl
theorem g101 (P : Params) : (hp_fin P).get? 101 = some (o101 P) := by kernel_rfl
theorem g105 (P : Params) : (hp_fin P).get? 105 = some (o105 P) := by kernel_rfl
theorem g106 (P : Params) : (hp_fin P).get? 106 = some (o106 P) := by kernel_rfl
theorem g112 (P : Params) : (hp_fin P).get? 112 = some (o112 P) := by kernel_rfl
theorem g113 (P : Params) : (hp_fin P).get? 113 = some (o113 P) := by kernel_rfl
theorem g115 (P : Params) : (hp_fin P).get? 115 = some (o115 P) := by kernel_rfl
theorem g124 (P : Params) : (hp_fin P).get? 124 = some (o124 P) := by kernel_rfl
theorem g125 (P : Params) : (hp_fin P).get? 125 = some (o125 P) := by kernel_rfl
theorem g127 (P : Params) : (hp_fin P).get? 127 = some (o127 P) := by kernel_rfl
theorem g131 (P : Params) : (hp_fin P).get? 131 = some (o131 P) := by kernel_rfl
theorem g132 (P : Params) : (hp_fin P).get? 132 = some (o132 P) := by kernel_rfl
theorem g138 (P : Params) : (hp_fin P).get? 138 = some (o138 P) := by kernel_rfl
theorem g139 (P : Params) : (hp_fin P).get? 139 = some (o139 P) := by kernel_rfl
theorem g211 (P : Params) : (hp_fin P).get? 211 = some (o211 P) := by kernel_rfl
theorem g212 (P : Params) : (hp_fin P).get? 212 = some (o212 P) := by kernel_rfl
theorem g218 (P : Params) : (hp_fin P).get? 218 = some (o218 P) := by kernel_rfl
theorem g219 (P : Params) : (hp_fin P).get? 219 = some (o219 P) := by kernel_rfl
theorem g232 (P : Params) : (hp_fin P).get? 232 = some (o232 P) := by kernel_rfl
theorem g233 (P : Params) : (hp_fin P).get? 233 = some (o233 P) := by kernel_rfl
theorem g239 (P : Params) : (hp_fin P).get? 239 = some (o239 P) := by kernel_rfl
theorem g240 (P : Params) : (hp_fin P).get? 240 = some (o240 P) := by kernel_rfl
theorem g246 (P : Params) : (hp_fin P).get? 246 = some (o246 P) := by kernel_rfl
theorem g247 (P : Params) : (hp_fin P).get? 247 = some (o247 P) := by kernel_rfl
theorem g253 (P : Params) : (hp_fin P).get? 253 = some (o253 P) := by kernel_rfl
theorem g254 (P : Params) : (hp_fin P).get? 254 = some (o254v1 P) := by kernel_rfl
theorem g261 (P : Params) : (hp_fin P).get? 261 = some (o261 P) := by kernel_rfl
theorem g262 (P : Params) : (hp_fin P).get? 262 = some (o262 P) := by kernel_rfl
theorem g266 (P : Params) : (hp_fin P).get? 266 = some (o266 P) := by kernel_rfl
theorem g267 (P : Params) : (hp_fin P).get? 267 = some (o267 P) := by kernel_rfl
theorem g273 (P : Params) : (hp_fin P).get? 273 = some (o273 P) := by kernel_rfl
theorem g274 (P : Params) : (hp_fin P).get? 274 = some (o274 P) := by kernel_rfl
theorem g280 (P : Params) : (hp_fin P).get? 280 = some (o280 P) := by kernel_rfl
theorem g281 (P : Params) : (hp_fin P).get? 281 = some (o281 P) := by kernel_rfl
theorem g287 (P : Params) : (hp_fin P).get? 287 = some (o287 P) := by kernel_rfl
theorem g288 (P : Params) : (hp_fin P).get? 288 = some (o288 P) := by kernel_rfl
theorem g292 (P : Params) : (hp_fin P).get? 292 = some (o292 P) := by kernel_rfl
theorem g293 (P : Params) : (hp_fin P).get? 293 = some (o293 P) := by kernel_rfl
theorem g297 (P : Params) : (hp_fin P).get? 297 = some (o297 P) := by kernel_rfl
theorem g298 (P : Params) : (hp_fin P).get? 298 = some (o298 P) := by kernel_rfl
theorem g304 (P : Params) : (hp_fin P).get? 304 = some (o304 P) := by kernel_rfl
theorem g305 (P : Params) : (hp_fin P).get? 305 = some (o305 P) := by kernel_rfl
theorem g309 (P : Params) : (hp_fin P).get? 309 = some (o309 P) := by kernel_rfl
theorem g310 (P : Params) : (hp_fin P).get? 310 = some (o310 P) := by kernel_rfl
theorem fw5 (P : Params) : Fn3 (HH P) 57 56 (ts 5) := ⟨_, _, hh_get (g57 P) (by decide), hh_get (g56 P) (by decide), by kernel_rfl, by kernel_rfl, by kernel_rfl, by kernel_rfl⟩
theorem fw10 (P : Params) : Fn3 (HH P) 84 83 (ts 10) := ⟨_, _, hh_get (g84 P) (by decide), hh_get (g83 P) (by decide), by kernel_rfl, by kernel_rfl, by kernel_rfl, by kernel_rfl⟩
theorem fw13 (P : Params) : Fn3 (HH P) 101 100 (ts 13) := ⟨_, _, hh_get (g101 P) (by decide), hh_get (g100 P) (by decide), by kernel_rfl, by kernel_rfl, by kernel_rfl, by kernel_rfl⟩
theorem fw16 (P : Params) : Fn3 (HH P) 113 112 (ts 16) := ⟨_, _, hh_get (g113 P) (by decide), hh_get (g112 P) (by decide), by kernel_rfl, by kernel_rfl, by kernel_rfl, by kernel_rfl⟩
theorem fw19 (P : Params) : Fn3 (HH P) 125 124 (ts 19) := ⟨_, _, hh_get (g125 P) (by decide), hh_get (g124 P) (by decide), by kernel_rfl, by kernel_rfl, by kernel_rfl, by kernel_rfl⟩
theorem fw21 (P : Params) : Fn3 (HH P) 132 131 (ts 21) := ⟨_, _, hh_get (g132 P) (by decide), hh_get (g131 P) (by decide), by kernel_rfl, by kernel_rfl, by kernel_rfl, by kernel_rfl⟩
theorem fw22 (P : Params) : Fn3 (HH P) 139 138 (ts 22) := ⟨_, _, hh_get (g139 P) (by decide), hh_get (g138 P) (by decide), by kernel_rfl, by kernel_rfl, by kernel_rfl, by kernel_rfl⟩
theorem fw31 (P : Params) : Fn3 (HH P) 212 211 (ts 31) := ⟨_, _, hh_get (g212 P) (by decide), hh_get (g211 P) (by decide), by kernel_rfl, by kernel_rfl, by kernel_rfl, by kernel_rfl⟩
theorem fw33 (P : Params) : Fn3 (HH P) 219 218 (ts 33) := ⟨_, _, hh_get (g219 P) (by decide), hh_get (g218 P) (by decide), by kernel_rfl, by kernel_rfl, by kernel_rfl, by kernel_rfl⟩
theorem fw36 (P : Params) : Fn3 (HH P) 233 232 (ts 36) := ⟨_, _, hh_get (g233 P) (by decide), hh_get (g232 P) (by decide), by kernel_rfl, by kernel_rfl, by kernel_rfl, by kernel_rfl⟩
theorem fw37 (P : Params) : Fn3 (HH P) 240 239 (ts 37) := ⟨_, _, hh_get (g240 P) (by decide), hh_get (g239 P) (by decide), by kernel_rfl, by kernel_rfl, by kernel_rfl, by kernel_rfl⟩
theorem fw38 (P : Params) : Fn3 (HH P) 247 246 (ts 38) := ⟨_, _, hh_get (g247 P) (by decide), hh_get (g246 P) (by decide), by kernel_rfl, by kernel_rfl, by kernel_rfl, by kernel_rfl⟩
theorem fw39 (P : Params) : Fn3 (HH P) 254 253 (ts 39) := ⟨_, _, hh_get (g254 P) (by decide), hh_get (g253 P) (by decide), by kernel_rfl, by kernel_rfl, by kernel_rfl, by kernel_rfl⟩
theorem fw42 (P : Params) : Fn3 (HH P) 262 261 (ts 42) := ⟨_, _, hh_get (g262 P) (by decide), hh_get (g261 P) (by decide), by kernel_rfl, by kernel_rfl, by kernel_rfl, by kernel_rfl⟩
theorem fw43 (P : Params) : Fn3 (HH P) 267 266 (ts 43) := ⟨_, _, hh_get (g267 P) (by decide), hh_get (g266 P) (by decide), by kernel_rfl, by kernel_rfl, by kernel_rfl, by kernel_rfl⟩
theorem fw44 (P : Params) : Fn3 (HH P) 274 273 (ts 44) := ⟨_, _, hh_get (g274 P) (by decide), hh_get (g273 P) (by decide), by kernel_rfl, by kernel_rfl, by kernel_rfl, by kernel_rfl⟩
theorem fw45 (P : Params) : Fn3 (HH P) 281 280 (ts 45) := ⟨_, _, hh_get (g281 P) (by decide), hh_get (g280 P) (by decide), by kernel_rfl, by kernel_rfl, by kernel_rfl, by kernel_rfl⟩
theorem fw46 (P : Params) : Fn3 (HH P) 288 287 (ts 46) := ⟨_, _, hh_get (g288 P) (by decide), hh_get (g287 P) (by decide), by kernel_rfl, by kernel_rfl, by kernel_rfl, by kernel_rfl⟩
theorem fw47 (P : Params) : Fn3 (HH P) 293 292 (ts 47) := ⟨_, _, hh_get (g293 P) (by decide), hh_get (g292 P) (by decide), by kernel_rfl, by kernel_rfl, by kernel_rfl, by kernel_rfl⟩
theorem fw48 (P : Params) : Fn3 (HH P) 298 297 (ts 48) := ⟨_, _, hh_get (g298 P) (by decide), hh_get (g297 P) (by decide), by kernel_rfl, by kernel_rfl, by kernel_rfl, by kernel_rfl⟩
theorem fw49 (P : Params) : Fn3 (HH P) 305 304 (ts 49) := ⟨_, _, hh_get (g305 P) (by decide), hh_get (g304 P) (by decide), by kernel_rfl, by kernel_rfl, by kernel_rfl, by kernel_rfl⟩
theorem fw50 (P : Params) : Fn3 (HH P) 310 309 (ts 50) := ⟨_, _, hh_get (g310 P) (by decide), hh_get (g309 P) (by decide), by kernel_rfl, by kernel_rfl, by kernel_rfl, by kernel_rfl⟩
theorem pt4 {W : Wd} {P : Params} (h : W.h0 = HH P) : PatAt W 50 cSEP 0 := by
  refine ⟨o50 P, fldOf (o50 P).data, 49, o49 P, seqOf (o49 P).data, 0, ?_, by kernel_rfl, by kernel_rfl, by kernel_rfl, by kernel_rfl, by kernel_rfl, ?_, by kernel_rfl, by kernel_rfl, by kernel_rfl⟩
  · rw [h]; exact hh_get (g50 P) (by decide)
  · rw [h]; exact hh_get (g49 P) (by decide)
theorem pt6 {W : Wd} {P : Params} (h : W.h0 = HH P) : PatAt W 62 cTOK 1 := by
  refine ⟨o62 P, fldOf (o62 P).data, 61, o61 P, seqOf (o61 P).data, 0, ?_, by kernel_rfl, by kernel_rfl, by kernel_rfl, by kernel_rfl, by kernel_rfl, ?_, by kernel_rfl, by kernel_rfl, by kernel_rfl⟩
  · rw [h]; exact hh_get (g62 P) (by decide)
  · rw [h]; exact hh_get (g61 P) (by decide)
theorem pt7 {W : Wd} {P : Params} (h : W.h0 = HH P) : PatAt W 67 cQUO 1 := by
  refine ⟨o67 P, fldOf (o67 P).data, 66, o66 P, seqOf (o66 P).data, 0, ?_, by kernel_rfl, by kernel_rfl, by kernel_rfl, by kernel_rfl, by kernel_rfl, ?_, by kernel_rfl, by kernel_rfl, by kernel_rfl⟩
  · rw [h]; exact hh_get (g67 P) (by decide)
  · rw [h]; exact hh_get (g66 P) (by decide)
theorem pt8 {W : Wd} {P : Params} (h : W.h0 = HH P) : PatAt W 72 cVAL 1 := by
  refine ⟨o72 P, fldOf (o72 P).data, 71, o71 P, seqOf (o71 P).data, 0, ?_, by kernel_rfl, by kernel_rfl, by kernel_rfl, by kernel_rfl, by kernel_rfl, ?_, by kernel_rfl, by kernel_rfl, by kernel_rfl⟩
  · rw [h]; exact hh_get (g72 P) (by decide)
  · rw [h]; exact hh_get (g71 P) (by decide)
theorem pt9 {W : Wd} {P : Params} (h : W.h0 = HH P) : PatAt W 77 cESC 1 := by
  refine ⟨o77 P, fldOf (o77 P).data, 76, o76 P, seqOf (o76 P).data, 0, ?_, by kernel_rfl, by kernel_rfl, by kernel_rfl, by kernel_rfl, by kernel_rfl, ?_, by kernel_rfl, by kernel_rfl, by kernel_rfl⟩
  · rw [h]; exact hh_get (g77 P) (by decide)
  · rw [h]; exact hh_get (g76 P) (by decide)
theorem pt11 {W : Wd} {P : Params} (h : W.h0 = HH P) : PatAt W 89 cJTK 0 := by
  refine ⟨o89 P, fldOf (o89 P).data, 88, o88 P, seqOf (o88 P).data, 0, ?_, by kernel_rfl, by kernel_rfl, by kernel_rfl, by kernel_rfl, by kernel_rfl, ?_, by kernel_rfl, by kernel_rfl, by kernel_rfl⟩
  · rw [h]; exact hh_get (g89 P) (by decide)
  · rw [h]; exact hh_get (g88 P) (by decide)
theorem pt12 {W : Wd} {P : Params} (h : W.h0 = HH P) : PatAt W 94 cJES 1 := by
  refine ⟨o94 P, fldOf (o94 P).data, 93, o93 P, seqOf (o93 P).data, 0, ?_, by kernel_rfl, by kernel_rfl, by kernel_rfl, by kernel_rfl, by kernel_rfl, ?_, by kernel_rfl, by kernel_rfl, by kernel_rfl⟩
  · rw [h]; exact hh_get (g94 P) (by decide)
  · rw [h]; exact hh_get (g93 P) (by decide)
theorem pt15 {W : Wd} {P : Params} (h : W.h0 = HH P) : PatAt W 106 cTW1 1 := by
  refine ⟨o106 P, fldOf (o106 P).data, 105, o105 P, seqOf (o105 P).data, 0, ?_, by kernel_rfl, by kernel_rfl, by kernel_rfl, by kernel_rfl, by kernel_rfl, ?_, by kernel_rfl, by kernel_rfl, by kernel_rfl⟩
  · rw [h]; exact hh_get (g106 P) (by decide)
  · rw [h]; exact hh_get (g105 P) (by decide)
noncomputable def dic : List (Int × PyData) := [(40, .str ⟨#[92, 40]⟩), (41, .str ⟨#[92, 41]⟩), (91, .str ⟨#[92, 91]⟩), (93, .str ⟨#[92, 93]⟩), (123, .str ⟨#[92, 123]⟩), (125, .str ⟨#[92, 125]⟩), (63, .str ⟨#[92, 63]⟩), (42, .str ⟨#[92, 42]⟩), (43, .str ⟨#[92, 43]⟩), (45, .str ⟨#[92, 45]⟩), (124, .str ⟨#[92, 124]⟩), (94, .str ⟨#[92, 94]⟩), (36, .str ⟨#[92, 36]⟩), (92, .str ⟨#[92, 92]⟩), (46, .str ⟨#[92, 46]⟩), (38, .str ⟨#[92, 38]⟩), (126, .str ⟨#[92, 126]⟩), (35, .str ⟨#[92, 35]⟩), (32, .str ⟨#[92, 32]⟩), (9, .str ⟨#[92, 9]⟩), (10, .str ⟨#[92, 10]⟩), (13, .str ⟨#[92, 13]⟩), (11, .str ⟨#[92, 11]⟩), (12, .str ⟨#[92, 12]⟩)]
theorem d_look (P : Params) : KTD.keyedLook (HH P).get? 115 dic = true := by kernel_rfl
theorem mn_look (P : Params) : (hp_fin P).isNs mainGlobals = true := by kernel_rfl
theorem cs_look (P : Params) : ((hp_fin P).isNs cStatics && ((hp_fin P).nsMap cStatics "sys.recursionlimit").isNone && ((hp_fin P).nsMap cStatics sharingNotToldKey).isNone) = true := by kernel_rfl
noncomputable def isRef : Option Value → Addr → Bool | some (.ref b), a => b == a | _, _ => false
theorem gl_look (P : Params) : (gnames.all fun p => isRef ((hp_fin P).nsMap mainGlobals p.1) (fA p.2)) = true := by kernel_rfl
theorem bl_look (P : Params) : (btab.all fun p => ((hp_fin P).nsMap mainGlobals p.1).isNone) = true := by kernel_rfl
theorem bm_look (P : Params) : isRef ((hp_fin P).nsMap mainGlobals "__builtins__") 4 = true := by kernel_rfl
end
section
set_option maxHeartbeats 8000000
open PySem PySem.W PyProof.Rows
theorem ns_move {h h' : Heap} {a : Addr} {m : Str → Option Value} {o : Obj} (n : h.Ns a m) (e : h.get? a = some o) (e' : h'.get? a = some o) : h'.Ns a m := by
  obtain ⟨o1, es, ep, x, r⟩ := n
  rw [e] at x; cases x; exact ⟨_, es, ep, e', r⟩
noncomputable abbrev t10 : Tb := ⟨79, 83, cod10⟩
noncomputable abbrev t13 : Tb := ⟨96, 100, cod13⟩
noncomputable abbrev t21 : Tb := ⟨127, 131, cod21⟩
noncomputable def WW (w : World) (mb : Str → Option Value) (os : OsState) : Wd := ⟨w, HH w.params, (hp_fin w.params).nsMap mainGlobals, mb, [t10, t13, t21], os⟩
theorem stm_ts (i : Nat) : stm i = ts i := by unfold stm ts PP; rw [te_P]
theorem isRef_eq {v : Option Value} {a : Addr} (h : isRef v a = true) : v = some (.ref a) := by
  unfold isRef at h
  split at h
  · rw [beq_iff_eq.mp h]
  · cases h
section
variable {w : World} {mb : Str → Option Value} {os : OsState}
theorem fat {a c : Addr} {st : Stmt} (h : Fn3 (HH w.params) a c st) : FnAt (WW w mb os) a st := (Fn3.fnC (W := WW w mb os) (P := 0) (l := []) h).at
theorem fct {a c P : Addr} {l : List (Pos × Str)} {st : Stmt} (h : Fn3 (HH w.params) a c st) : FnC (WW w mb os) a ⟨P, c, l⟩ st := Fn3.fnC (W := WW w mb os) h
theorem ww_gl : Gl (WW w mb os) fA where
  gl := fun x i h => isRef_eq (List.all_eq_true.mp (gl_look w.params) _ (assoc_mem h))
  bl := fun x v h => Option.isNone_iff_eq_none.mp (List.all_eq_true.mp (bl_look w.params) _ (assoc_mem h))
  fn := fun i h => by
    rw [stm_ts]
    simp only [fnums, List.contains_eq_mem, decide_eq_true_eq, List.mem_cons, List.not_mem_nil, or_false] at h
    rcases h with rfl | rfl | rfl | rfl | rfl | rfl | rfl | rfl | rfl | rfl | rfl | rfl | rfl | rfl | rfl | rfl | rfl | rfl | rfl | rfl | rfl | rfl
    · exact fat (mb := mb) (os := os) (fw5 w.params)
    · exact fat (mb := mb) (os := os) (fw10 w.params)
    · exact fat (mb := mb) (os := os) (fw13 w.params)
    · exact fat (mb := mb) (os := os) (fw16 w.params)
    · exact fat (mb := mb) (os := os) (fw19 w.params)
    · exact fat (mb := mb) (os := os) (fw21 w.params)
    · exact fat (mb := mb) (os := os) (fw22 w.params)
    · exact fat (mb := mb) (os := os) (fw31 w.params)
    · exact fat (mb := mb) (os := os) (fw33 w.params)
    · exact fat (mb := mb) (os := os) (fw36 w.params)
    · exact fat (mb := mb) (os := os) (fw37 w.params)
    · exact fat (mb := mb) (os := os) (fw38 w.params)
    · exact fat (mb := mb) (os := os) (fw39 w.params)
    · exact fat (mb := mb) (os := os) (fw42 w.params)
    · exact fat (mb := mb) (os := os) (fw43 w.params)
    · exact fat (mb := mb) (os := os) (fw44 w.params)
    · exact fat (mb := mb) (os := os) (fw45 w.params)
    · exact fat (mb := mb) (os := os) (fw46 w.params)
    · exact fat (mb := mb) (os := os) (fw47 w.params)
    · exact fat (mb := mb) (os := os) (fw48 w.params)
    · exact fat (mb := mb) (os := os) (fw49 w.params)
    · exact fat (mb := mb) (os := os) (fw50 w.params)
theorem ww_mem {t : Tb} (h : t ∈ (WW w mb os).tabs) : t = t10 ∨ t = t13 ∨ t = t21 := by simpa [WW] using h
theorem ww_bm (P : Addr) (hP : P ∈ [79, 96, 127]) : (HH w.params).BuiltinsAt (WW w mb os).mg P := by
  refine ⟨4, o4 w.params, isRef_eq (bm_look w.params), by decide, by decide, ?_, hh_get (g4 _) (by decide), by kernel_rfl, rfl, rfl⟩
  rintro rfl; revert hP; decide
theorem ww_hd10 (P : Params) : CodeHd (HH P) 83 79 := ⟨o83 P, _, _, _, _, _, _, _, _, hh_get (g83 P) (by decide), by kernel_rfl, rfl, rfl, rfl, rfl, rfl, rfl, rfl, by decide⟩
theorem ww_hd13 (P : Params) : CodeHd (HH P) 100 96 := ⟨o100 P, _, _, _, _, _, _, _, _, hh_get (g100 P) (by decide), by kernel_rfl, rfl, rfl, rfl, rfl, rfl, rfl, rfl, by decide⟩
theorem ww_hd21 (P : Params) : CodeHd (HH P) 131 127 := ⟨o131 P, _, _, _, _, _, _, _, _, hh_get (g131 P) (by decide), by kernel_rfl, rfl, rfl, rfl, rfl, rfl, rfl, rfl, by decide⟩
theorem cs_ns (P : Params) : ∃ mc, (HH P).Ns cStatics mc ∧ mc "sys.recursionlimit" = none ∧ mc sharingNotToldKey = none := by
  have h := cs_look P
  simp only [Bool.and_eq_true, Option.isNone_iff_eq_none] at h
  exact ⟨_, ns_move (Heap.Ns.of_isNs h.1.1) (g2 P) (hh_get (g2 P) (by decide)), h.1.2, h.2⟩
theorem ww_lb : Lb (WW w mb os) where
  hd := fun t ht => by
    rcases ww_mem ht with rfl | rfl | rfl
    · exact ⟨ww_hd10 _, ww_bm _ (by decide), by decide⟩
    · exact ⟨ww_hd13 _, ww_bm _ (by decide), by decide⟩
    · exact ⟨ww_hd21 _, ww_bm _ (by decide), by decide⟩
  one := fun t ht t' ht' e => by
    rcases ww_mem ht with rfl | rfl | rfl <;> rcases ww_mem ht' with rfl | rfl | rfl <;> first | rfl | (exact absurd e (by decide))
  pos := fun t ht => by
    rcases ww_mem ht with rfl | rfl | rfl
    · intro q hq q' hq'; simp only [cod10, List.mem_cons, List.not_mem_nil, or_false] at hq hq'; intros; rw [hq, hq']
    · intro q hq q' hq'; simp only [cod13, List.mem_cons, List.not_mem_nil, or_false] at hq hq'; intros; rw [hq, hq']
    · intro q hq q' hq' h1 h2
      simp only [cod21, List.mem_cons, List.not_mem_nil, or_false] at hq hq'
      rcases hq with rfl | rfl <;> rcases hq' with rfl | rfl <;> first | rfl | (exact absurd h1 (by decide))
  nb := let ⟨mc, a, _, b⟩ := cs_ns w.params; ⟨mc, a, b⟩
theorem ww_base {h : Heap} (Y : ∀ b o, (hp_fin w.params).get? b = some o → h.get? b = some o) (hb : h.Ns builtinsNs mb) (hq : ∀ x : Str, x ≠ "__name__" → mb x = bootBuiltins x) : Base (WW w mb os) where
  g := ns_move (Heap.Ns.of_isNs (mn_look w.params)) (g3 _) (hh_get (g3 _) (by decide))
  b := ns_move hb (Y _ _ (g0 _)) (hh_get (g0 _) (by decide))
  nolimit := let ⟨mc, a, b, _⟩ := cs_ns w.params; ⟨mc, a, b⟩
  builtins := hq
  notab := fun t ht => by rcases ww_mem ht with rfl | rfl | rfl <;> exact hh_no (by decide)
noncomputable abbrev DD : List (PyData × PyData) := dic.map fun p => (PyData.int p.1, p.2)
noncomputable def dOkB (c : Nat) : Bool := odd.contains c || (match KTD.datumAt (c : Int) dic with | none => c != 46 | some (.str x) => decide (x = T [92, c]) && !(Unicode.isAlnum c) | _ => false)
theorem d_ok : alph.all dOkB = true := by kernel_rfl
theorem dd_ok : DOk DD := by
  intro c hc ho
  have h := List.all_eq_true.mp d_ok c hc
  unfold dOkB at h
  rw [show odd.contains c = false from by simpa using ho, Bool.false_or] at h
  rw [KTD.lookup_keyed]
  split at h
  · rename_i e; exact .inl ⟨e, by simpa using h⟩
  · rename_i x e
    simp only [Bool.and_eq_true, decide_eq_true_eq, Bool.not_eq_true'] at h
    exact .inr ⟨by rw [e, h.1], h.2⟩
  · cases h
theorem ww_law : LawEnv (WW w mb os) fA t10 t13 t21 DD where
  B := ww_lb
  TE := ⟨by simp [WW], rfl, by rw [stm_ts]; exact fct (fw21 w.params), pt15 rfl, fun h hh => (KTD.keyed_of_look (fun a o e => hh a o e) (d_look w.params)) _ _, dd_ok⟩
  m10 := by simp [WW]
  c10 := rfl
  f10 := by rw [stm_ts]; exact fct (fw10 w.params)
  m13 := by simp [WW]
  c13 := rfl
  f13 := by rw [stm_ts]; exact fct (fw13 w.params)
  p6 := pt6 rfl
  p7 := pt7 rfl
  p8 := pt8 rfl
  p9 := pt9 rfl
  p4 := pt4 rfl
  p11 := pt11 rfl
  p12 := pt12 rfl
end
end
section
set_option maxHeartbeats 8000000
open PySem PySem.W PyProof.Rows
theorem int_inv {P : Params} {h : Heap} {v : Value} {n : Int} (x : Well P h v (.int n)) : ∃ t, v = .int n t := by cases x; exact ⟨_, rfl⟩
theorem ints_in {P : Params} {h : Heap} (ns : List Int) : ∀ {vs : List Value}, WellAll P h vs (ns.map .int) → ∃ ms : List (Int × Tok), vs = ms.map (fun x => .int x.1 x.2) ∧ ms.length = ns.length := by
  induction ns with
  | nil => intro vs x; cases x; exact ⟨[], rfl, rfl⟩
  | cons n r ih =>
    intro vs x
    obtain ⟨v, vs', rfl, a, b⟩ := wellAll_cons_inv x
    obtain ⟨t, rfl⟩ := int_inv a
    obtain ⟨ms, rfl, l⟩ := ih b
    exact ⟨(n, t) :: ms, rfl, congrArg (· + 1) l⟩
noncomputable abbrev rr : RowW := PySem.Challenge.rw_ik0076_01.row.toRowW
theorem pre_is : rr.pre = .and (.not (.lt (.lit (.int 63)) (.len (.arg 0)))) (.lit (.bool true)) := rfl
theorem post_is : rr.post = .eq .res (.lit (.bool true)) := rfl
theorem arg_in {args : List WData} (h : rr.claim.pre args = true) : ∃ ns : List Int, args = [.list (ns.map .int)] ∧ ns.length ≤ 63 := by
  obtain ⟨h1, h2⟩ := pre_splitW h
  obtain ⟨d, r, rfl, h3, h4⟩ := hasAllW_cons (show WShape.hasAll rr.records args (.list .int :: []) = true from h1)
  obtain rfl := hasAllW_nil h4
  obtain ⟨xs, rfl, h5⟩ := hasW_list h3
  obtain ⟨ns, rfl⟩ := items_int h5
  refine ⟨ns, rfl, ?_⟩
  rw [pre_is] at h2
  have h5 := condW_of (holds_andW h2).1 (w_not (w_lt w_lit (w_len_list (w_arg rfl))))
  simp at h5
  omega
theorem law_name : lawRec.1.name = ("law" : Str) := by kernel_rfl
theorem rm_caller : Rm 6 callerA := ⟨rfl, by decide, by decide⟩
theorem post_ok (args : List WData) : rr.claim.post args (.bool true) args = true := by
  show (WShape.has rr.records (.bool true) .bool && rr.post.holds rr.records { args := args, res := some (.bool true), after := args }) = true
  rw [post_is, holdsW_of_value (w_eq_bool (w_res rfl) w_lit)]
  rfl
theorem b_call : WalkO vw lse (fun _ _ => True) (fun w h => ∀ b o, (hp_fin w.params).get? b = some o → h.get? b = some o) PySem.Challenge.rw_ik0076_01.row.toRowW lawRec.1 lawRec.2 fun f vs => PySem.call f vs := by
  intro w s₀ s₁ mg mb G Y a o pm cd doc dV kV h1 h2 h3 h4 h5 hg args vals as hpre hlay hr hw _
  have B := ww_base (w := w) (os := s₁.os) Y G.T.b G.T.builtins
  have ea : a = 310 := by
    have e1 := (ww_gl (w := w) (mb := mb) (os := s₁.os)).gl "law" 50 rfl
    have e2 : (WW w mb s₁.os).mg = mg := by
      have x := (ns_move (Heap.Ns.of_isNs (mn_look w.params)) (g3 w.params) (Y _ _ (g3 w.params))).eq_nsMap
      have y := G.T.g.eq_nsMap
      exact x.trans y.symm
    rw [e2] at e1
    rw [law_name, e1] at h5
    cases h5; rfl
  subst ea
  obtain ⟨is, rfl, hl⟩ := arg_in hpre
  obtain ⟨v, vs', rfl, hw1, hw2⟩ := wellAll_cons_inv hw
  cases hw2
  cases hw1 with
  | @list P vs _ hP hvs =>
  obtain ⟨ns, rfl, hn⟩ := ints_in is hvs
  have nt : ∀ t ∈ (WW w mb s₁.os).tabs, s₁.heap.get? t.P = some (tabObj #[]) := fun t ht => by
    rcases ww_mem ht with rfl | rfl | rfl
    · exact Y _ _ (g79 w.params)
    · exact Y _ _ (g96 w.params)
    · exact Y _ _ (g127 w.params)
  have R : Rdy (WW w mb s₁.os) (hidT (WW w mb s₁.os) s₁.heap) s₁ := by
    refine ⟨B, fun b o e => ?_, fun b o e => (hidT_some e).1, fun t ht => ⟨⟨#[], nt t ht, trivial, fun q hq => .inl rfl⟩, ?_⟩, rfl, .of_eq hg⟩
    · refine hidT_of (Y _ _ (hh_of e)) fun t ht q => ?_
      subst q
      have := B.notab t ht
      rw [show (WW w mb s₁.os).h0.get? t.P = _ from e] at this; cases this
    · unfold hidT; rw [if_pos ⟨t, ht, rfl⟩]
  have hPg : hidT (WW w mb s₁.os) s₁.heap P = some (lst (ns.map fun x => .int x.1 x.2) 0) := by
    refine hidT_of hP fun t ht q => ?_
    subst q
    have := nt t ht
    rw [hP] at this; cases this
  have key := w_law (f := fA) rm_caller R ww_gl ww_law hPg (by omega) (Q := fun v s' => GoodWG rr.claim (classAt s₀.heap) (ExcName.means s₀.heap) [.list (is.map .int)] s₁ (.ok (.ret v)) s') ?_
  · exact wpAny_mono key (fun _ _ x => x) fun _ _ x => x.elim
  · intro v g' s' F hv
    subst hv
    refine ⟨.inl ⟨_, .bool true, [], rfl, fun _ => rfl, .bool true, post_ok _, fun _ => ⟨.nil, fun _ h => nomatch h⟩⟩, ⟨fun b o e => ?_, fun b o e => ?_⟩, F.rdy.os, F.rdy.gens⟩
    · by_cases q : ∃ t ∈ (WW w mb s₁.os).tabs, t.P = b
      · obtain ⟨t, ht, rfl⟩ := q
        have e1 := nt t ht
        rw [e1] at e
        obtain rfl := Option.some.inj e
        obtain ⟨ps, hp, _⟩ := (F.rdy.tabs t ht).1
        have ct : isCodeTable s₁.heap t.P := by
          have x := (ww_lb (w := w) (mb := mb) (os := s₁.os)).hd t ht
          exact ((x.1.keeps fun b o e => Y _ _ (hh_of e)).tab e1).isCodeTable
        exact .inr (.inl ⟨ct, rfl, #[], ps, rfl, by rw [hp]; simp⟩)
      · exact .inl (F.keep b o e fun t ht x => q ⟨t, ht, x⟩)
    · by_cases q : ∃ t ∈ (WW w mb s₁.os).tabs, t.P = b
      · obtain ⟨t, ht, rfl⟩ := q
        obtain ⟨ps, hp, _⟩ := (F.rdy.tabs t ht).1
        exact ⟨_, hp⟩
      · exact ⟨o, F.keep b o e fun t ht x => q ⟨t, ht, x⟩⟩
end
end Mine
theorem PySem.Challenge.cw_ik0076_01_holds : PySem.Challenge.rw_ik0076_01.Holds :=
  Mine.hd_law fun h => Mine.b_holds h Mine.b_call
