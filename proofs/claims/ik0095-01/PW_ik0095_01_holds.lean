import PyProof.Rows.All
import PyProof.TableCode
import PyProof.ZipIter
import PyProof.Rows.KernelRfl
import PyProof.TypeOfCall
import Wide.Tac
import KE.KAssignIn
import KE.LcSums
import KE.KCallBy
import KE.KLcFree
import KE.KLcTest
import KE.KLam
import KE.KDictList
import KE.KDictOf
import KE.KFromBytes
import KE.KSorted
import KE.KNestM
import KE.KPar
import KE.KSortAsk
import KE.KTryDeepN
import KE.KTryOn
import Wide.FinOn
import OpenK.AllK
import Wide.All
import Lean
import PySem.Challenge.RW_ik0095_01
open PySem PySem.W PySem.Calls PyProof.Rows
set_option Elab.async false
set_option maxRecDepth 100000
set_option maxHeartbeats 8000000
set_option linter.all false
set_option compiler.extract_closed false
set_option genInjectivity false
set_option genSizeOf false
namespace Mine
abbrev VP := Value → Shared → Prop
abbrev FP := Flow → Shared → Prop
abbrev UP := Unit → Shared → Prop
abbrev Led := List (Addr × Obj)
abbrev NM := Str → Option Value
open PySem renaming wpAny → zZ, Value → zY, Shared → zX, model → zW, Addr → zV, Around → zU, World → zT, recursionLimit → zS, starEach → zR, wpAny_of_eq → yK, wpAny_newObj_type → yJ, builtinLookup_eq_fast → yI, wpAny_callSpecial?_slot → yH, wpAny_ite_split → yG, sizeLine_eq → yF
open PySem.Str renaming ofString → zQ
open _root_.Array renaming mk → zP
open _root_.List renaming length_map → zO, mem_map → zN, map_cons → zM, mem_cons → zL, map_append → zK, nodup_cons → zJ, size_toArray → zI, mem_singleton → zH, getElem?_map → zF, mem_append → zE, length_append → zD, length_cons → yU, take_add_one → yS, take_length → yR, nodup_append → yQ, length_take → yP, getElem?_append_right → yE, getElem?_append_left → yD, sublist_cons_self → yC, mem_iff_getElem? → yB, length_nil → yA, foldl_cons → xZ, range → xY, find?_cons → xX, length_drop → xW, getD_eq_getElem?_getD → xV
open _root_.Bool renaming eq_false_iff → zG, false_ne_true → zA, false_eq_true → yZ, and_eq_true → yT
open PySem.SetTable renaming bits → zC
open PySem.Heap renaming lt_size → zB, get?_push_size → yO, get?_update_self → yL
open _root_.Nat renaming lt_irrefl → yY, le_refl → yX
open _root_.Int renaming le_refl → yW, toNat_natCast → yV
open PySem.Around renaming in1_units → yN, frames_deeper → yM
noncomputable section
abbrev w_b:=@wpAny_bind
abbrev w_p:=@wpAny_pure
abbrev w_m:=@wpAny_mono
abbrev w_h:=@wpAny_holding
abbrev w_c:=@wpAny_call_entry
abbrev w_s:=@wpAny_setState_of
abbrev l_e:=@List.getElem?_eq_getElem
abbrev l_r:=@List.mem_append_right
abbrev l_l:=@List.mem_append_left
abbrev l_m:=@List.mem_of_getElem?
abbrev l_o:=@List.mem_map_of_mem
abbrev l_j:=@Option.some.inj
abbrev l_u:=@Heap.SameBut.update
abbrev l_i:=@List.getElem?_eq_some_iff
abbrev l_f:=@decide_eq_false
abbrev l_t:=@decide_eq_true
theorem an2 {p1 p2 G:Prop}(h:p1∧p2) (k:p1→p2→G):G:=k h.1 h.2
theorem an3 {p1 p2 p3 G:Prop}(h:p1∧p2∧p3) (k:p1→p2→p3→G):G:=k h.1 h.2.1 h.2.2
theorem an4 {p1 p2 p3 p4 G:Prop}(h:p1∧p2∧p3∧p4) (k:p1→p2→p3→p4→G):G:=k h.1 h.2.1 h.2.2.1 h.2.2.2
theorem an5 {p1 p2 p3 p4 p5 G:Prop}(h:p1∧p2∧p3∧p4∧p5) (k:p1→p2→p3→p4→p5→G):G:=k h.1 h.2.1 h.2.2.1 h.2.2.2.1 h.2.2.2.2
theorem an6 {p1 p2 p3 p4 p5 p6 G:Prop}(h:p1∧p2∧p3∧p4∧p5∧p6) (k:p1→p2→p3→p4→p5→p6→G):G:=k h.1 h.2.1 h.2.2.1 h.2.2.2.1 h.2.2.2.2.1 h.2.2.2.2.2
theorem an7 {p1 p2 p3 p4 p5 p6 p7 G:Prop}(h:p1∧p2∧p3∧p4∧p5∧p6∧p7) (k:p1→p2→p3→p4→p5→p6→p7→G):G:=k h.1 h.2.1 h.2.2.1 h.2.2.2.1 h.2.2.2.2.1 h.2.2.2.2.2.1 h.2.2.2.2.2.2
theorem an8 {p1 p2 p3 p4 p5 p6 p7 p8 G:Prop}(h:p1∧p2∧p3∧p4∧p5∧p6∧p7∧p8) (k:p1→p2→p3→p4→p5→p6→p7→p8→G):G:=k h.1 h.2.1 h.2.2.1 h.2.2.2.1 h.2.2.2.2.1 h.2.2.2.2.2.1 h.2.2.2.2.2.2.1 h.2.2.2.2.2.2.2
theorem an9 {p1 p2 p3 p4 p5 p6 p7 p8 p9 G:Prop}(h:p1∧p2∧p3∧p4∧p5∧p6∧p7∧p8∧p9) (k:p1→p2→p3→p4→p5→p6→p7→p8→p9→G):G:=k h.1 h.2.1 h.2.2.1 h.2.2.2.1 h.2.2.2.2.1 h.2.2.2.2.2.1 h.2.2.2.2.2.2.1 h.2.2.2.2.2.2.2.1 h.2.2.2.2.2.2.2.2
open Lean in
def sxk (k : String) : Name := if k.startsWith "T." then `Lean.Parser.Tactic ++ (k.drop 2).toString.toName else if k.startsWith "t." then `Lean.Parser.Term ++ (k.drop 2).toString.toName else k.toName
open Lean in
def nd (k : String) (as : List Syntax) : Syntax := .node .none (sxk k) as.toArray
open Lean in
def wtm (c : String) : Syntax := nd "PySem.W.tacticWtm_at_" [mkAtom "wtm_at", nd "str" [mkAtom s!"\"{c}\""]]
open Lean in
def sxg (sc : String) (as : List Syntax) : List String → List Syntax → Syntax
 | [], s :: _ => s
 | [], [] => .missing
 | w :: ws, st =>
  let r := (w.drop 1).toString
  match w.front with
  | '\'' => sxg sc as ws (mkAtom r :: st)
  | '(' => sxg sc as ws (nd "t.hygienicLParen" [mkAtom "(", nd "hygieneInfo" [(mkIdent .anonymous).raw]] :: st)
  | '^' => sxg sc as ws ((mkIdent (r ++ sc).toName).raw :: st)
  | '@' => sxg sc as ws ((mkIdent r.toName).raw :: st)
  | '$' => sxg sc as ws (as.getD r.toNat! .missing :: st)
  | '_' => sxg sc as ws (nd "t.hole" [mkAtom "_"] :: st)
  | '?' => sxg sc as ws (nd "t.syntheticHole" [mkAtom "?", if r == "_" then mkAtom "_" else (mkIdent (r ++ sc).toName).raw] :: st)
  | '%' => sxg sc as ws (nd "t.byTactic" [mkAtom "by", nd "T.tacticSeq" [nd "T.tacticSeq1Indented" [nd "null" [wtm r]]]] :: st)
  | 'Q' => sxg sc as ws (nd "T.tacticSeq" [nd "T.tacticSeq1Indented" [nd "null" (st.take 1)]] :: st.drop 1)
  | _ =>
   let p := w.splitOn "/"
   let n := p.getLast!.toNat!
   sxg sc as ws (nd p.head! (st.take n).reverse :: st.drop n)
open Lean in
def sxs (sc : String) (as : List Syntax) (s : String) : Syntax := sxg sc as (s.splitOn " ") []
open Lean in
def sx (as : List Syntax) (s : String) : Syntax := sxs "" as s
open Lean in
def sqs (ts : List Syntax) : Syntax := sx [nd "null" (ts.intersperse (mkAtom ";"))] "'( $0 T.tacticSeq1Indented/1 T.tacticSeq/1 ') T.paren/3"
open Lean in
def fsts (ts : List Syntax) : Syntax := sx [nd "null" (ts.map fun t => sx [t] "'| $0 Q group/2")] "'first $0 T.first/2"
open Lean in
def tac1 (c : String) : Syntax := match c with
 | "k" => sx [] "'kernel_rfl tacticKernel_rfl/1"
 | "u" => sx [] "'with_unfolding_all 'rfl T.tacticRfl/1 Q T.withUnfoldingAll/2"
 | "a" => sx [] "'with_reducible 'assumption T.assumption/1 Q T.withReducible/2"
 | "A" => sx [] "'assumption T.assumption/1"
 | "d" => sx [] "'decide null/0 T.optConfig/1 T.decide/2"
 | "S" => sx [] "'simp null/0 T.optConfig/1 null/0 null/0 null/0 null/0 T.simp/6"
 | "i" => sx [] "'lia null/0 T.optConfig/1 T.lia/2"
 | "!" => sx [] "'kernel_rfl! PyProof.Rows.tacticKernel_rfl!/1"
 | "P" => sx [] "'with_unfolding_all 'exact @List.Perm.refl _ null/1 t.app/2 T.exact/2 Q T.withUnfoldingAll/2"
 | _ => wtm c
open Lean in
def mgW (sc w : String) : Syntax × List (Char × Syntax) :=
 let fn (b : String) : Syntax := sx [] ("'fun " ++ b ++ " null/0 '=> ?_ t.basicFun/4 t.fun/2")
 let p := w.splitOn ":"
 if p.length == 2 then (sxs sc [] ("?" ++ p.head!), [(p.getLast!.back, sxs sc [tac1 (p.getLast!.take 1).toString] ("'case ^" ++ p.head! ++ " Lean.binderIdent/1 null/0 T.caseArg/2 null/1 '=> $0 Q T.case/4"))])
 else if w == "?" then (sx [] "?_", [])
 else if w == "_" then (sx [] "_", [])
 else if w == "e" then (fn "_ null/1", [])
 else if w == "f" then (fn "_ _ null/2", [])
 else if w == "g" then (fn "_ _ _ null/3", [])
 else if w == "F" then (fn "_ _ @W' null/3", [('~', tac1 "w")])
 else if w == "H" then (fn "_ @W' null/2", [('~', tac1 "w")])
 else if w == "G" then (fn "_ _ @W' _ _ null/5", [('~', tac1 "w")])
 else if w == "na" || w == "nt" then (fn ("@" ++ w ++ " _ @W' _ _ null/5"), [('~', tac1 "w")])
 else if w.length == 1 && w != "W" && w != "Z" then (sx [tac1 w] "'by $0 Q t.byTactic/2", [])
 else if w == "ZH" then (sx [] "@Site.hh @Z null/1 t.app/2", [])
 else (sx [] ("@" ++ w), [])
open Lean in
def mgA (sc s : String) : Syntax :=
 let ws := s.splitOn " "
 let w1 := ws.getD 1 ""
 let ws := match ws.head! with
  | "!" => ["r_globK", "W", "Z", "gl_" ++ w1, "?", "k"]
  | "%" => ["r_bltinK", "W", "Z", "gl_" ++ w1, "bb_" ++ w1, "d", "?", "k"]
  | _ => ws
 if ws.head! == "*" then tac1 w1 else
 let as := ws.tail!.map (mgW sc)
 let cs := (as.map (·.2)).flatten
 let pl := ws.head!.startsWith "="
 let t := if as.isEmpty then sx [] ("@" ++ ws.head!) else sx [nd "null" (as.map (·.1))] ("@" ++ (if pl then (ws.head!.drop 1).toString else ws.head!) ++ " $0 t.app/2")
 let rf := if cs.all (·.1 == '~') then "refine" else "refine'"
 let r := sx [t] ("'" ++ rf ++ " $0 T." ++ rf ++ "/2")
 let r := if pl then r else sx [r] "'with_reducible $0 Q T.withReducible/2"
 let pick (f : Char → Bool) : List Syntax := (cs.filter fun c => f c.1).map (·.2)
 sqs (r :: (pick (· == '0') ++ pick (· == '1') ++ pick (· == '2') ++ pick (· == '3') ++ pick (· == '4') ++ pick (fun c => c.isAlpha) ++ (pick (· == '~')).take 1))
open Lean in
def tok (sc s : String) : Syntax := if s.startsWith "* " then mgA sc s else nd "PySem.W.tacticK_call_by______" [mkAtom "k_call_by", nd "str" [mkAtom s!"\"{s}\""], sx [] "_", nd "null" []]
open Lean in
def mgr (sc tbl : String) : Syntax :=
 let fl := sx [] "'fail '\"-\" str/1 null/1 T.fail/2"
 fsts (((tbl.splitOn " | ").map fun g =>
  let p := g.splitOn ": "
  let as := (p.getLast!.splitOn "; ").map (tok sc)
  if p.head! == "" then as
  else [sqs [sx [sx [] ("@" ++ p.head!)] "'fail_if_success 'fail_if_success 'with_reducible 'refine $0 ?_ null/1 t.app/2 T.refine/2 Q T.withReducible/2 Q T.failIfSuccess/2 Q T.failIfSuccess/2", fsts (as ++ [fl])]]).flatten ++ [fl])
open Lean in
def obt (q f : Syntax) : Syntax := sx [q, f] "'obtain $0 null/1 T.rcasesPatMed/1 null/1 null/0 ':= $1 null/1 null/2 T.obtain/4"
open Lean in
def strp : Nat → Syntax → Syntax
 | 0, s => s
 | n + 1, s => if s.getKind == sxk "T.rcasesPatLo" && s[1].getNumArgs == 0 then strp n s[0] else if s.getKind == sxk "T.rcasesPatMed" && s[0].getNumArgs == 1 then strp n s[0][0] else s
open Lean in
def frs (s : String) : MacroM Syntax := return (mkIdent (← Macro.addMacroScope (.mkSimple s))).raw
open Lean in
def obP (i : Nat) (q : Syntax) : MacroM (Syntax × List Syntax) := do
 let f ← frs s!"p{i}"
 let k := q.getKind
 if k == sxk "T.rcasesPat.one" && q[0].getId != `rfl then return (q[0], [])
 if k == sxk "T.rcasesPat.ignore" then return (f, [])
 if k == sxk "T.rcasesPat.clear" then return (f, [sx [f] "'clear $0 null/1 T.clear/2"])
 if k == sxk "T.rcasesPat.one" || k == sxk "T.rcasesPat.tuple" then return (f, [obt q f])
 Macro.throwUnsupported
open Lean in
def obGo : Nat → List Syntax → MacroM (List (Syntax × List Syntax))
 | _, [] => return []
 | i, q :: qs => return (← obP i q) :: (← obGo (i + 1) qs)
open Lean in
def obA (qs : List Syntax) (xs : List (Syntax × List Syntax)) (h r : Syntax) (lem : String) (j : Nat) (m : Nat) : Syntax :=
 let wh := m == xs.length
 let ys := (xs.take m).map (·.1) ++ (if wh then [] else [r])
 let rest := qs.drop m
 let q := if rest.length == 1 then rest.head! else sx [nd "null" (rest.intersperse (mkAtom ","))] "'⟨ $0 '⟩ T.rcasesPat.tuple/3"
 sqs ([sx [mkIdent (`Mine ++ Name.mkSimple s!"{lem}{j}"), h, nd "null" ys] "'refine $0 $1 'fun $2 null/0 '=> ?_ t.basicFun/4 t.fun/2 null/2 t.app/2 T.refine/2", sx [h] "'try 'clear $0 null/1 T.clear/2 Q T.tacticTry_/2"] ++ ((xs.take m).map (·.2)).flatten ++ (if wh then [] else [obt q r]))
structure Hg (G:Prop) where
 mk::
 (H:Prop) (h:G→H)
theorem hg {G:Prop}(k:∀ p:Hg G,p.H):G:=k ⟨G,id⟩
theorem id_wp {M:PySem.Model}{A:PySem.Around}{α:Type}{c:PySem.Sem α}{Q:α→PySem.Shared→Prop}{E:PySem.Value→PySem.Shared→Prop}{s:PySem.Shared}(k:PySem.wpAny M A c Q E s):PySem.wpAny M A c Q E s:=k
open Lean in
def hgt (t p : Syntax) : Syntax := fsts [sqs [sx [] "'fail_if_success 'fail_if_success 'with_reducible 'refine @id_wp ?_ null/1 t.app/2 T.refine/2 Q T.withReducible/2 Q T.failIfSuccess/2 Q T.failIfSuccess/2", sx [p] "'refine @hg 'fun $0 null/1 null/0 '=> ?_ t.basicFun/4 t.fun/2 null/1 t.app/2 T.refine/2", sx [t, sqs [sx [p] "'refine @Hg.h $0 ?_ null/2 t.app/2 T.refine/2", sx [p] "'clear $0 null/1 T.clear/2"]] "$0 '<;> $1 T.«tactic_<;>_»/3"], t]
open Lean in
local macro_rules
 | `(tactic| obtain ⟨$ps,*⟩ := $e) => do
  let qs := (ps.getElems.map (·.raw)).toList.map (strp 6)
  let n := qs.length
  if n < 2 then Macro.throwUnsupported
  let xs ← obGo 0 qs
  let h ← frs "hh"
  let r ← frs s!"r{n}"
  let idn := e.raw.isIdent
  let sh := idn && xs.any (fun x => x.1.getId == e.raw.getId)
  let h := if idn && !sh then e.raw else h
  let pp ← frs "pp"
  let js := ((List.range (n - 1)).drop 1).reverse
  let t := fsts ((if n ≤ 9 then [obA qs xs h r "ex" (n - 1) n] else []) ++ (if n ≤ 14 then [obA qs xs h r "an" n n] else []) ++ (js.filter (· ≤ 8)).map (fun j => obA qs xs h r "ex" j j) ++ (js.filter (· ≤ 13)).map (fun j => obA qs xs h r "an" (j + 1) j))
  let t := fsts [t, sx [h, nd "null" (qs.intersperse (mkAtom ","))] "'rcases null/0 $0 T.elimTarget/2 null/1 'with '⟨ $1 '⟩ T.rcasesPat.tuple/3 null/1 T.rcasesPatMed/1 null/0 T.rcasesPatLo/2 null/2 T.rcases/3"]
  let t := if xs.any (fun x => x.2.length > 0) then hgt t pp else t
  return (if sh then sqs [sx [e.raw] "'revert $0 null/1 T.revert/2", sx [h] "'intro $0 null/1 T.intro/2", t] else if idn then t else sqs [sx [h, e.raw] "'have null/0 t.letConfig/1 $0 t.letId/1 null/0 null/0 ':= $1 t.letIdDecl/5 t.letDecl/1 T.tacticHave__/3", t])
open Lean in
def riGo : Nat → List Syntax → MacroM (List Syntax)
 | _, [] => return []
 | i, p :: ps => do
  if p.getKind != sxk "T.rintroPat.one" then Macro.throwUnsupported
  let (x, ts) ← obP i p[0]
  let x := if p[0].getKind == sxk "T.rcasesPat.ignore" then sx [] "_" else x
  return sx [x] "'intro $0 null/1 T.intro/2" :: ts ++ (← riGo (i + 1) ps)
open Lean in
local macro_rules
 | `(tactic| rintro $ps*) => do
  let ps := (ps.map (·.raw)).toList
  unless ps.any (fun p => p[0].getKind == sxk "T.rcasesPat.tuple" && p[0][1].getNumArgs > 1) do Macro.throwUnsupported
  return sqs (← riGo 0 ps)
theorem room_lt {a k K l:Nat}(h:a+K<l) (hk:k≤K):a+k<l:=Nat.lt_of_le_of_lt (Nat.add_le_add_left hk a) h
theorem room_0 {a K l:Nat}(h:a+K<l):a<l:=Nat.lt_of_le_of_lt (Nat.le_add_right a K) h
theorem room_2 {a k k' K l:Nat}(h:a+K<l) (hk:k+k'≤K):a+k+k'<l:=by rw [Nat.add_assoc];exact room_lt h hk
open Lean in
local macro_rules | `(tactic| lia) => return (mgr "" ": * A; =room_0 A; =room_lt A d; =room_2 A d; =Nat.le_trans A d; =Nat.lt_of_lt_of_le A d; =Nat.lt_of_le_of_lt A d; =Nat.le_of_lt A; =Nat.le_of_not_lt A; =Nat.lt_of_not_le A; =Nat.zero_le _; =Nat.lt_succ_self _; =Int.le_of_lt A; =Int.le_trans A d; =Int.lt_of_lt_of_le A d; =Int.not_lt.mp A; =Int.not_le.mp A")
open Lean in
def msc : MacroM String := return toString (← MonadQuotation.getCurrMacroScope)
open Lean in
local macro_rules | `(tactic| k_call_by $s:str _) => return mgA (← msc) s.getString
open Lean in
def mac (c : String) : MacroM Syntax := do
 let sc ← msc
 let t (s : String) : MacroM Syntax := return mgr sc s
 let u (s : String) : MacroM Syntax := return sx [] s
 match c with
 | "l" => t ": * a; setm_self _ _ _; setm_nt k x:j; * L; setm_nt k x:l"
 | "j" => t ": * a; setm_self _ _ _; setm_nt k x:J"
 | "J" => t ": * a; setm_self _ _ _"
 | "h" => t ": * k; * a"
 | "L" => return fsts [sxs sc [tac1 "K"] "'( 'refine (( ?k ': ?T '→ ?T t.arrow/3 null/1 ') t.typeAscription/5 ?p null/1 t.app/2 T.refine/2 '; 'case ^p Lean.binderIdent/1 null/0 T.caseArg/2 null/1 '=> $0 Q T.case/4 '; 'case ^k Lean.binderIdent/1 null/0 T.caseArg/2 null/1 '=> 'intro _ null/1 T.intro/2 '; 'kernel_rfl tacticKernel_rfl/1 null/3 T.tacticSeq1Indented/1 T.tacticSeq/1 T.case/4 null/5 T.tacticSeq1Indented/1 T.tacticSeq/1 ') T.paren/3", mgA sc "setm_lk e:!1 h:a0"]
 | "K" => t ": setm_self _ _ _; setm_nt k x:K"
 | "m" => t ": List.mem_cons_self; List.mem_cons_of_mem _ x:m; l_r _ x:m; l_l _ x:m; * a"
 | "s" => t ": =Ls.kpw W a; =Wk.ls W m"
 | "t" => t ": =Tp.kpw W a; =Wk.tp W m"
 | "o" => t ": Wk.get W m; =kpw W a"
 | "w" => u "'( 'clear @W null/1 T.clear/2 '; 'rename @Wk _ _ _ _ _ null/5 t.app/2 '=> @W T.rename/4 null/3 T.tacticSeq1Indented/1 T.tacticSeq/1 ') T.paren/3"
 | "e" => t ": ev_name hv:l hx:k; ev_int; ev_none; ev_bool; ev_str; ev_add ha:e hb:e; ev_sub ha:e hb:e"
 | "f" => t ": evs_nil; evs_cons hn:k ha:e hb:f"
 | "n" => t ": cv_lt hl:e1 hr:e2 h:k3; cv_eq hl:e1 hr:e2 h:k3; cv_gt hl:e1 hr:e2 h:k3; cv_le hl:e1 hr:e2 h:k3; cv_ge hl:e1 hr:e2 h:k3"
 | "R" => t ": rf_le ha:E1 hb:E2; rf_lt ha:E1 hb:E2; rf_eq ha:E1 hb:E2; rf_ge ha:E1 hb:E2; rf_gt ha:E1 hb:E2; rf_nle ha:N1 hb:N2; rf_nlt ha:N1 hb:N2; rf_neq ha:N1 hb:N2; rf_nge ha:N1 hb:N2; rf_ngt ha:N1 hb:N2; rf_and ha:R1 hb:R2; rf_or ha:R1 hb:R2; rf_not ha:R; rf_ne ha:E1 hb:E2; rf_nne ha:N1 hb:N2; rf_ff; rf_imp ha:R1 hb:R2"
 | "E" => t ": rz_num; rz_add ha:E1 hb:E2; rz_sub ha:E1 hb:E2; rz_neg ha:E; rz_mul ha:E; rz_min ha:E1 hb:E2; rz_cast ha:N; rz_var ha:V"
 | "N" => t ": rn_num; rn_add ha:N1 hb:N2; rn_sub ha:N1 hb:N2; rn_suc ha:N; rn_mul ha:N; rn_min ha:N1 hb:N2; rn_toN ha:E; rn_var ha:V"
 | "V" => t ": lk0; lks ha:V; lkn"
 | "Y" => return sxs sc [tac1 "R"] "'( 'refine (( ?k ': @Rf ?T '[ null/0 '] «term[_]»/3 ?I '[ null/0 '] «term[_]»/3 ?N ?f null/6 t.app/2 '→ ?T t.arrow/3 null/1 ') t.typeAscription/5 ?p null/1 t.app/2 T.refine/2 '; 'case ^p Lean.binderIdent/1 null/0 T.caseArg/2 null/1 '=> $0 Q T.case/4 '; 'case ^k Lean.binderIdent/1 null/0 T.caseArg/2 null/1 '=> 'intro _ null/1 T.intro/2 '; 'exact @lin ?I ?N ?f %k null/4 t.app/2 T.exact/2 null/3 T.tacticSeq1Indented/1 T.tacticSeq/1 T.case/4 null/5 T.tacticSeq1Indented/1 T.tacticSeq/1 ') T.paren/3"
 | "x" => t ": List.Perm.refl _; pe1 h:x; pe2 h:x; pe3 h:x; pg0; pg1 h:x; pg2 h:x; pg3 h:x"
 | "p" => t ": List.Perm.refl _; pm_n h:p; pm_s h:p; pm_t h:p; pm_c h:x k:p; pm_a h:x k:p; pm_z h:x k:P; * q"
 | "q" => u "'( 'refine @prm_h ?_ null/1 t.app/2 T.refine/2 '; 'intro _ _ null/2 T.intro/2 '; 'simp null/0 T.optConfig/1 null/0 'only null/1 '[ null/0 null/0 @List.count_cons T.simpLemma/3 ', null/0 null/0 @List.count_append T.simpLemma/3 ', null/0 null/0 @List.count_nil T.simpLemma/3 ', null/0 null/0 @Nat.zero_add T.simpLemma/3 ', null/0 null/0 @Nat.add_zero T.simpLemma/3 null/9 '] null/3 null/0 T.simp/6 '<;> 'ac_rfl T.acRfl/1 T.«tactic_<;>_»/3 null/5 T.tacticSeq1Indented/1 T.tacticSeq/1 ') T.paren/3"
 | "b" => t ": List.Sublist.refl _; List.Sublist.cons_cons _ x:b; List.Sublist.cons _ x:b"
 | "c" => return sqs [mgA sc "id_name ?", mgA sc "=r_cell W u m a ? k k k"]
 | "z" => u "'( 'refine @s_attr @Z @W %o @sd @Nat.le_of_ble_eq_true %k null/1 t.app/2 %k 'fun _ _ @od' @sd' @W' null/5 null/0 '=> ?_ t.basicFun/4 t.fun/2 null/7 t.app/2 T.refine/2 '; 'replace @W t.letId/1 null/0 null/0 ':= @W' t.letIdDecl/5 t.letDecl/1 T.replace/2 '; 'replace @sd t.letId/1 null/0 null/0 ':= @sd' t.letIdDecl/5 t.letDecl/1 T.replace/2 '; 'clear @W' @sd' null/2 T.clear/2 null/7 T.tacticSeq1Indented/1 T.tacticSeq/1 ') T.paren/3"
 | "y" => u "'conv null/0 null/0 '=> 'lhs T.Conv.lhs/1 '; 'whnf T.Conv.whnf/1 '; 'simp null/0 T.optConfig/1 null/0 'only null/1 '[ null/0 null/0 @ofS T.simpLemma/3 ', null/0 null/0 @String.reduceToList T.simpLemma/3 ', null/0 null/0 @List.map_cons T.simpLemma/3 ', null/0 null/0 @List.map_nil T.simpLemma/3 ', null/0 null/0 @Char.reduceToNat T.simpLemma/3 null/9 '] null/3 T.Conv.simp/5 null/5 T.Conv.convSeq1Indented/1 T.Conv.convSeq/1 T.Conv.conv/5"
 | "a" | "u" | "k" | "!" => return tac1 c
 | "g" => t "id_name: r_localK W hv:l ? hx:k; ! deduplicate; ! deduplicate_unhashable; ! Match; ! SequenceMatcher; ! law_thing; ! law_kind; ! law_like; ! law_match; ! law_blocks; ! law_due; ! law_noted; ! law_made; ! law_told; ! law_firsts; ! law_same; % len; % range; % sum; % max; % zip; % type; % list; % dict; % set; % map; % enumerate; % tuple; % TypeError | id_eval: r_intE ?; evQ W hv:e ?; r_bin ?; r_cmp u ?; c_name ?; c_meth ? u; r_from ?; r_upto ?; r_neg ?; r_sub ?; n_tuple ?; n_list ?; r_cmp2 u ?; r_and ?; r_one ?; r_none ?; r_bool ?; r_strE ? | id_spl: a_nil ?; evsQ W hv:f ?; a_cons u ? | id_cmp: o_lt ?; o_eq ?; o_gt ?; o_le ?; o_ge ?; o_ne ? | id_bin: o_addE ?; o_subE ? | : o_iaddE ? | id_nx: x_next ?; x_ret ?; x_brk ?; x_cont ? | : x_cons ?; x_nil ? | id_exec: x_retE ?; x_if ?; x_expr ?; asgV W hv:e u H k; x_asg ? u; x_aug ?; x_tup ? u u; x_swap3 ? Z u u k k k k; x_break ?; x_continue ? | : r_tb ? | id_unr: o_negE ? | id_ite: ite_tt ?; ite_ff ?; ite_t A ?; ite_f A ?; ite_d e e; ite_b e e | id_true: cand W hx:n1 hy:n2 e; ct_lt W hl:e1 hr:e2 k ?; ct_eq W hl:e1 hr:e2 k ?; ct_gt W hl:e1 hr:e2 k ?; ct_le W hl:e1 hr:e2 k ?; ct_ge W hl:e1 hr:e2 k ?; ct_ne W hl:e1 hr:e2 k ?; i_cmp u ?; i_not ?; i_and ?; i_and1 ?; i_plain ? u | id_with: c_bltin0 u u ?; c_bltin1 u u ?; c_type u u ?; c_fn0 Z k u u ?; c_fn1 Z k u u ? | id_call: b_lenI hl:s hi:a hz:i f | id_sub: t_ints hl:s hi:a h0:i h1:i hz:i g hs:u | id_sub: t_t0 hl:t ? hs:u; t_t1 hl:t ? hs:u; t_t2 hl:t ? hs:u | id_gm: g_append W m ? | : inK_and Z W ? | : s_localK W H k | : sw_mk W F | id_asg: x_assignK W H k; u_tup2 W ZH t F k k k; u_tup3 W ZH t F k k k k | : m_tuple W S G"
 | _ => Macro.throwUnsupported
open Lean in
def mgx (s : TSyntax `str) (c tbl : String) : MacroM Syntax := if s.getString == c then return mgr (← msc) tbl else Macro.throwUnsupported
open Lean in
local macro_rules | `(tactic| wtm_at $s) => mac s.getString
local macro_rules | `(tactic| k_go) => return wtm "g"
local macro_rules | `(tactic| k_is) => return wtm "l"
local macro_rules | `(tactic| k_in) => return wtm "Y"
local macro_rules | `(tactic| k_ne) => return tac1 "k"
local macro_rules | `(tactic| kd_p) => return sx [wtm "g"] "'repeat' $0 Q T.repeat'/2"
abbrev PW:Program:=PySem.Challenge.pw_ik0095_01
noncomputable def st (p:Program) (k:Nat):Stmt:=p.main.body.getD k (.Pass ⟨0,0,0,0⟩)
set_option backward.match.sparseCases false
noncomputable def dA:Stmt→Arguments
 | .FunctionDef _ a _ _ _ _ _ _ _ _=>a
 |_=>⟨[],[],none,[],[],none,[]⟩
noncomputable def dB:Stmt→List Stmt
 | .FunctionDef _ _ b _ _ _ _ _ _ _=>b
 |_=>[]
noncomputable def dS:Stmt→Scope
 | .FunctionDef _ _ _ _ _ _ s _ _ _=>s
 |_=>{ kind:=.function,names:=[],isGenerator:=false,isCoroutine:=false,more:=[] }
noncomputable def cB:Stmt→List Stmt
 | .ClassDef _ _ _ b _ _ _ _ _ _ _=>b
 |_=>[]
noncomputable def docS (b:List Stmt):Str:=(docOf b).getD ⟨zP []⟩
def me (p:Program) (k j:Nat):Stmt:=(cB (st p k)).getD j (.Pass ⟨0,0,0,0⟩)
theorem ofS (s:String):zQ s=⟨zP (s.toList.map Char.toNat)⟩:=by
 rw [Str.ofString_eq_byList];rfl
noncomputable def withB (b:List Stmt):Stmt→Stmt
 | .ClassDef x0 x1 x2 _ x4 x5 x6 x7 x8 x9 x10=>.ClassDef x0 x1 x2 b x4 x5 x6 x7 x8 x9 x10
 | .FunctionDef x0 x1 _ x3 x4 x5 x6 x7 x8 x9=>.FunctionDef x0 x1 b x3 x4 x5 x6 x7 x8 x9
 |s=>s
set_option backward.match.sparseCases true
noncomputable def ub (s:Stmt) (j:Nat):Stmt:=(dB s).getD j (.Pass ⟨0,0,0,0⟩)
noncomputable def u1_0:Stmt:=let_mvar% ?f:=(_:Stmt);let_mvar% ?g:=(show ub (me PW 8 1) 0=?f by conv=>lhs;whnf);?f
noncomputable def u1_1:List Stmt:=let_mvar% ?f:=(_:List Stmt);let_mvar% ?g:=(show (dB (me PW 8 1)).tail=?f by wtm_at "y");?f
noncomputable def u1:Stmt:=let_mvar% ?f:=(_:Stmt);let_mvar% ?g:=(show withB (u1_0::u1_1) (me PW 8 1)=?f by wtm_at "y");?f
noncomputable def u2_0:Stmt:=let_mvar% ?f:=(_:Stmt);let_mvar% ?g:=(show ub (me PW 8 2) 0=?f by conv=>lhs;whnf);?f
noncomputable def u2_1:List Stmt:=let_mvar% ?f:=(_:List Stmt);let_mvar% ?g:=(show (dB (me PW 8 2)).tail=?f by wtm_at "y");?f
noncomputable def u2:Stmt:=let_mvar% ?f:=(_:Stmt);let_mvar% ?g:=(show withB (u2_0::u2_1) (me PW 8 2)=?f by wtm_at "y");?f
noncomputable def u3_0:Stmt:=let_mvar% ?f:=(_:Stmt);let_mvar% ?g:=(show ub (me PW 8 3) 0=?f by conv=>lhs;whnf);?f
noncomputable def u3_1:List Stmt:=let_mvar% ?f:=(_:List Stmt);let_mvar% ?g:=(show (dB (me PW 8 3)).tail=?f by wtm_at "y");?f
noncomputable def u3:Stmt:=let_mvar% ?f:=(_:Stmt);let_mvar% ?g:=(show withB (u3_0::u3_1) (me PW 8 3)=?f by wtm_at "y");?f
noncomputable def u4_0:Stmt:=let_mvar% ?f:=(_:Stmt);let_mvar% ?g:=(show ub (me PW 8 4) 0=?f by conv=>lhs;whnf);?f
noncomputable def u4_1:List Stmt:=let_mvar% ?f:=(_:List Stmt);let_mvar% ?g:=(show (dB (me PW 8 4)).tail=?f by wtm_at "y");?f
noncomputable def u4:Stmt:=let_mvar% ?f:=(_:Stmt);let_mvar% ?g:=(show withB (u4_0::u4_1) (me PW 8 4)=?f by wtm_at "y");?f
noncomputable def u5:Stmt:=let_mvar% ?f:=(_:Stmt);let_mvar% ?g:=(show me PW 8 5=?f by wtm_at "y");?f
noncomputable def u6_0:Stmt:=let_mvar% ?f:=(_:Stmt);let_mvar% ?g:=(show ub (me PW 8 6) 0=?f by conv=>lhs;whnf);?f
noncomputable def u6_1:List Stmt:=let_mvar% ?f:=(_:List Stmt);let_mvar% ?g:=(show (dB (me PW 8 6)).tail=?f by wtm_at "y");?f
noncomputable def u6:Stmt:=let_mvar% ?f:=(_:Stmt);let_mvar% ?g:=(show withB (u6_0::u6_1) (me PW 8 6)=?f by wtm_at "y");?f
noncomputable def u7_0:Stmt:=let_mvar% ?f:=(_:Stmt);let_mvar% ?g:=(show ub (me PW 8 7) 0=?f by conv=>lhs;whnf);?f
noncomputable def u7_1:List Stmt:=let_mvar% ?f:=(_:List Stmt);let_mvar% ?g:=(show (dB (me PW 8 7)).tail=?f by wtm_at "y");?f
noncomputable def u7:Stmt:=let_mvar% ?f:=(_:Stmt);let_mvar% ?g:=(show withB (u7_0::u7_1) (me PW 8 7)=?f by wtm_at "y");?f
noncomputable def u8:Stmt:=let_mvar% ?f:=(_:Stmt);let_mvar% ?g:=(show me PW 8 8=?f by wtm_at "y");?f
noncomputable def u9:Stmt:=let_mvar% ?f:=(_:Stmt);let_mvar% ?g:=(show me PW 8 9=?f by wtm_at "y");?f
noncomputable def u10_0:Stmt:=let_mvar% ?f:=(_:Stmt);let_mvar% ?g:=(show ub (me PW 8 10) 0=?f by conv=>lhs;whnf);?f
noncomputable def u10_1:List Stmt:=let_mvar% ?f:=(_:List Stmt);let_mvar% ?g:=(show (dB (me PW 8 10)).tail=?f by wtm_at "y");?f
noncomputable def u10:Stmt:=let_mvar% ?f:=(_:Stmt);let_mvar% ?g:=(show withB (u10_0::u10_1) (me PW 8 10)=?f by wtm_at "y");?f
noncomputable def u11:Stmt:=let_mvar% ?f:=(_:Stmt);let_mvar% ?g:=(show me PW 8 11=?f by wtm_at "y");?f
noncomputable def u12:Stmt:=let_mvar% ?f:=(_:Stmt);let_mvar% ?g:=(show me PW 8 12=?f by wtm_at "y");?f
noncomputable def u8d:Stmt:=let_mvar% ?f:=(_:Stmt);let_mvar% ?g:=(show (cB (st PW 8)).getD 0 (.Pass ⟨0,0,0,0⟩)=?f by conv=>lhs;whnf);?f
noncomputable def u8e:Stmt:=let_mvar% ?f:=(_:Stmt);let_mvar% ?g:=(show u8d=?f by conv=>lhs;delta u8d;simp only [ofS,String.reduceToList,zM,List.map_nil,Char.reduceToNat]);?f
theorem lit {l:List Nat}{s:String}(h:s=String.ofList (l.map Char.ofNat)) (k:(l.map Char.ofNat).map Char.toNat=l):zQ s=⟨zP l⟩:=by
 rw [h];exact (PySem.W.Fast.ofString_ofList _).trans (congrArg (fun l=>Str.mk (zP l)) k)
theorem u8_eq:u8d=u8e:=by
 delta u8d u8e
 refine congrArg (fun s=>Stmt.Expr (.Constant (.str s) _ _) _) (lit ?_ ?_) <;> k_ne
noncomputable def ucl (d:Stmt):Stmt:=let_mvar% ?f:=(_:Stmt);let_mvar% ?g:=(show withB [d,u1,u2,u3,u4,u5,u6,u7,u8,u9,u10,u11,u12] (st PW 8)=?f by wtm_at "y");?f
noncomputable def v0:Stmt:=let_mvar% ?f:=(_:Stmt);let_mvar% ?g:=(show st PW 0=?f by wtm_at "y");?f
noncomputable def v1:Stmt:=let_mvar% ?f:=(_:Stmt);let_mvar% ?g:=(show st PW 1=?f by wtm_at "y");?f
noncomputable def v2:Stmt:=let_mvar% ?f:=(_:Stmt);let_mvar% ?g:=(show st PW 2=?f by wtm_at "y");?f
noncomputable def v3:Stmt:=let_mvar% ?f:=(_:Stmt);let_mvar% ?g:=(show st PW 3=?f by wtm_at "y");?f
noncomputable def v4:Stmt:=let_mvar% ?f:=(_:Stmt);let_mvar% ?g:=(show st PW 4=?f by wtm_at "y");?f
noncomputable def v5:Stmt:=let_mvar% ?f:=(_:Stmt);let_mvar% ?g:=(show st PW 5=?f by wtm_at "y");?f
noncomputable def v6:Stmt:=let_mvar% ?f:=(_:Stmt);let_mvar% ?g:=(show st PW 6=?f by wtm_at "y");?f
noncomputable def v7:Stmt:=let_mvar% ?f:=(_:Stmt);let_mvar% ?g:=(show st PW 7=?f by wtm_at "y");?f
noncomputable def v9:Stmt:=let_mvar% ?f:=(_:Stmt);let_mvar% ?g:=(show st PW 9=?f by wtm_at "y");?f
noncomputable def v10:Stmt:=let_mvar% ?f:=(_:Stmt);let_mvar% ?g:=(show st PW 10=?f by wtm_at "y");?f
noncomputable def v11:Stmt:=let_mvar% ?f:=(_:Stmt);let_mvar% ?g:=(show st PW 11=?f by wtm_at "y");?f
noncomputable def v12:Stmt:=let_mvar% ?f:=(_:Stmt);let_mvar% ?g:=(show st PW 12=?f by wtm_at "y");?f
noncomputable def v13:Stmt:=let_mvar% ?f:=(_:Stmt);let_mvar% ?g:=(show st PW 13=?f by wtm_at "y");?f
noncomputable def v14:Stmt:=let_mvar% ?f:=(_:Stmt);let_mvar% ?g:=(show st PW 14=?f by wtm_at "y");?f
noncomputable def v15:Stmt:=let_mvar% ?f:=(_:Stmt);let_mvar% ?g:=(show st PW 15=?f by wtm_at "y");?f
noncomputable def v16:Stmt:=let_mvar% ?f:=(_:Stmt);let_mvar% ?g:=(show st PW 16=?f by wtm_at "y");?f
noncomputable def v17:Stmt:=let_mvar% ?f:=(_:Stmt);let_mvar% ?g:=(show st PW 17=?f by wtm_at "y");?f
noncomputable def v18:Stmt:=let_mvar% ?f:=(_:Stmt);let_mvar% ?g:=(show st PW 18=?f by wtm_at "y");?f
noncomputable def v19:Stmt:=let_mvar% ?f:=(_:Stmt);let_mvar% ?g:=(show st PW 19=?f by wtm_at "y");?f
noncomputable def v20:Stmt:=let_mvar% ?f:=(_:Stmt);let_mvar% ?g:=(show st PW 20=?f by wtm_at "y");?f
noncomputable def v21:Stmt:=let_mvar% ?f:=(_:Stmt);let_mvar% ?g:=(show st PW 21=?f by wtm_at "y");?f
noncomputable def pScope:Scope:=let_mvar% ?f:=(_:Scope);let_mvar% ?g:=(show PW.main.scope=?f by wtm_at "y");?f
noncomputable def pFile:Str:=let_mvar% ?f:=(_:Str);let_mvar% ?g:=(show PW.main.file=?f by wtm_at "y");?f
noncomputable def pMore:List (Str×Const):=let_mvar% ?f:=(_:List (Str×Const));let_mvar% ?g:=(show PW.main.more=?f by wtm_at "y");?f
noncomputable def pMod:List (Str×Bool×Module):=let_mvar% ?f:=(_:List (Str×Bool×Module));let_mvar% ?g:=(show PW.modules=?f by conv=>lhs;whnf);?f
noncomputable def pPar:List Parse:=let_mvar% ?f:=(_:List Parse);let_mvar% ?g:=(show PW.parses=?f by conv=>lhs;whnf);?f
noncomputable def pAbs:List Str:=let_mvar% ?f:=(_:List Str);let_mvar% ?g:=(show PW.absent=?f by conv=>lhs;whnf);?f
noncomputable def pHar:List Parse:=let_mvar% ?f:=(_:List Parse);let_mvar% ?g:=(show PW.harvested=?f by conv=>lhs;whnf);?f
noncomputable def pGiv:Given:=let_mvar% ?f:=(_:Given);let_mvar% ?g:=(show PW.given=?f by conv=>lhs;whnf);?f
noncomputable def PR (d:Stmt):Program:=⟨⟨[v0,v1,v2,v3,v4,v5,v6,v7,ucl d,v9,v10,v11,v12,v13,v14,v15,v16,v17,v18,v19,v20,v21],pScope,PW.main.futureAnnotations,pFile,pMore⟩,pMod,pPar,pAbs,pHar,pGiv⟩
noncomputable abbrev PQ:Program:=PR u8e
theorem PQ_eq:PW=PQ:=(show PW=PR u8d by k_ne).trans (congrArg PR u8_eq)
noncomputable abbrev sM (l:List Nat):Str:=Str.mk (zP l)
def n0:Str:=sM [60,109,111,100,117,108,101,62]
def n1:Str:=sM [47,99,108,97,105,109,47,99,117,116,46,112,121]
def n2:Str:=sM [95,95,109,97,105,110,95,95]
def n3:Str:=sM [95,95,110,97,109,101,95,95]
def n4:Str:=sM [99,112,121,51,49,51,46,100,105,102,102,108,105,98]
def n5:Str:=sM [95,95,100,111,99,95,95]
def n6:Str:=sM [95,95,112,97,99,107,97,103,101,95,95]
def n7:Str:=sM [95,95,108,111,97,100,101,114,95,95]
def n8:Str:=sM [95,95,115,112,101,99,95,95]
def n9:Str:=sM [95,95,97,110,110,111,116,97,116,105,111,110,115,95,95]
def n10:Str:=sM [95,95,98,117,105,108,116,105,110,115,95,95]
def n11:Str:=sM [95,95,102,105,108,101,95,95]
def n12:Str:=sM [95,95,99,97,99,104,101,100,95,95]
def n13:Str:=sM [95,119,97,108,108]
def n14:Str:=sM [95,100,101,100,117,112,108,105,99,97,116,101]
def n15:Str:=sM [95,100,101,100,117,112,108,105,99,97,116,101,95,117,110,104,97,115,104,97,98,108,101]
def n16:Str:=sM [95,116,117,112,108,101,103,101,116,116,101,114]
def n17:Str:=sM [107]
def n18:Str:=sM [117,110,104,97,115,104,97,98,108,101,95,102,97,108,108,98,97,99,107]
def n19:Str:=sM [112,97,114,97,109,115]
def n20:Str:=sM [99,112,121,51,49,51,46,116,121,112,105,110,103]
def n21:Str:=sM [117,110,104,97,115,104,97,98,108,101,95,112,97,114,97,109,115]
def n22:Str:=sM [110,101,119,95,117,110,104,97,115,104,97,98,108,101]
def n23:Str:=sM [116]
def n24:Str:=sM [95,95,109,111,100,117,108,101,95,95]
def n25:Str:=sM [95,95,113,117,97,108,110,97,109,101,95,95]
def n26:Str:=sM [95,95,102,105,114,115,116,108,105,110,101,110,111,95,95]
def n27:Str:=sM [95,95,105,110,105,116,95,95]
def n28:Str:=sM [95,95,103,101,116,95,95]
def n29:Str:=sM [95,95,115,101,116,95,95]
def n30:Str:=sM [95,95,100,101,108,101,116,101,95,95]
def n31:Str:=sM [95,95,115,116,97,116,105,99,95,97,116,116,114,105,98,117,116,101,115,95,95]
def n32:Str:=sM [115,101,108,102]
def n33:Str:=sM [105,110,100,101,120]
def n34:Str:=sM [100,111,99]
def n35:Str:=sM [95,116,117,112,108,101,103,101,116,116,101,114,46,95,95,105,110,105,116,95,95]
def n36:Str:=sM [111,98,106]
def n37:Str:=sM [111,98,106,116,121,112,101]
def n38:Str:=sM [95,116,117,112,108,101,103,101,116,116,101,114,46,95,95,103,101,116,95,95]
def n39:Str:=sM [118,97,108,117,101]
def n40:Str:=sM [95,116,117,112,108,101,103,101,116,116,101,114,46,95,95,115,101,116,95,95]
def n41:Str:=sM [95,116,117,112,108,101,103,101,116,116,101,114,46,95,95,100,101,108,101,116,101,95,95]
def n42:Str:=sM [95,95,100,105,99,116,95,95]
def n43:Str:=sM [95,95,119,101,97,107,114,101,102,95,95]
def n44:Str:=sM [77,97,116,99,104]
def n45:Str:=sM [95,99,97,108,99,117,108,97,116,101,95,114,97,116,105,111]
def n46:Str:=sM [95,95,115,108,111,116,115,95,95]
def n47:Str:=sM [95,102,105,101,108,100,115]
def n48:Str:=sM [95,102,105,101,108,100,95,100,101,102,97,117,108,116,115]
def n49:Str:=sM [95,95,110,101,119,95,95]
def n50:Str:=sM [95,109,97,107,101]
def n51:Str:=sM [95,114,101,112,108,97,99,101]
def n52:Str:=sM [95,95,114,101,112,108,97,99,101,95,95]
def n53:Str:=sM [95,95,114,101,112,114,95,95]
def n54:Str:=sM [95,97,115,100,105,99,116]
def n55:Str:=sM [95,95,103,101,116,110,101,119,97,114,103,115,95,95]
def n56:Str:=sM [95,95,109,97,116,99,104,95,97,114,103,115,95,95]
def n57:Str:=sM [97]
def n58:Str:=sM [98]
def n59:Str:=sM [115,105,122,101]
def n60:Str:=sM [95,95,99,108,97,115,115,99,101,108,108,95,95]
def n61:Str:=sM [95,99,108,115]
def n62:Str:=sM [77,97,116,99,104,46,95,95,110,101,119,95,95]
def n63:Str:=sM [99,108,115]
def n64:Str:=sM [105,116,101,114,97,98,108,101]
def n65:Str:=sM [114,101,115,117,108,116]
def n66:Str:=sM [77,97,116,99,104,46,95,109,97,107,101]
def n67:Str:=sM [95,95,99,108,97,115,115,95,95]
def n68:Str:=sM [107,119,100,115]
def n69:Str:=sM [77,97,116,99,104,46,95,114,101,112,108,97,99,101]
def n70:Str:=sM [77,97,116,99,104,46,95,95,114,101,112,114,95,95]
def n71:Str:=sM [77,97,116,99,104,46,95,97,115,100,105,99,116]
def n72:Str:=sM [77,97,116,99,104,46,95,95,103,101,116,110,101,119,97,114,103,115,95,95]
def n73:Str:=sM [65,108,105,97,115,32,102,111,114,32,102,105,101,108,100,32,110,117,109,98,101,114,32,48]
def n74:Str:=sM [65,108,105,97,115,32,102,111,114,32,102,105,101,108,100,32,110,117,109,98,101,114,32,49]
def n75:Str:=sM [65,108,105,97,115,32,102,111,114,32,102,105,101,108,100,32,110,117,109,98,101,114,32,50]
def n76:Str:=sM [109,97,116,99,104,101,115]
def n77:Str:=sM [108,101,110,103,116,104]
def n78:Str:=sM [83,101,113,117,101,110,99,101,77,97,116,99,104,101,114]
def n79:Str:=sM [115,101,116,95,115,101,113,115]
def n80:Str:=sM [115,101,116,95,115,101,113,49]
def n81:Str:=sM [115,101,116,95,115,101,113,50]
def n82:Str:=sM [95,83,101,113,117,101,110,99,101,77,97,116,99,104,101,114,95,95,99,104,97,105,110,95,98]
def n83:Str:=sM [102,105,110,100,95,108,111,110,103,101,115,116,95,109,97,116,99,104]
def n84:Str:=sM [103,101,116,95,109,97,116,99,104,105,110,103,95,98,108,111,99,107,115]
def n85:Str:=sM [103,101,116,95,111,112,99,111,100,101,115]
def n86:Str:=sM [103,101,116,95,103,114,111,117,112,101,100,95,111,112,99,111,100,101,115]
def n87:Str:=sM [114,97,116,105,111]
def n88:Str:=sM [113,117,105,99,107,95,114,97,116,105,111]
def n89:Str:=sM [114,101,97,108,95,113,117,105,99,107,95,114,97,116,105,111]
def n90:Str:=sM []
def n91:Str:=sM [105,115,106,117,110,107]
def n92:Str:=sM [97,117,116,111,106,117,110,107]
def n93:Str:=sM [83,101,113,117,101,110,99,101,77,97,116,99,104,101,114,46,95,95,105,110,105,116,95,95]
def n94:Str:=sM [83,101,113,117,101,110,99,101,77,97,116,99,104,101,114,46,115,101,116,95,115,101,113,115]
def n95:Str:=sM [83,101,113,117,101,110,99,101,77,97,116,99,104,101,114,46,115,101,116,95,115,101,113,49]
def n96:Str:=sM [83,101,113,117,101,110,99,101,77,97,116,99,104,101,114,46,115,101,116,95,115,101,113,50]
def n97:Str:=sM [98,50,106]
def n98:Str:=sM [105]
def n99:Str:=sM [101,108,116]
def n100:Str:=sM [105,110,100,105,99,101,115]
def n101:Str:=sM [106,117,110,107]
def n102:Str:=sM [112,111,112,117,108,97,114]
def n103:Str:=sM [110]
def n104:Str:=sM [110,116,101,115,116]
def n105:Str:=sM [105,100,120,115]
def n106:Str:=sM [95,95,99,104,97,105,110,95,98]
def n107:Str:=sM [83,101,113,117,101,110,99,101,77,97,116,99,104,101,114,46,95,95,99,104,97,105,110,95,98]
def n108:Str:=sM [97,108,111]
def n109:Str:=sM [97,104,105]
def n110:Str:=sM [98,108,111]
def n111:Str:=sM [98,104,105]
def n112:Str:=sM [105,115,98,106,117,110,107]
def n113:Str:=sM [98,101,115,116,105]
def n114:Str:=sM [98,101,115,116,106]
def n115:Str:=sM [98,101,115,116,115,105,122,101]
def n116:Str:=sM [106,50,108,101,110]
def n117:Str:=sM [110,111,116,104,105,110,103]
def n118:Str:=sM [106,50,108,101,110,103,101,116]
def n119:Str:=sM [110,101,119,106,50,108,101,110]
def n120:Str:=sM [106]
def n121:Str:=sM [83,101,113,117,101,110,99,101,77,97,116,99,104,101,114,46,102,105,110,100,95,108,111,110,103,101,115,116,95,109,97,116,99,104]
def n122:Str:=sM [108,97]
def n123:Str:=sM [108,98]
def n124:Str:=sM [113,117,101,117,101]
def n125:Str:=sM [109,97,116,99,104,105,110,103,95,98,108,111,99,107,115]
def n126:Str:=sM [120]
def n127:Str:=sM [105,49]
def n128:Str:=sM [106,49]
def n129:Str:=sM [107,49]
def n130:Str:=sM [110,111,110,95,97,100,106,97,99,101,110,116]
def n131:Str:=sM [105,50]
def n132:Str:=sM [106,50]
def n133:Str:=sM [107,50]
def n134:Str:=sM [83,101,113,117,101,110,99,101,77,97,116,99,104,101,114,46,103,101,116,95,109,97,116,99,104,105,110,103,95,98,108,111,99,107,115]
def n135:Str:=sM [83,101,113,117,101,110,99,101,77,97,116,99,104,101,114,46,103,101,116,95,111,112,99,111,100,101,115]
def n136:Str:=sM [83,101,113,117,101,110,99,101,77,97,116,99,104,101,114,46,103,101,116,95,103,114,111,117,112,101,100,95,111,112,99,111,100,101,115]
def n137:Str:=sM [83,101,113,117,101,110,99,101,77,97,116,99,104,101,114,46,114,97,116,105,111]
def n138:Str:=sM [83,101,113,117,101,110,99,101,77,97,116,99,104,101,114,46,113,117,105,99,107,95,114,97,116,105,111]
def n139:Str:=sM [83,101,113,117,101,110,99,101,77,97,116,99,104,101,114,46,114,101,97,108,95,113,117,105,99,107,95,114,97,116,105,111]
def n140:Str:=sM [98,106,117,110,107]
def n141:Str:=sM [98,112,111,112,117,108,97,114]
def n142:Str:=sM [102,117,108,108,98,99,111,117,110,116]
def n143:Str:=sM [111,112,99,111,100,101,115]
def n144:Str:=sM [108,97,119,95,105,107,48,48,57,53,95,48,49]
def n145:Str:=sM [95,108,97,119,95,116,104,105,110,103]
def n146:Str:=sM [95,108,97,119,95,107,105,110,100]
def n147:Str:=sM [95,108,97,119,95,108,105,107,101]
def n148:Str:=sM [95,108,97,119,95,109,97,116,99,104]
def n149:Str:=sM [95,108,97,119,95,98,108,111,99,107,115]
def n150:Str:=sM [95,108,97,119,95,100,117,101]
def n151:Str:=sM [95,108,97,119,95,110,111,116,101,100]
def n152:Str:=sM [95,108,97,119,95,109,97,100,101]
def n153:Str:=sM [95,108,97,119,95,116,111,108,100]
def n154:Str:=sM [95,108,97,119,95,102,105,114,115,116,115]
def n155:Str:=sM [95,108,97,119,95,115,97,109,101]
def n156:Str:=sM [108,97,119]
def n157:Str:=sM [111,110,101]
def n158:Str:=sM [111,116,104,101,114]
def n159:Str:=sM [112]
def n160:Str:=sM [113]
def n161:Str:=sM [111,100,100]
def n162:Str:=sM [115,116,97,114,116]
def n163:Str:=sM [112,108,97,99,101]
def n164:Str:=sM [109,111,114,101]
def n165:Str:=sM [97,104,101,97,100]
def n166:Str:=sM [98,101,104,105,110,100]
def n167:Str:=sM [100,117,101]
def n168:Str:=sM [97,115,107,101,100]
def n169:Str:=sM [116,104,105,110,103]
def n170:Str:=sM [110,117,109,98,101,114]
def n171:Str:=sM [106,117,100,103,101]
def n172:Str:=sM [116,104,105,110,103,115]
def n173:Str:=sM [111,116,104,101,114,115]
def n174:Str:=sM [116,111,108,100]
abbrev PO:=Program→Params→Obj
noncomputable abbrev iV (n:Nat):zY:=.int (Int.ofNat n) 0
noncomputable abbrev kh:=@PyData.keyHash
noncomputable abbrev tO (l:List zY):Obj:=⟨.type "tuple",none,.seq (zP l) 0,zP []⟩
noncomputable abbrev fO (l:List zY):Obj:=⟨.none,none,.fields (zP l),zP []⟩
noncomputable abbrev cO (a:Str) (t1:Nat) (b:Str) (t2 t3 i1 i2 i3 i4 i5:Nat) (r1:zY) (bo:Bool) (r2 z1 z2 z3 z4:zY) (g t4:Nat):Obj:=⟨.type "code",none,.fields (zP [.str a t1,.str b t2,.str n1 t3,iV i1,iV i2,iV i3,iV i4,iV i5,r1,.bool bo,iV 181,r2,z1,z2,z3,z4,iV g,iV i1,.str n1 t4]),zP []⟩
noncomputable abbrev f0 (n q:Str) (s:Stmt):Obj:=⟨.none,none,.func { name:=n,qualname:=q,params:=dA s,body:=.stmts (dB s),scope:=dS s,globals:=0,closure:=[],defaults:=.none,kwdefaults:=.none,doc:=.none,pyModule:=.none,annotations:=none,code:=.none,closureTuple:=.none,builtins:=0 },zP []⟩
noncomputable abbrev f3 (n q:Str) (s:Stmt) (d kd doc pm cd:zY):Obj:=⟨.type "function",none,.func { name:=n,qualname:=q,params:=dA s,body:=.stmts (dB s),scope:=dS s,globals:=3,closure:=[],defaults:=d,kwdefaults:=kd,doc:=doc,pyModule:=pm,annotations:=none,code:=cd,closureTuple:=.none,builtins:=0 },zP []⟩
def o11_0:PO:=fun p P=>tO []
def o12_0:PO:=fun p P=>fO []
def o13_0:PO:=fun p P=>cO n0 182 n0 183 184 1 0 0 0 0 (.ref 11) false (.ref 12) .none .none .none .none 185 186
def o14_0:PO:=fun p P=>⟨(.type "frame"),none,.plain,zP [(some (.ref 13)),(some (.ref 3)),(some (.ref 3)),none,(some (.str n2 164)),none,(some (.ref 0))]⟩
def o3_5:PO:=fun p P=>⟨(.type "dict"),none,(.dict (zP [⟨kh P n3,.str n3 165,(.str n4 214)⟩,⟨kh P n5,.str n5 166,.none⟩,⟨kh P n6,.str n6 167,.none⟩,⟨kh P n7,.str n7 168,(.builtin "__main__.__loader__#opaque")⟩,⟨kh P n8,.str n8 169,.none⟩,⟨kh P n9,.str n9 170,(.ref 6)⟩,⟨kh P n10,.str n10 171,(.ref 4)⟩,⟨kh P n11,.str n11 173,(.str n1 172)⟩,⟨kh P n12,.str n12 174,.none⟩,⟨kh P n13,.str n13 193,(.ref 21)⟩,⟨kh P n14,.str n14 204,(.ref 29)⟩,⟨kh P n15,.str n15 213,(.ref 36)⟩,⟨kh P n16,.str n16 272,(.ref 75)⟩]) 13),zP []⟩
def o12_5:PO:=fun p P=>fO [(iV 1),(iV 0),(.ref 20),(iV 5),(iV 0),(.ref 28),(iV 12),(iV 0),(.ref 35),(iV 19),(iV 0),(.ref 42)]
def o15_5:PO:=fun p P=>tO []
def o16_5:PO:=fun p P=>fO []
def o17_5:PO:=fun p P=>tO [(.str n17 190)]
def o18_5:PO:=fun p P=>tO []
def o19_5:PO:=fun p P=>f0 n13 n13 (st p 0)
def o20_5:PO:=fun p P=>cO n13 187 n13 188 189 1 1 0 0 3 (.ref 15) true (.ref 16) .none (.ref 17) (.ref 18) (.ref 19) 191 192
def o21_5:PO:=fun p P=>f3 n13 n13 (st p 0) .none .none .none (.str n2 164) (.ref 20)
def o22_5:PO:=fun p P=>⟨(.type "dict"),none,(.dict (zP [⟨kh P n18,.str n18 196,(.bool false)⟩]) 1),zP []⟩
def o23_5:PO:=fun p P=>tO []
def o24_5:PO:=fun p P=>fO []
def o25_5:PO:=fun p P=>tO [(.str n19 200),(.str n18 201)]
def o26_5:PO:=fun p P=>tO []
def o27_5:PO:=fun p P=>f0 n14 n14 (st p 2)
def o28_5:PO:=fun p P=>cO n14 197 n14 198 199 5 1 0 1 3 (.ref 23) true (.ref 24) .none (.ref 25) (.ref 26) (.ref 27) 202 203
def o29_5:PO:=fun p P=>f3 n14 n14 (st p 2) .none (.ref 22) .none (.str n20 194) (.ref 28)
def o30_5:PO:=fun p P=>tO []
def o31_5:PO:=fun p P=>fO []
def o32_5:PO:=fun p P=>tO [(.str n21 208),(.str n22 209),(.str n23 210)]
def o33_5:PO:=fun p P=>tO []
def o34_5:PO:=fun p P=>f0 n15 n15 (st p 3)
def o35_5:PO:=fun p P=>cO n15 205 n15 206 207 12 1 0 0 3 (.ref 30) true (.ref 31) .none (.ref 32) (.ref 33) (.ref 34) 211 212
def o36_5:PO:=fun p P=>f3 n15 n15 (st p 3) .none .none .none (.str n20 194) (.ref 35)
def o37_5:PO:=fun p P=>tO []
noncomputable def o38_5:PO:=fun p P=>⟨(.type "builtin_function_or_method"),none,(.fields (zP [(.builtin "type.__prepare__"),(.type "type")])),zP []⟩
def o39_5:PO:=fun p P=>⟨(.type "dict"),none,(.dict (zP [⟨kh P n24,.str n24 223,(.str n4 214)⟩,⟨kh P n25,.str n25 225,(.str n16 224)⟩,⟨kh P n26,.str n26 227,(.int (Int.ofNat 19) 226)⟩,⟨kh P n27,.str n27 236,(.ref 50)⟩,⟨kh P n28,.str n28 245,(.ref 58)⟩,⟨kh P n29,.str n29 254,(.ref 65)⟩,⟨kh P n30,.str n30 262,(.ref 72)⟩,⟨kh P n31,.str n31 265,(.ref 73)⟩]) 8),zP []⟩
def o40_5:PO:=fun p P=>tO []
def o41_5:PO:=fun p P=>fO [(iV 21),(iV 4),(.ref 49),(iV 25),(iV 4),(.ref 57),(iV 32),(iV 4),(.ref 64),(iV 35),(iV 4),(.ref 71)]
def o42_5:PO:=fun p P=>cO n16 218 n16 219 220 19 0 0 0 0 (.ref 40) false (.ref 41) .none .none .none .none 221 222
def o43_5:PO:=fun p P=>⟨(.type "frame"),none,.plain,zP [(some (.ref 42)),(some (.ref 3)),(some (.ref 39)),none,(some (.str n4 214)),none,(some (.ref 0))]⟩
def o44_5:PO:=fun p P=>tO []
def o45_5:PO:=fun p P=>fO []
def o46_5:PO:=fun p P=>tO [(.str n32 231),(.str n33 232),(.str n34 233)]
def o47_5:PO:=fun p P=>tO []
def o48_5:PO:=fun p P=>f0 n27 n35 (me p 5 0)
def o49_5:PO:=fun p P=>cO n27 228 n35 229 230 21 3 0 0 3 (.ref 44) true (.ref 45) .none (.ref 46) (.ref 47) (.ref 48) 234 235
def o50_5:PO:=fun p P=>f3 n27 n35 (me p 5 0) .none .none .none (.str n4 214) (.ref 49)
def o51_5:PO:=fun p P=>tO [.none]
def o52_5:PO:=fun p P=>tO []
def o53_5:PO:=fun p P=>fO []
def o54_5:PO:=fun p P=>tO [(.str n32 240),(.str n36 241),(.str n37 242)]
def o55_5:PO:=fun p P=>tO []
def o56_5:PO:=fun p P=>f0 n28 n38 (me p 5 1)
def o57_5:PO:=fun p P=>cO n28 237 n38 238 239 25 3 0 0 3 (.ref 52) true (.ref 53) .none (.ref 54) (.ref 55) (.ref 56) 243 244
def o58_5:PO:=fun p P=>f3 n28 n38 (me p 5 1) (.ref 51) .none .none (.str n4 214) (.ref 57)
def o59_5:PO:=fun p P=>tO []
def o60_5:PO:=fun p P=>fO []
def o61_5:PO:=fun p P=>tO [(.str n32 249),(.str n36 250),(.str n39 251)]
def o62_5:PO:=fun p P=>tO []
def o63_5:PO:=fun p P=>f0 n29 n40 (me p 5 2)
def o64_5:PO:=fun p P=>cO n29 246 n40 247 248 32 3 0 0 3 (.ref 59) true (.ref 60) .none (.ref 61) (.ref 62) (.ref 63) 252 253
def o65_5:PO:=fun p P=>f3 n29 n40 (me p 5 2) .none .none .none (.str n4 214) (.ref 64)
def o66_5:PO:=fun p P=>tO []
def o67_5:PO:=fun p P=>fO []
def o68_5:PO:=fun p P=>tO [(.str n32 258),(.str n36 259)]
def o69_5:PO:=fun p P=>tO []
def o70_5:PO:=fun p P=>f0 n30 n41 (me p 5 3)
def o71_5:PO:=fun p P=>cO n30 255 n41 256 257 35 2 0 0 3 (.ref 66) true (.ref 67) .none (.ref 68) (.ref 69) (.ref 70) 260 261
def o72_5:PO:=fun p P=>f3 n30 n41 (me p 5 3) .none .none .none (.str n4 214) (.ref 71)
def o73_5:PO:=fun p P=>tO [(.str n5 263),(.str n33 264)]
def o74_5:PO:=fun p P=>⟨(.type "dict"),none,(.dict (zP [⟨kh P n24,.str n24 223,(.str n4 214)⟩,⟨kh P n26,.str n26 227,(.int (Int.ofNat 19) 226)⟩,⟨kh P n27,.str n27 236,(.ref 50)⟩,⟨kh P n28,.str n28 245,(.ref 58)⟩,⟨kh P n29,.str n29 254,(.ref 65)⟩,⟨kh P n30,.str n30 262,(.ref 72)⟩,⟨kh P n31,.str n31 265,(.ref 73)⟩,⟨kh P n42,.str n42 267,(.ref 76)⟩,⟨kh P n43,.str n43 269,(.ref 77)⟩,⟨kh P n5,.str n5 270,.none⟩]) 4),zP []⟩
def o75_5:PO:=fun p P=>⟨(.type "type"),none,(.cls { name:=n16,bases:=[(.type "object")],mro:=[(.ref 75),(.type "object")],ns:=74,qualname:=n16,hasDict:=true,slotNames:=[],subclasses:=[],abstract:=false,collection:=none,hasDel:=false }),zP [none,none,(some (.str n16 216)),(some (.str n16 224)),(some (.builtin "object.__new__")),(some (.bool true))]⟩
def o76_5:PO:=fun p P=>⟨(.type "getset_descriptor"),none,(.fields (zP [(.str n42 266),(.ref 75),(.builtin "function.__dict__"),(.builtin "function.__dict__#set")])),zP []⟩
def o77_5:PO:=fun p P=>⟨(.type "getset_descriptor"),none,(.fields (zP [(.str n43 268),(.ref 75),(.builtin "ExceptionGroup.__weakref__"),.none])),zP []⟩
noncomputable def o78_5:PO:=fun p P=>⟨(.type "super"),none,(.fields (zP [(.ref 75),(.ref 75),(.ref 75)])),zP []⟩
noncomputable def o79_5:PO:=fun p P=>⟨(.type "builtin_function_or_method"),none,(.fields (zP [(.builtin "object.__init_subclass__"),(.ref 75)])),zP []⟩
def o3_7:PO:=fun p P=>⟨(.type "dict"),none,(.dict (zP [⟨kh P n3,.str n3 165,(.str n4 214)⟩,⟨kh P n5,.str n5 166,.none⟩,⟨kh P n6,.str n6 167,.none⟩,⟨kh P n7,.str n7 168,(.builtin "__main__.__loader__#opaque")⟩,⟨kh P n8,.str n8 169,.none⟩,⟨kh P n9,.str n9 170,(.ref 6)⟩,⟨kh P n10,.str n10 171,(.ref 4)⟩,⟨kh P n11,.str n11 173,(.str n1 172)⟩,⟨kh P n12,.str n12 174,.none⟩,⟨kh P n13,.str n13 193,(.ref 21)⟩,⟨kh P n14,.str n14 204,(.ref 29)⟩,⟨kh P n15,.str n15 213,(.ref 36)⟩,⟨kh P n16,.str n16 272,(.ref 75)⟩,⟨kh P n44,.str n44 400,(.ref 150)⟩,⟨kh P n45,.str n45 408,(.ref 160)⟩]) 15),zP []⟩
def o12_7:PO:=fun p P=>fO [(iV 1),(iV 0),(.ref 20),(iV 5),(iV 0),(.ref 28),(iV 12),(iV 0),(.ref 35),(iV 19),(iV 0),(.ref 42),(iV 37),(iV 0),(.ref 86),(iV 80),(iV 0),(.ref 159)]
def o80_7:PO:=fun p P=>tO [(.type "tuple")]
def o81_7:PO:=fun p P=>⟨(.type "builtin_function_or_method"),none,(.fields (zP [(.builtin "type.__prepare__"),(.type "type")])),zP []⟩
def o82_7:PO:=fun p P=>⟨(.type "dict"),none,(.dict (zP [⟨kh P n24,.str n24 280,(.str n4 214)⟩,⟨kh P n25,.str n25 282,(.str n44 281)⟩,⟨kh P n26,.str n26 284,(.int (Int.ofNat 37) 283)⟩,⟨kh P n5,.str n5 286,(.str (docS (cB (st p 6))) 285)⟩,⟨kh P n46,.str n46 288,(.ref 88)⟩,⟨kh P n47,.str n47 292,(.ref 89)⟩,⟨kh P n48,.str n48 293,(.ref 90)⟩,⟨kh P n49,.str n49 304,(.ref 97)⟩,⟨kh P n50,.str n50 326,(.ref 106)⟩,⟨kh P n51,.str n51 337,(.ref 115)⟩,⟨kh P n52,.str n52 338,(.ref 115)⟩,⟨kh P n53,.str n53 346,(.ref 122)⟩,⟨kh P n54,.str n54 353,(.ref 129)⟩,⟨kh P n55,.str n55 361,(.ref 136)⟩,⟨kh P n56,.str n56 365,(.ref 137)⟩,⟨kh P n57,.str n57 375,(.ref 139)⟩,⟨kh P n58,.str n58 385,(.ref 142)⟩,⟨kh P n59,.str n59 395,(.ref 145)⟩,⟨kh P n31,.str n31 396,(.ref 147)⟩,⟨kh P n60,.str n60 397,(.ref 83)⟩]) 20),zP []⟩
noncomputable def o83_7:PO:=fun p P=>⟨(.type "cell"),none,(.cell (some (.ref 150))),zP []⟩
def o84_7:PO:=fun p P=>tO []
def o85_7:PO:=fun p P=>fO [(iV 43),(iV 4),(.ref 96),(iV 48),(iV 4),(.ref 103),(iV 55),(iV 4),(.ref 114),(iV 66),(iV 4),(.ref 121),(iV 70),(iV 4),(.ref 128),(iV 73),(iV 4),(.ref 135)]
def o86_7:PO:=fun p P=>cO n44 275 n44 276 277 37 0 0 0 0 (.ref 84) false (.ref 85) .none .none .none .none 278 279
def o87_7:PO:=fun p P=>⟨(.type "frame"),none,.plain,zP [(some (.ref 86)),(some (.ref 3)),(some (.ref 82)),none,(some (.str n4 214)),none,(some (.ref 0))]⟩
def o88_7:PO:=fun p P=>tO []
def o89_7:PO:=fun p P=>tO [(.str n57 289),(.str n58 290),(.str n59 291)]
def o90_7:PO:=fun p P=>⟨(.type "dict"),none,(.dict (zP []) 0),zP []⟩
def o91_7:PO:=fun p P=>tO []
def o92_7:PO:=fun p P=>fO []
def o93_7:PO:=fun p P=>tO [(.str n61 297),(.str n57 298),(.str n58 299),(.str n59 300)]
def o94_7:PO:=fun p P=>tO []
def o95_7:PO:=fun p P=>f0 n49 n62 (me p 6 4)
def o96_7:PO:=fun p P=>cO n49 294 n62 295 296 43 4 0 0 3 (.ref 91) true (.ref 92) .none (.ref 93) (.ref 94) (.ref 95) 301 302
def o97_7:PO:=fun p P=>f3 n49 n62 (me p 6 4) .none .none (.str (docS (dB (me p 6 4))) 303) (.str n4 214) (.ref 96)
def o98_7:PO:=fun p P=>tO []
def o99_7:PO:=fun p P=>fO []
def o100_7:PO:=fun p P=>tO [(.str n63 308),(.str n64 309),(.str n65 310)]
def o101_7:PO:=fun p P=>tO []
def o102_7:PO:=fun p P=>f0 n50 n66 (me p 6 5)
def o103_7:PO:=fun p P=>cO n50 305 n66 306 307 47 2 0 0 3 (.ref 98) true (.ref 99) .none (.ref 100) (.ref 101) (.ref 102) 311 312
def o104_7:PO:=fun p P=>⟨(.type "function"),none,(.func { name:=n50,qualname:=n66,params:=dA (me p 6 5),body:=.stmts (dB (me p 6 5)),scope:=dS (me p 6 5),globals:=3,closure:=[],defaults:=.none,kwdefaults:=.none,doc:=(.str (docS (dB (me p 6 5))) 313),pyModule:=(.str n4 214),annotations:=some 107,code:=(.ref 103),closureTuple:=.none,builtins:=0 }),zP []⟩
def o105_7:PO:=fun p P=>⟨(.type "dict"),none,(.dict (zP [⟨kh P n24,.str n24 315,(.str n4 214)⟩,⟨kh P n3,.str n3 318,(.str n50 317)⟩,⟨kh P n25,.str n25 321,(.str n66 320)⟩,⟨kh P n5,.str n5 323,(.str (docS (dB (me p 6 5))) 313)⟩,⟨kh P n9,.str n9 325,(.ref 107)⟩]) 5),zP []⟩
noncomputable def o106_7:PO:=fun p P=>⟨(.type "classmethod"),some 105,(.fields (zP [(.ref 104),(.bool false)])),zP []⟩
noncomputable def o107_7:PO:=fun p P=>⟨(.type "dict"),none,(.dict (zP []) 0),zP []⟩
def o108_7:PO:=fun p P=>tO [(.ref 83)]
def o109_7:PO:=fun p P=>tO [(.str n67 330)]
def o110_7:PO:=fun p P=>fO []
def o111_7:PO:=fun p P=>tO [(.str n32 331),(.str n68 332),(.str n65 333)]
def o112_7:PO:=fun p P=>tO []
def o113_7:PO:=fun p P=>f0 n51 n69 (me p 6 6)
def o114_7:PO:=fun p P=>cO n51 327 n69 328 329 55 1 1 0 11 (.ref 109) true (.ref 110) .none (.ref 111) (.ref 112) (.ref 113) 334 335
def o115_7:PO:=fun p P=>⟨(.type "function"),none,(.func { name:=n51,qualname:=n69,params:=dA (me p 6 6),body:=.stmts (dB (me p 6 6)),scope:=dS (me p 6 6),globals:=3,closure:=[(n67,83)],defaults:=.none,kwdefaults:=.none,doc:=(.str (docS (dB (me p 6 6))) 336),pyModule:=(.str n4 214),annotations:=none,code:=(.ref 114),closureTuple:=(.ref 108),builtins:=0 }),zP []⟩
def o116_7:PO:=fun p P=>tO []
def o117_7:PO:=fun p P=>fO []
def o118_7:PO:=fun p P=>tO [(.str n32 342)]
def o119_7:PO:=fun p P=>tO []
def o120_7:PO:=fun p P=>f0 n53 n70 (me p 6 8)
def o121_7:PO:=fun p P=>cO n53 339 n70 340 341 66 1 0 0 3 (.ref 116) true (.ref 117) .none (.ref 118) (.ref 119) (.ref 120) 343 344
def o122_7:PO:=fun p P=>f3 n53 n70 (me p 6 8) .none .none (.str (docS (dB (me p 6 8))) 345) (.str n4 214) (.ref 121)
def o123_7:PO:=fun p P=>tO []
def o124_7:PO:=fun p P=>fO []
def o125_7:PO:=fun p P=>tO [(.str n32 350)]
def o126_7:PO:=fun p P=>tO []
def o127_7:PO:=fun p P=>f0 n54 n71 (me p 6 9)
def o128_7:PO:=fun p P=>cO n54 347 n71 348 349 70 1 0 0 3 (.ref 123) true (.ref 124) .none (.ref 125) (.ref 126) (.ref 127) 351 352
def o129_7:PO:=fun p P=>f3 n54 n71 (me p 6 9) .none .none .none (.str n4 214) (.ref 128)
def o130_7:PO:=fun p P=>tO []
def o131_7:PO:=fun p P=>fO []
def o132_7:PO:=fun p P=>tO [(.str n32 357)]
def o133_7:PO:=fun p P=>tO []
def o134_7:PO:=fun p P=>f0 n55 n72 (me p 6 10)
def o135_7:PO:=fun p P=>cO n55 354 n72 355 356 73 1 0 0 3 (.ref 130) true (.ref 131) .none (.ref 132) (.ref 133) (.ref 134) 358 359
def o136_7:PO:=fun p P=>f3 n55 n72 (me p 6 10) .none .none (.str (docS (dB (me p 6 10))) 360) (.str n4 214) (.ref 135)
def o137_7:PO:=fun p P=>tO [(.str n57 362),(.str n58 363),(.str n59 364)]
def o138_7:PO:=fun p P=>⟨(.type "dict"),none,(.dict (zP [⟨kh P n33,.str n33 372,(.int (Int.ofNat 0) 366)⟩,⟨kh P n5,.str n5 374,(.str n73 367)⟩]) 2),zP []⟩
def o139_7:PO:=fun p P=>⟨(.ref 75),some 138,.plain,zP []⟩
def o140_7:PO:=fun p P=>⟨(.type "frame"),none,(.dict (zP [⟨kh P n32,.str n32 368,(.ref 139)⟩,⟨kh P n33,.str n33 369,(.int (Int.ofNat 0) 366)⟩,⟨kh P n34,.str n34 370,(.str n73 367)⟩]) 3),zP []⟩
def o141_7:PO:=fun p P=>⟨(.type "dict"),none,(.dict (zP [⟨kh P n33,.str n33 382,(.int (Int.ofNat 1) 376)⟩,⟨kh P n5,.str n5 384,(.str n74 377)⟩]) 2),zP []⟩
def o142_7:PO:=fun p P=>⟨(.ref 75),some 141,.plain,zP []⟩
def o143_7:PO:=fun p P=>⟨(.type "frame"),none,(.dict (zP [⟨kh P n32,.str n32 378,(.ref 142)⟩,⟨kh P n33,.str n33 379,(.int (Int.ofNat 1) 376)⟩,⟨kh P n34,.str n34 380,(.str n74 377)⟩]) 3),zP []⟩
def o144_7:PO:=fun p P=>⟨(.type "dict"),none,(.dict (zP [⟨kh P n33,.str n33 392,(.int (Int.ofNat 2) 386)⟩,⟨kh P n5,.str n5 394,(.str n75 387)⟩]) 2),zP []⟩
noncomputable def o145_7:PO:=fun p P=>⟨(.ref 75),some 144,.plain,zP []⟩
def o146_7:PO:=fun p P=>⟨(.type "frame"),none,(.dict (zP [⟨kh P n32,.str n32 388,(.ref 145)⟩,⟨kh P n33,.str n33 389,(.int (Int.ofNat 2) 386)⟩,⟨kh P n34,.str n34 390,(.str n75 387)⟩]) 3),zP []⟩
def o147_7:PO:=fun p P=>tO []
noncomputable def o148_7:PO:=fun p P=>⟨(.type "list"),none,(.seq (zP []) 0),zP []⟩
def o149_7:PO:=fun p P=>⟨(.type "dict"),none,(.dict (zP [⟨kh P n24,.str n24 280,(.str n4 214)⟩,⟨kh P n26,.str n26 284,(.int (Int.ofNat 37) 283)⟩,⟨kh P n5,.str n5 286,(.str (docS (cB (st p 6))) 285)⟩,⟨kh P n46,.str n46 288,(.ref 88)⟩,⟨kh P n47,.str n47 292,(.ref 89)⟩,⟨kh P n48,.str n48 293,(.ref 90)⟩,⟨kh P n49,.str n49 304,(.ref 151)⟩,⟨kh P n50,.str n50 326,(.ref 106)⟩,⟨kh P n51,.str n51 337,(.ref 115)⟩,⟨kh P n52,.str n52 338,(.ref 115)⟩,⟨kh P n53,.str n53 346,(.ref 122)⟩,⟨kh P n54,.str n54 353,(.ref 129)⟩,⟨kh P n55,.str n55 361,(.ref 136)⟩,⟨kh P n56,.str n56 365,(.ref 137)⟩,⟨kh P n57,.str n57 375,(.ref 139)⟩,⟨kh P n58,.str n58 385,(.ref 142)⟩,⟨kh P n59,.str n59 395,(.ref 145)⟩,⟨kh P n31,.str n31 396,(.ref 147)⟩]) 2),zP []⟩
def o150_7:PO:=fun p P=>⟨(.type "type"),none,(.cls { name:=n44,bases:=[(.type "tuple")],mro:=[(.ref 150),(.type "tuple"),(.type "object")],ns:=149,qualname:=n44,hasDict:=false,slotNames:=[],subclasses:=[],abstract:=false,collection:=none,hasDel:=false }),zP [(some (.ref 80)),none,(some (.str n44 273)),(some (.str n44 281)),(some .none),(some (.bool false))]⟩
noncomputable def o151_7:PO:=fun p P=>⟨(.type "staticmethod"),none,(.fields (zP [(.ref 97)])),zP []⟩
noncomputable def o152_7:PO:=fun p P=>⟨(.type "super"),none,(.fields (zP [(.ref 150),(.ref 150),(.ref 150)])),zP []⟩
noncomputable def o153_7:PO:=fun p P=>⟨(.type "builtin_function_or_method"),none,(.fields (zP [(.builtin "object.__init_subclass__"),(.ref 150)])),zP []⟩
def o154_7:PO:=fun p P=>tO []
def o155_7:PO:=fun p P=>fO []
def o156_7:PO:=fun p P=>tO [(.str n76 404),(.str n77 405)]
def o157_7:PO:=fun p P=>tO []
def o158_7:PO:=fun p P=>f0 n45 n45 (st p 7)
def o159_7:PO:=fun p P=>cO n45 401 n45 402 403 80 2 0 0 3 (.ref 154) true (.ref 155) .none (.ref 156) (.ref 157) (.ref 158) 406 407
def o160_7:PO:=fun p P=>f3 n45 n45 (st p 7) .none .none .none (.str n4 214) (.ref 159)
def o3_8:PO:=fun p P=>⟨(.type "dict"),none,(.dict (zP [⟨kh P n3,.str n3 165,(.str n4 214)⟩,⟨kh P n5,.str n5 166,.none⟩,⟨kh P n6,.str n6 167,.none⟩,⟨kh P n7,.str n7 168,(.builtin "__main__.__loader__#opaque")⟩,⟨kh P n8,.str n8 169,.none⟩,⟨kh P n9,.str n9 170,(.ref 6)⟩,⟨kh P n10,.str n10 171,(.ref 4)⟩,⟨kh P n11,.str n11 173,(.str n1 172)⟩,⟨kh P n12,.str n12 174,.none⟩,⟨kh P n13,.str n13 193,(.ref 21)⟩,⟨kh P n14,.str n14 204,(.ref 29)⟩,⟨kh P n15,.str n15 213,(.ref 36)⟩,⟨kh P n16,.str n16 272,(.ref 75)⟩,⟨kh P n44,.str n44 400,(.ref 150)⟩,⟨kh P n45,.str n45 408,(.ref 160)⟩,⟨kh P n78,.str n78 594,(.ref 257)⟩]) 16),zP []⟩
def o12_8:PO:=fun p P=>fO [(iV 1),(iV 0),(.ref 20),(iV 5),(iV 0),(.ref 28),(iV 12),(iV 0),(.ref 35),(iV 19),(iV 0),(.ref 42),(iV 37),(iV 0),(.ref 86),(iV 80),(iV 0),(.ref 159),(iV 84),(iV 0),(.ref 166)]
def o161_8:PO:=fun p P=>tO []
noncomputable def o162_8:PO:=fun p P=>⟨(.type "builtin_function_or_method"),none,(.fields (zP [(.builtin "type.__prepare__"),(.type "type")])),zP []⟩
def o163_8:PO:=fun p P=>⟨(.type "dict"),none,(.dict (zP [⟨kh P n24,.str n24 416,(.str n4 214)⟩,⟨kh P n25,.str n25 418,(.str n78 417)⟩,⟨kh P n26,.str n26 420,(.int (Int.ofNat 84) 419)⟩,⟨kh P n5,.str n5 422,(.str (docS (cB (st p 8))) 421)⟩,⟨kh P n27,.str n27 437,(.ref 175)⟩,⟨kh P n79,.str n79 447,(.ref 182)⟩,⟨kh P n80,.str n80 456,(.ref 189)⟩,⟨kh P n81,.str n81 465,(.ref 196)⟩,⟨kh P n82,.str n82 483,(.ref 203)⟩,⟨kh P n83,.str n83 511,(.ref 211)⟩,⟨kh P n84,.str n84 538,(.ref 218)⟩,⟨kh P n85,.str n85 545,(.ref 225)⟩,⟨kh P n86,.str n86 554,(.ref 233)⟩,⟨kh P n87,.str n87 563,(.ref 240)⟩,⟨kh P n88,.str n88 570,(.ref 247)⟩,⟨kh P n89,.str n89 577,(.ref 254)⟩,⟨kh P n31,.str n31 588,(.ref 255)⟩]) 17),zP []⟩
def o164_8:PO:=fun p P=>tO []
def o165_8:PO:=fun p P=>fO [(iV 159),(iV 4),(.ref 174),(iV 187),(iV 4),(.ref 181),(iV 198),(iV 4),(.ref 188),(iV 223),(iV 4),(.ref 195),(iV 250),(iV 4),(.ref 202),(iV 274),(iV 4),(.ref 210),(iV 349),(iV 4),(.ref 217),(iV 397),(iV 4),(.ref 224),(iV 400),(iV 4),(.ref 232),(iV 403),(iV 4),(.ref 239),(iV 427),(iV 4),(.ref 246),(iV 430),(iV 4),(.ref 253)]
def o166_8:PO:=fun p P=>cO n78 411 n78 412 413 84 0 0 0 0 (.ref 164) false (.ref 165) .none .none .none .none 414 415
def o167_8:PO:=fun p P=>⟨(.type "frame"),none,.plain,zP [(some (.ref 166)),(some (.ref 3)),(some (.ref 163)),none,(some (.str n4 214)),none,(some (.ref 0))]⟩
def o168_8:PO:=fun p P=>tO [.none,(.str n90 424),(.str n90 425),(.bool true)]
def o169_8:PO:=fun p P=>tO []
def o170_8:PO:=fun p P=>fO []
def o171_8:PO:=fun p P=>tO [(.str n32 429),(.str n91 430),(.str n57 431),(.str n58 432),(.str n92 433)]
def o172_8:PO:=fun p P=>tO []
def o173_8:PO:=fun p P=>f0 n27 n93 (me p 8 1)
def o174_8:PO:=fun p P=>cO n27 426 n93 427 428 159 5 0 0 3 (.ref 169) true (.ref 170) .none (.ref 171) (.ref 172) (.ref 173) 434 435
def o175_8:PO:=fun p P=>f3 n27 n93 (me p 8 1) (.ref 168) .none (.str (docS (dB (me p 8 1))) 436) (.str n4 214) (.ref 174)
def o176_8:PO:=fun p P=>tO []
def o177_8:PO:=fun p P=>fO []
def o178_8:PO:=fun p P=>tO [(.str n32 441),(.str n57 442),(.str n58 443)]
def o179_8:PO:=fun p P=>tO []
def o180_8:PO:=fun p P=>f0 n79 n94 (me p 8 2)
def o181_8:PO:=fun p P=>cO n79 438 n94 439 440 187 3 0 0 3 (.ref 176) true (.ref 177) .none (.ref 178) (.ref 179) (.ref 180) 444 445
def o182_8:PO:=fun p P=>f3 n79 n94 (me p 8 2) .none .none (.str (docS (dB (me p 8 2))) 446) (.str n4 214) (.ref 181)
def o183_8:PO:=fun p P=>tO []
def o184_8:PO:=fun p P=>fO []
def o185_8:PO:=fun p P=>tO [(.str n32 451),(.str n57 452)]
def o186_8:PO:=fun p P=>tO []
def o187_8:PO:=fun p P=>f0 n80 n95 (me p 8 3)
def o188_8:PO:=fun p P=>cO n80 448 n95 449 450 198 2 0 0 3 (.ref 183) true (.ref 184) .none (.ref 185) (.ref 186) (.ref 187) 453 454
def o189_8:PO:=fun p P=>f3 n80 n95 (me p 8 3) .none .none (.str (docS (dB (me p 8 3))) 455) (.str n4 214) (.ref 188)
def o190_8:PO:=fun p P=>tO []
def o191_8:PO:=fun p P=>fO []
def o192_8:PO:=fun p P=>tO [(.str n32 460),(.str n58 461)]
def o193_8:PO:=fun p P=>tO []
def o194_8:PO:=fun p P=>f0 n81 n96 (me p 8 4)
def o195_8:PO:=fun p P=>cO n81 457 n96 458 459 223 2 0 0 3 (.ref 190) true (.ref 191) .none (.ref 192) (.ref 193) (.ref 194) 462 463
def o196_8:PO:=fun p P=>f3 n81 n96 (me p 8 4) .none .none (.str (docS (dB (me p 8 4))) 464) (.str n4 214) (.ref 195)
def o197_8:PO:=fun p P=>tO []
def o198_8:PO:=fun p P=>fO []
def o199_8:PO:=fun p P=>tO [(.str n32 469),(.str n58 470),(.str n97 471),(.str n98 472),(.str n99 473),(.str n100 474),(.str n101 475),(.str n91 476),(.str n102 477),(.str n103 478),(.str n104 479),(.str n105 480)]
def o200_8:PO:=fun p P=>tO []
def o201_8:PO:=fun p P=>f0 n106 n107 (me p 8 5)
def o202_8:PO:=fun p P=>cO n106 466 n107 467 468 250 1 0 0 3 (.ref 197) true (.ref 198) .none (.ref 199) (.ref 200) (.ref 201) 481 482
def o203_8:PO:=fun p P=>f3 n106 n107 (me p 8 5) .none .none .none (.str n4 214) (.ref 202)
def o204_8:PO:=fun p P=>tO [(.int (Int.ofNat 0) 484),.none,(.int (Int.ofNat 0) 485),.none]
def o205_8:PO:=fun p P=>tO []
def o206_8:PO:=fun p P=>fO []
def o207_8:PO:=fun p P=>tO [(.str n32 489),(.str n108 490),(.str n109 491),(.str n110 492),(.str n111 493),(.str n57 494),(.str n58 495),(.str n97 496),(.str n112 497),(.str n113 498),(.str n114 499),(.str n115 500),(.str n116 501),(.str n117 502),(.str n98 503),(.str n118 504),(.str n119 505),(.str n120 506),(.str n17 507)]
def o208_8:PO:=fun p P=>tO []
def o209_8:PO:=fun p P=>f0 n83 n121 (me p 8 6)
def o210_8:PO:=fun p P=>cO n83 486 n121 487 488 274 5 0 0 3 (.ref 205) true (.ref 206) .none (.ref 207) (.ref 208) (.ref 209) 508 509
def o211_8:PO:=fun p P=>f3 n83 n121 (me p 8 6) (.ref 204) .none (.str (docS (dB (me p 8 6))) 510) (.str n4 214) (.ref 210)
def o212_8:PO:=fun p P=>tO []
def o213_8:PO:=fun p P=>fO []
def o214_8:PO:=fun p P=>tO [(.str n32 515),(.str n122 516),(.str n123 517),(.str n124 518),(.str n125 519),(.str n108 520),(.str n109 521),(.str n110 522),(.str n111 523),(.str n98 524),(.str n120 525),(.str n17 526),(.str n126 527),(.str n127 528),(.str n128 529),(.str n129 530),(.str n130 531),(.str n131 532),(.str n132 533),(.str n133 534)]
def o215_8:PO:=fun p P=>tO []
def o216_8:PO:=fun p P=>f0 n84 n134 (me p 8 7)
def o217_8:PO:=fun p P=>cO n84 512 n134 513 514 349 1 0 0 3 (.ref 212) true (.ref 213) .none (.ref 214) (.ref 215) (.ref 216) 535 536
def o218_8:PO:=fun p P=>f3 n84 n134 (me p 8 7) .none .none (.str (docS (dB (me p 8 7))) 537) (.str n4 214) (.ref 217)
def o219_8:PO:=fun p P=>tO []
def o220_8:PO:=fun p P=>fO []
def o221_8:PO:=fun p P=>tO [(.str n32 542)]
def o222_8:PO:=fun p P=>tO []
def o223_8:PO:=fun p P=>f0 n85 n135 (me p 8 8)
def o224_8:PO:=fun p P=>cO n85 539 n135 540 541 397 1 0 0 3 (.ref 219) true (.ref 220) .none (.ref 221) (.ref 222) (.ref 223) 543 544
def o225_8:PO:=fun p P=>f3 n85 n135 (me p 8 8) .none .none .none (.str n4 214) (.ref 224)
def o226_8:PO:=fun p P=>tO [(.int (Int.ofNat 3) 546)]
def o227_8:PO:=fun p P=>tO []
def o228_8:PO:=fun p P=>fO []
def o229_8:PO:=fun p P=>tO [(.str n32 550),(.str n103 551)]
def o230_8:PO:=fun p P=>tO []
def o231_8:PO:=fun p P=>f0 n86 n136 (me p 8 9)
def o232_8:PO:=fun p P=>cO n86 547 n136 548 549 400 2 0 0 3 (.ref 227) true (.ref 228) .none (.ref 229) (.ref 230) (.ref 231) 552 553
def o233_8:PO:=fun p P=>f3 n86 n136 (me p 8 9) (.ref 226) .none .none (.str n4 214) (.ref 232)
def o234_8:PO:=fun p P=>tO []
def o235_8:PO:=fun p P=>fO []
def o236_8:PO:=fun p P=>tO [(.str n32 558),(.str n76 559)]
def o237_8:PO:=fun p P=>tO []
def o238_8:PO:=fun p P=>f0 n87 n137 (me p 8 10)
def o239_8:PO:=fun p P=>cO n87 555 n137 556 557 403 1 0 0 3 (.ref 234) true (.ref 235) .none (.ref 236) (.ref 237) (.ref 238) 560 561
def o240_8:PO:=fun p P=>f3 n87 n137 (me p 8 10) .none .none (.str (docS (dB (me p 8 10))) 562) (.str n4 214) (.ref 239)
def o241_8:PO:=fun p P=>tO []
def o242_8:PO:=fun p P=>fO []
def o243_8:PO:=fun p P=>tO [(.str n32 567)]
def o244_8:PO:=fun p P=>tO []
def o245_8:PO:=fun p P=>f0 n88 n138 (me p 8 11)
def o246_8:PO:=fun p P=>cO n88 564 n138 565 566 427 1 0 0 3 (.ref 241) true (.ref 242) .none (.ref 243) (.ref 244) (.ref 245) 568 569
def o247_8:PO:=fun p P=>f3 n88 n138 (me p 8 11) .none .none .none (.str n4 214) (.ref 246)
def o248_8:PO:=fun p P=>tO []
def o249_8:PO:=fun p P=>fO []
def o250_8:PO:=fun p P=>tO [(.str n32 574)]
def o251_8:PO:=fun p P=>tO []
def o252_8:PO:=fun p P=>f0 n89 n139 (me p 8 12)
def o253_8:PO:=fun p P=>cO n89 571 n139 572 573 430 1 0 0 3 (.ref 248) true (.ref 249) .none (.ref 250) (.ref 251) (.ref 252) 575 576
def o254_8:PO:=fun p P=>f3 n89 n139 (me p 8 12) .none .none .none (.str n4 214) (.ref 253)
def o255_8:PO:=fun p P=>tO [(.str n57 578),(.str n92 579),(.str n58 580),(.str n97 581),(.str n140 582),(.str n141 583),(.str n142 584),(.str n91 585),(.str n125 586),(.str n143 587)]
def o256_8:PO:=fun p P=>⟨(.type "dict"),none,(.dict (zP [⟨kh P n24,.str n24 416,(.str n4 214)⟩,⟨kh P n26,.str n26 420,(.int (Int.ofNat 84) 419)⟩,⟨kh P n5,.str n5 422,(.str (docS (cB (st p 8))) 421)⟩,⟨kh P n27,.str n27 437,(.ref 175)⟩,⟨kh P n79,.str n79 447,(.ref 182)⟩,⟨kh P n80,.str n80 456,(.ref 189)⟩,⟨kh P n81,.str n81 465,(.ref 196)⟩,⟨kh P n82,.str n82 483,(.ref 203)⟩,⟨kh P n83,.str n83 511,(.ref 211)⟩,⟨kh P n84,.str n84 538,(.ref 218)⟩,⟨kh P n85,.str n85 545,(.ref 225)⟩,⟨kh P n86,.str n86 554,(.ref 233)⟩,⟨kh P n87,.str n87 563,(.ref 240)⟩,⟨kh P n88,.str n88 570,(.ref 247)⟩,⟨kh P n89,.str n89 577,(.ref 254)⟩,⟨kh P n31,.str n31 588,(.ref 255)⟩,⟨kh P n42,.str n42 590,(.ref 258)⟩,⟨kh P n43,.str n43 592,(.ref 259)⟩]) 3),zP []⟩
def o257_8:PO:=fun p P=>⟨(.type "type"),none,(.cls { name:=n78,bases:=[(.type "object")],mro:=[(.ref 257),(.type "object")],ns:=256,qualname:=n78,hasDict:=true,slotNames:=[],subclasses:=[],abstract:=false,collection:=none,hasDel:=false }),zP [none,none,(some (.str n78 409)),(some (.str n78 417)),(some (.builtin "object.__new__")),(some (.bool true))]⟩
def o258_8:PO:=fun p P=>⟨(.type "getset_descriptor"),none,(.fields (zP [(.str n42 589),(.ref 257),(.builtin "function.__dict__"),(.builtin "function.__dict__#set")])),zP []⟩
def o259_8:PO:=fun p P=>⟨(.type "getset_descriptor"),none,(.fields (zP [(.str n43 591),(.ref 257),(.builtin "ExceptionGroup.__weakref__"),.none])),zP []⟩
noncomputable def o260_8:PO:=fun p P=>⟨(.type "super"),none,(.fields (zP [(.ref 257),(.ref 257),(.ref 257)])),zP []⟩
noncomputable def o261_8:PO:=fun p P=>⟨(.type "builtin_function_or_method"),none,(.fields (zP [(.builtin "object.__init_subclass__"),(.ref 257)])),zP []⟩
def o3_21:PO:=fun p P=>⟨(.type "dict"),none,(.dict (zP [⟨kh P n3,.str n3 165,(.str n144 595)⟩,⟨kh P n5,.str n5 166,.none⟩,⟨kh P n6,.str n6 167,.none⟩,⟨kh P n7,.str n7 168,(.builtin "__main__.__loader__#opaque")⟩,⟨kh P n8,.str n8 169,.none⟩,⟨kh P n9,.str n9 170,(.ref 6)⟩,⟨kh P n10,.str n10 171,(.ref 4)⟩,⟨kh P n11,.str n11 173,(.str n1 172)⟩,⟨kh P n12,.str n12 174,.none⟩,⟨kh P n13,.str n13 193,(.ref 21)⟩,⟨kh P n14,.str n14 204,(.ref 29)⟩,⟨kh P n15,.str n15 213,(.ref 36)⟩,⟨kh P n16,.str n16 272,(.ref 75)⟩,⟨kh P n44,.str n44 400,(.ref 150)⟩,⟨kh P n45,.str n45 408,(.ref 160)⟩,⟨kh P n78,.str n78 594,(.ref 257)⟩,⟨kh P n145,.str n145 603,(.ref 268)⟩,⟨kh P n146,.str n146 610,(.ref 275)⟩,⟨kh P n147,.str n147 620,(.ref 282)⟩,⟨kh P n148,.str n148 635,(.ref 289)⟩,⟨kh P n149,.str n149 651,(.ref 296)⟩,⟨kh P n150,.str n150 664,(.ref 303)⟩,⟨kh P n151,.str n151 674,(.ref 310)⟩,⟨kh P n152,.str n152 683,(.ref 317)⟩,⟨kh P n153,.str n153 689,(.ref 322)⟩,⟨kh P n154,.str n154 696,(.ref 329)⟩,⟨kh P n155,.str n155 706,(.ref 336)⟩,⟨kh P n156,.str n156 712,(.ref 341)⟩]) 28),zP []⟩
def o12_21:PO:=fun p P=>fO [(iV 1),(iV 0),(.ref 20),(iV 5),(iV 0),(.ref 28),(iV 12),(iV 0),(.ref 35),(iV 19),(iV 0),(.ref 42),(iV 37),(iV 0),(.ref 86),(iV 80),(iV 0),(.ref 159),(iV 84),(iV 0),(.ref 166),(iV 433),(iV 0),(.ref 267),(iV 435),(iV 0),(.ref 274),(iV 437),(iV 0),(.ref 281),(iV 439),(iV 0),(.ref 288),(iV 453),(iV 0),(.ref 295),(iV 460),(iV 0),(.ref 302),(iV 468),(iV 0),(.ref 309),(iV 471),(iV 0),(.ref 316),(iV 476),(iV 0),(.ref 321),(iV 481),(iV 0),(.ref 328),(iV 486),(iV 0),(.ref 335),(iV 493),(iV 0),(.ref 340)]
def o262_21:PO:=fun p P=>tO []
def o263_21:PO:=fun p P=>fO []
def o264_21:PO:=fun p P=>tO [(.str n17 600)]
def o265_21:PO:=fun p P=>tO []
def o266_21:PO:=fun p P=>f0 n145 n145 (st p 10)
def o267_21:PO:=fun p P=>cO n145 597 n145 598 599 433 1 0 0 3 (.ref 262) true (.ref 263) .none (.ref 264) (.ref 265) (.ref 266) 601 602
def o268_21:PO:=fun p P=>f3 n145 n145 (st p 10) .none .none .none (.str n144 595) (.ref 267)
def o269_21:PO:=fun p P=>tO []
def o270_21:PO:=fun p P=>fO []
def o271_21:PO:=fun p P=>tO [(.str n17 607)]
def o272_21:PO:=fun p P=>tO []
def o273_21:PO:=fun p P=>f0 n146 n146 (st p 11)
def o274_21:PO:=fun p P=>cO n146 604 n146 605 606 435 1 0 0 3 (.ref 269) true (.ref 270) .none (.ref 271) (.ref 272) (.ref 273) 608 609
def o275_21:PO:=fun p P=>f3 n146 n146 (st p 11) .none .none .none (.str n144 595) (.ref 274)
def o276_21:PO:=fun p P=>tO []
def o277_21:PO:=fun p P=>fO []
def o278_21:PO:=fun p P=>tO [(.str n157 614),(.str n158 615),(.str n159 616),(.str n160 617)]
def o279_21:PO:=fun p P=>tO []
def o280_21:PO:=fun p P=>f0 n147 n147 (st p 12)
def o281_21:PO:=fun p P=>cO n147 611 n147 612 613 437 4 0 0 3 (.ref 276) true (.ref 277) .none (.ref 278) (.ref 279) (.ref 280) 618 619
def o282_21:PO:=fun p P=>f3 n147 n147 (st p 12) .none .none .none (.str n144 595) (.ref 281)
def o283_21:PO:=fun p P=>tO []
def o284_21:PO:=fun p P=>fO []
def o285_21:PO:=fun p P=>tO [(.str n157 624),(.str n158 625),(.str n161 626),(.str n159 627),(.str n160 628),(.str n59 629),(.str n162 630),(.str n163 631),(.str n164 632)]
def o286_21:PO:=fun p P=>tO []
def o287_21:PO:=fun p P=>f0 n148 n148 (st p 13)
def o288_21:PO:=fun p P=>cO n148 621 n148 622 623 439 3 0 0 3 (.ref 283) true (.ref 284) .none (.ref 285) (.ref 286) (.ref 287) 633 634
def o289_21:PO:=fun p P=>f3 n148 n148 (st p 13) .none .none .none (.str n144 595) (.ref 288)
def o290_21:PO:=fun p P=>tO []
def o291_21:PO:=fun p P=>fO []
def o292_21:PO:=fun p P=>tO [(.str n157 639),(.str n158 640),(.str n161 641),(.str n98 642),(.str n120 643),(.str n159 644),(.str n160 645),(.str n59 646),(.str n165 647),(.str n166 648)]
def o293_21:PO:=fun p P=>tO []
def o294_21:PO:=fun p P=>f0 n149 n149 (st p 14)
def o295_21:PO:=fun p P=>cO n149 636 n149 637 638 453 5 0 0 3 (.ref 290) true (.ref 291) .none (.ref 292) (.ref 293) (.ref 294) 649 650
def o296_21:PO:=fun p P=>f3 n149 n149 (st p 14) .none .none .none (.str n144 595) (.ref 295)
def o297_21:PO:=fun p P=>tO []
def o298_21:PO:=fun p P=>fO []
def o299_21:PO:=fun p P=>tO [(.str n157 655),(.str n158 656),(.str n161 657),(.str n167 658),(.str n159 659),(.str n160 660),(.str n59 661)]
def o300_21:PO:=fun p P=>tO []
def o301_21:PO:=fun p P=>f0 n150 n150 (st p 15)
def o302_21:PO:=fun p P=>cO n150 652 n150 653 654 460 3 0 0 3 (.ref 297) true (.ref 298) .none (.ref 299) (.ref 300) (.ref 301) 662 663
def o303_21:PO:=fun p P=>f3 n150 n150 (st p 15) .none .none .none (.str n144 595) (.ref 302)
def o304_21:PO:=fun p P=>tO []
def o305_21:PO:=fun p P=>fO []
def o306_21:PO:=fun p P=>tO [(.str n168 668),(.str n169 669),(.str n170 670),(.str n161 671)]
def o307_21:PO:=fun p P=>tO []
def o308_21:PO:=fun p P=>f0 n151 n151 (st p 16)
def o309_21:PO:=fun p P=>cO n151 665 n151 666 667 468 4 0 0 3 (.ref 304) true (.ref 305) .none (.ref 306) (.ref 307) (.ref 308) 672 673
def o310_21:PO:=fun p P=>f3 n151 n151 (st p 16) .none .none .none (.str n144 595) (.ref 309)
def o311_21:PO:=fun p P=>tO []
def o312_21:PO:=fun p P=>fO []
def o313_21:PO:=fun p P=>tO [(.str n171 678),(.str n172 679),(.str n173 680)]
def o314_21:PO:=fun p P=>tO []
def o315_21:PO:=fun p P=>f0 n152 n152 (st p 17)
def o316_21:PO:=fun p P=>cO n152 675 n152 676 677 471 3 0 0 3 (.ref 311) true (.ref 312) .none (.ref 313) (.ref 314) (.ref 315) 681 682
def o317_21:PO:=fun p P=>f3 n152 n152 (st p 17) .none .none .none (.str n144 595) (.ref 316)
def o318_21:PO:=fun p P=>tO []
def o319_21:PO:=fun p P=>fO []
def o320_21:PO:=fun p P=>f0 n153 n153 (st p 18)
def o321_21:PO:=fun p P=>cO n153 684 n153 685 686 476 1 0 0 3 (.ref 318) true (.ref 319) .none .none .none (.ref 320) 687 688
def o322_21:PO:=fun p P=>f3 n153 n153 (st p 18) .none .none .none (.str n144 595) (.ref 321)
def o323_21:PO:=fun p P=>tO []
def o324_21:PO:=fun p P=>fO []
def o325_21:PO:=fun p P=>tO [(.str n172 693)]
def o326_21:PO:=fun p P=>tO []
def o327_21:PO:=fun p P=>f0 n154 n154 (st p 19)
def o328_21:PO:=fun p P=>cO n154 690 n154 691 692 481 1 0 0 3 (.ref 323) true (.ref 324) .none (.ref 325) (.ref 326) (.ref 327) 694 695
def o329_21:PO:=fun p P=>f3 n154 n154 (st p 19) .none .none .none (.str n144 595) (.ref 328)
def o330_21:PO:=fun p P=>tO []
def o331_21:PO:=fun p P=>fO []
def o332_21:PO:=fun p P=>tO [(.str n174 700),(.str n167 701),(.str n157 702),(.str n158 703)]
def o333_21:PO:=fun p P=>tO []
def o334_21:PO:=fun p P=>f0 n155 n155 (st p 20)
def o335_21:PO:=fun p P=>cO n155 697 n155 698 699 486 2 0 0 3 (.ref 330) true (.ref 331) .none (.ref 332) (.ref 333) (.ref 334) 704 705
def o336_21:PO:=fun p P=>f3 n155 n155 (st p 20) .none .none .none (.str n144 595) (.ref 335)
def o337_21:PO:=fun p P=>tO []
def o338_21:PO:=fun p P=>fO []
def o339_21:PO:=fun p P=>f0 n156 n156 (st p 21)
def o340_21:PO:=fun p P=>cO n156 707 n156 708 709 493 1 0 0 3 (.ref 337) true (.ref 338) .none .none .none (.ref 339) 710 711
def o341_21:PO:=fun p P=>f3 n156 n156 (st p 21) .none .none .none (.str n144 595) (.ref 340)
noncomputable abbrev lf (p:Program) (P:Params) (o:PO):BT:=.node (o p P) .nil .nil
noncomputable abbrev ndT (p:Program) (P:Params) (o:PO) (a b:BT):BT:=.node (o p P) a b
def tree0 (p:Program) (P:Params):BT:=(.node (boot_o_0 P) (.node (boot_o_1 P) (.node (boot_o_3 P) (.node (boot_o_7 P) .nil .nil) (lf p P o11_0)) (.node (boot_o_5 P) (.node (boot_o_9 P) .nil .nil) (lf p P o13_0))) (.node (boot_o_2 P) (.node (boot_o_4 P) (.node (boot_o_8 P) .nil .nil) (lf p P o12_0)) (.node (boot_o_6 P) (.node (boot_o_10 P) .nil .nil) (lf p P o14_0))))
def s0 (p:Program) (w:zT) (os:OsState):SharedT:=⟨tree0 p w.params,15,{},zP [],{},187,os⟩
def tree5 (p:Program) (P:Params):BT:=(.node (boot_o_0 P) (.node (boot_o_1 P) (ndT p P o3_5 (.node (boot_o_7 P) (ndT p P o15_5 (ndT p P o31_5 (lf p P o63_5) .nil) (ndT p P o47_5 (lf p P o79_5) .nil)) (ndT p P o23_5 (ndT p P o39_5 (lf p P o71_5) .nil) (lf p P o55_5))) (ndT p P o11_0 (ndT p P o19_5 (ndT p P o35_5 (lf p P o67_5) .nil) (lf p P o51_5)) (ndT p P o27_5 (ndT p P o43_5 (lf p P o75_5) .nil) (lf p P o59_5)))) (.node (boot_o_5 P) (.node (boot_o_9 P) (ndT p P o17_5 (ndT p P o33_5 (lf p P o65_5) .nil) (lf p P o49_5)) (ndT p P o25_5 (ndT p P o41_5 (lf p P o73_5) .nil) (lf p P o57_5))) (ndT p P o13_0 (ndT p P o21_5 (ndT p P o37_5 (lf p P o69_5) .nil) (lf p P o53_5)) (ndT p P o29_5 (ndT p P o45_5 (lf p P o77_5) .nil) (lf p P o61_5))))) (.node (boot_o_2 P) (.node (boot_o_4 P) (.node (boot_o_8 P) (ndT p P o16_5 (ndT p P o32_5 (lf p P o64_5) .nil) (lf p P o48_5)) (ndT p P o24_5 (ndT p P o40_5 (lf p P o72_5) .nil) (lf p P o56_5))) (ndT p P o12_5 (ndT p P o20_5 (ndT p P o36_5 (lf p P o68_5) .nil) (lf p P o52_5)) (ndT p P o28_5 (ndT p P o44_5 (lf p P o76_5) .nil) (lf p P o60_5)))) (.node (boot_o_6 P) (.node (boot_o_10 P) (ndT p P o18_5 (ndT p P o34_5 (lf p P o66_5) .nil) (lf p P o50_5)) (ndT p P o26_5 (ndT p P o42_5 (lf p P o74_5) .nil) (lf p P o58_5))) (ndT p P o14_0 (ndT p P o22_5 (ndT p P o38_5 (lf p P o70_5) .nil) (lf p P o54_5)) (ndT p P o30_5 (ndT p P o46_5 (lf p P o78_5) .nil) (lf p P o62_5))))))
def s5 (p:Program) (w:zT) (os:OsState):SharedT:=⟨tree5 p w.params,80,{},zP [],{},273,os⟩
def tree7 (p:Program) (P:Params):BT:=(.node (boot_o_0 P) (.node (boot_o_1 P) (ndT p P o3_7 (.node (boot_o_7 P) (ndT p P o15_5 (ndT p P o31_5 (ndT p P o63_5 (lf p P o127_7) .nil) (ndT p P o95_7 (lf p P o159_7) .nil)) (ndT p P o47_5 (ndT p P o79_5 (lf p P o143_7) .nil) (lf p P o111_7))) (ndT p P o23_5 (ndT p P o39_5 (ndT p P o71_5 (lf p P o135_7) .nil) (lf p P o103_7)) (ndT p P o55_5 (ndT p P o87_7 (lf p P o151_7) .nil) (lf p P o119_7)))) (ndT p P o11_0 (ndT p P o19_5 (ndT p P o35_5 (ndT p P o67_5 (lf p P o131_7) .nil) (lf p P o99_7)) (ndT p P o51_5 (ndT p P o83_7 (lf p P o147_7) .nil) (lf p P o115_7))) (ndT p P o27_5 (ndT p P o43_5 (ndT p P o75_5 (lf p P o139_7) .nil) (lf p P o107_7)) (ndT p P o59_5 (ndT p P o91_7 (lf p P o155_7) .nil) (lf p P o123_7))))) (.node (boot_o_5 P) (.node (boot_o_9 P) (ndT p P o17_5 (ndT p P o33_5 (ndT p P o65_5 (lf p P o129_7) .nil) (lf p P o97_7)) (ndT p P o49_5 (ndT p P o81_7 (lf p P o145_7) .nil) (lf p P o113_7))) (ndT p P o25_5 (ndT p P o41_5 (ndT p P o73_5 (lf p P o137_7) .nil) (lf p P o105_7)) (ndT p P o57_5 (ndT p P o89_7 (lf p P o153_7) .nil) (lf p P o121_7)))) (ndT p P o13_0 (ndT p P o21_5 (ndT p P o37_5 (ndT p P o69_5 (lf p P o133_7) .nil) (lf p P o101_7)) (ndT p P o53_5 (ndT p P o85_7 (lf p P o149_7) .nil) (lf p P o117_7))) (ndT p P o29_5 (ndT p P o45_5 (ndT p P o77_5 (lf p P o141_7) .nil) (lf p P o109_7)) (ndT p P o61_5 (ndT p P o93_7 (lf p P o157_7) .nil) (lf p P o125_7)))))) (.node (boot_o_2 P) (.node (boot_o_4 P) (.node (boot_o_8 P) (ndT p P o16_5 (ndT p P o32_5 (ndT p P o64_5 (lf p P o128_7) .nil) (ndT p P o96_7 (lf p P o160_7) .nil)) (ndT p P o48_5 (ndT p P o80_7 (lf p P o144_7) .nil) (lf p P o112_7))) (ndT p P o24_5 (ndT p P o40_5 (ndT p P o72_5 (lf p P o136_7) .nil) (lf p P o104_7)) (ndT p P o56_5 (ndT p P o88_7 (lf p P o152_7) .nil) (lf p P o120_7)))) (ndT p P o12_7 (ndT p P o20_5 (ndT p P o36_5 (ndT p P o68_5 (lf p P o132_7) .nil) (lf p P o100_7)) (ndT p P o52_5 (ndT p P o84_7 (lf p P o148_7) .nil) (lf p P o116_7))) (ndT p P o28_5 (ndT p P o44_5 (ndT p P o76_5 (lf p P o140_7) .nil) (lf p P o108_7)) (ndT p P o60_5 (ndT p P o92_7 (lf p P o156_7) .nil) (lf p P o124_7))))) (.node (boot_o_6 P) (.node (boot_o_10 P) (ndT p P o18_5 (ndT p P o34_5 (ndT p P o66_5 (lf p P o130_7) .nil) (lf p P o98_7)) (ndT p P o50_5 (ndT p P o82_7 (lf p P o146_7) .nil) (lf p P o114_7))) (ndT p P o26_5 (ndT p P o42_5 (ndT p P o74_5 (lf p P o138_7) .nil) (lf p P o106_7)) (ndT p P o58_5 (ndT p P o90_7 (lf p P o154_7) .nil) (lf p P o122_7)))) (ndT p P o14_0 (ndT p P o22_5 (ndT p P o38_5 (ndT p P o70_5 (lf p P o134_7) .nil) (lf p P o102_7)) (ndT p P o54_5 (ndT p P o86_7 (lf p P o150_7) .nil) (lf p P o118_7))) (ndT p P o30_5 (ndT p P o46_5 (ndT p P o78_5 (lf p P o142_7) .nil) (lf p P o110_7)) (ndT p P o62_5 (ndT p P o94_7 (lf p P o158_7) .nil) (lf p P o126_7)))))))
def s7 (p:Program) (w:zT) (os:OsState):SharedT:=⟨tree7 p w.params,161,{},zP [],{},409,os⟩
def tree8 (p:Program) (P:Params):BT:=(.node (boot_o_0 P) (.node (boot_o_1 P) (ndT p P o3_8 (.node (boot_o_7 P) (ndT p P o15_5 (ndT p P o31_5 (ndT p P o63_5 (ndT p P o127_7 (lf p P o255_8) .nil) (lf p P o191_8)) (ndT p P o95_7 (lf p P o159_7) (lf p P o223_8))) (ndT p P o47_5 (ndT p P o79_5 (lf p P o143_7) (lf p P o207_8)) (ndT p P o111_7 (lf p P o175_8) (lf p P o239_8)))) (ndT p P o23_5 (ndT p P o39_5 (ndT p P o71_5 (lf p P o135_7) (lf p P o199_8)) (ndT p P o103_7 (lf p P o167_8) (lf p P o231_8))) (ndT p P o55_5 (ndT p P o87_7 (lf p P o151_7) (lf p P o215_8)) (ndT p P o119_7 (lf p P o183_8) (lf p P o247_8))))) (ndT p P o11_0 (ndT p P o19_5 (ndT p P o35_5 (ndT p P o67_5 (ndT p P o131_7 (lf p P o259_8) .nil) (lf p P o195_8)) (ndT p P o99_7 (lf p P o163_8) (lf p P o227_8))) (ndT p P o51_5 (ndT p P o83_7 (lf p P o147_7) (lf p P o211_8)) (ndT p P o115_7 (lf p P o179_8) (lf p P o243_8)))) (ndT p P o27_5 (ndT p P o43_5 (ndT p P o75_5 (lf p P o139_7) (lf p P o203_8)) (ndT p P o107_7 (lf p P o171_8) (lf p P o235_8))) (ndT p P o59_5 (ndT p P o91_7 (lf p P o155_7) (lf p P o219_8)) (ndT p P o123_7 (lf p P o187_8) (lf p P o251_8)))))) (.node (boot_o_5 P) (.node (boot_o_9 P) (ndT p P o17_5 (ndT p P o33_5 (ndT p P o65_5 (ndT p P o129_7 (lf p P o257_8) .nil) (lf p P o193_8)) (ndT p P o97_7 (lf p P o161_8) (lf p P o225_8))) (ndT p P o49_5 (ndT p P o81_7 (lf p P o145_7) (lf p P o209_8)) (ndT p P o113_7 (lf p P o177_8) (lf p P o241_8)))) (ndT p P o25_5 (ndT p P o41_5 (ndT p P o73_5 (lf p P o137_7) (lf p P o201_8)) (ndT p P o105_7 (lf p P o169_8) (lf p P o233_8))) (ndT p P o57_5 (ndT p P o89_7 (lf p P o153_7) (lf p P o217_8)) (ndT p P o121_7 (lf p P o185_8) (lf p P o249_8))))) (ndT p P o13_0 (ndT p P o21_5 (ndT p P o37_5 (ndT p P o69_5 (ndT p P o133_7 (lf p P o261_8) .nil) (lf p P o197_8)) (ndT p P o101_7 (lf p P o165_8) (lf p P o229_8))) (ndT p P o53_5 (ndT p P o85_7 (lf p P o149_7) (lf p P o213_8)) (ndT p P o117_7 (lf p P o181_8) (lf p P o245_8)))) (ndT p P o29_5 (ndT p P o45_5 (ndT p P o77_5 (lf p P o141_7) (lf p P o205_8)) (ndT p P o109_7 (lf p P o173_8) (lf p P o237_8))) (ndT p P o61_5 (ndT p P o93_7 (lf p P o157_7) (lf p P o221_8)) (ndT p P o125_7 (lf p P o189_8) (lf p P o253_8))))))) (.node (boot_o_2 P) (.node (boot_o_4 P) (.node (boot_o_8 P) (ndT p P o16_5 (ndT p P o32_5 (ndT p P o64_5 (ndT p P o128_7 (lf p P o256_8) .nil) (lf p P o192_8)) (ndT p P o96_7 (lf p P o160_7) (lf p P o224_8))) (ndT p P o48_5 (ndT p P o80_7 (lf p P o144_7) (lf p P o208_8)) (ndT p P o112_7 (lf p P o176_8) (lf p P o240_8)))) (ndT p P o24_5 (ndT p P o40_5 (ndT p P o72_5 (lf p P o136_7) (lf p P o200_8)) (ndT p P o104_7 (lf p P o168_8) (lf p P o232_8))) (ndT p P o56_5 (ndT p P o88_7 (lf p P o152_7) (lf p P o216_8)) (ndT p P o120_7 (lf p P o184_8) (lf p P o248_8))))) (ndT p P o12_8 (ndT p P o20_5 (ndT p P o36_5 (ndT p P o68_5 (ndT p P o132_7 (lf p P o260_8) .nil) (lf p P o196_8)) (ndT p P o100_7 (lf p P o164_8) (lf p P o228_8))) (ndT p P o52_5 (ndT p P o84_7 (lf p P o148_7) (lf p P o212_8)) (ndT p P o116_7 (lf p P o180_8) (lf p P o244_8)))) (ndT p P o28_5 (ndT p P o44_5 (ndT p P o76_5 (lf p P o140_7) (lf p P o204_8)) (ndT p P o108_7 (lf p P o172_8) (lf p P o236_8))) (ndT p P o60_5 (ndT p P o92_7 (lf p P o156_7) (lf p P o220_8)) (ndT p P o124_7 (lf p P o188_8) (lf p P o252_8)))))) (.node (boot_o_6 P) (.node (boot_o_10 P) (ndT p P o18_5 (ndT p P o34_5 (ndT p P o66_5 (ndT p P o130_7 (lf p P o258_8) .nil) (lf p P o194_8)) (ndT p P o98_7 (lf p P o162_8) (lf p P o226_8))) (ndT p P o50_5 (ndT p P o82_7 (lf p P o146_7) (lf p P o210_8)) (ndT p P o114_7 (lf p P o178_8) (lf p P o242_8)))) (ndT p P o26_5 (ndT p P o42_5 (ndT p P o74_5 (lf p P o138_7) (lf p P o202_8)) (ndT p P o106_7 (lf p P o170_8) (lf p P o234_8))) (ndT p P o58_5 (ndT p P o90_7 (lf p P o154_7) (lf p P o218_8)) (ndT p P o122_7 (lf p P o186_8) (lf p P o250_8))))) (ndT p P o14_0 (ndT p P o22_5 (ndT p P o38_5 (ndT p P o70_5 (lf p P o134_7) (lf p P o198_8)) (ndT p P o102_7 (lf p P o166_8) (lf p P o230_8))) (ndT p P o54_5 (ndT p P o86_7 (lf p P o150_7) (lf p P o214_8)) (ndT p P o118_7 (lf p P o182_8) (lf p P o246_8)))) (ndT p P o30_5 (ndT p P o46_5 (ndT p P o78_5 (lf p P o142_7) (lf p P o206_8)) (ndT p P o110_7 (lf p P o174_8) (lf p P o238_8))) (ndT p P o62_5 (ndT p P o94_7 (lf p P o158_7) (lf p P o222_8)) (ndT p P o126_7 (lf p P o190_8) (lf p P o254_8))))))))
def s8 (p:Program) (w:zT) (os:OsState):SharedT:=⟨tree8 p w.params,262,{},zP [],{},595,os⟩
def tree21 (p:Program) (P:Params):BT:=(.node (boot_o_0 P) (.node (boot_o_1 P) (ndT p P o3_21 (.node (boot_o_7 P) (ndT p P o15_5 (ndT p P o31_5 (ndT p P o63_5 (ndT p P o127_7 (lf p P o255_8) .nil) (ndT p P o191_8 (lf p P o319_21) .nil)) (ndT p P o95_7 (ndT p P o159_7 (lf p P o287_21) .nil) (lf p P o223_8))) (ndT p P o47_5 (ndT p P o79_5 (ndT p P o143_7 (lf p P o271_21) .nil) (ndT p P o207_8 (lf p P o335_21) .nil)) (ndT p P o111_7 (ndT p P o175_8 (lf p P o303_21) .nil) (lf p P o239_8)))) (ndT p P o23_5 (ndT p P o39_5 (ndT p P o71_5 (ndT p P o135_7 (lf p P o263_21) .nil) (ndT p P o199_8 (lf p P o327_21) .nil)) (ndT p P o103_7 (ndT p P o167_8 (lf p P o295_21) .nil) (lf p P o231_8))) (ndT p P o55_5 (ndT p P o87_7 (ndT p P o151_7 (lf p P o279_21) .nil) (lf p P o215_8)) (ndT p P o119_7 (ndT p P o183_8 (lf p P o311_21) .nil) (lf p P o247_8))))) (ndT p P o11_0 (ndT p P o19_5 (ndT p P o35_5 (ndT p P o67_5 (ndT p P o131_7 (lf p P o259_8) .nil) (ndT p P o195_8 (lf p P o323_21) .nil)) (ndT p P o99_7 (ndT p P o163_8 (lf p P o291_21) .nil) (lf p P o227_8))) (ndT p P o51_5 (ndT p P o83_7 (ndT p P o147_7 (lf p P o275_21) .nil) (ndT p P o211_8 (lf p P o339_21) .nil)) (ndT p P o115_7 (ndT p P o179_8 (lf p P o307_21) .nil) (lf p P o243_8)))) (ndT p P o27_5 (ndT p P o43_5 (ndT p P o75_5 (ndT p P o139_7 (lf p P o267_21) .nil) (ndT p P o203_8 (lf p P o331_21) .nil)) (ndT p P o107_7 (ndT p P o171_8 (lf p P o299_21) .nil) (lf p P o235_8))) (ndT p P o59_5 (ndT p P o91_7 (ndT p P o155_7 (lf p P o283_21) .nil) (lf p P o219_8)) (ndT p P o123_7 (ndT p P o187_8 (lf p P o315_21) .nil) (lf p P o251_8)))))) (.node (boot_o_5 P) (.node (boot_o_9 P) (ndT p P o17_5 (ndT p P o33_5 (ndT p P o65_5 (ndT p P o129_7 (lf p P o257_8) .nil) (ndT p P o193_8 (lf p P o321_21) .nil)) (ndT p P o97_7 (ndT p P o161_8 (lf p P o289_21) .nil) (lf p P o225_8))) (ndT p P o49_5 (ndT p P o81_7 (ndT p P o145_7 (lf p P o273_21) .nil) (ndT p P o209_8 (lf p P o337_21) .nil)) (ndT p P o113_7 (ndT p P o177_8 (lf p P o305_21) .nil) (lf p P o241_8)))) (ndT p P o25_5 (ndT p P o41_5 (ndT p P o73_5 (ndT p P o137_7 (lf p P o265_21) .nil) (ndT p P o201_8 (lf p P o329_21) .nil)) (ndT p P o105_7 (ndT p P o169_8 (lf p P o297_21) .nil) (lf p P o233_8))) (ndT p P o57_5 (ndT p P o89_7 (ndT p P o153_7 (lf p P o281_21) .nil) (lf p P o217_8)) (ndT p P o121_7 (ndT p P o185_8 (lf p P o313_21) .nil) (lf p P o249_8))))) (ndT p P o13_0 (ndT p P o21_5 (ndT p P o37_5 (ndT p P o69_5 (ndT p P o133_7 (lf p P o261_8) .nil) (ndT p P o197_8 (lf p P o325_21) .nil)) (ndT p P o101_7 (ndT p P o165_8 (lf p P o293_21) .nil) (lf p P o229_8))) (ndT p P o53_5 (ndT p P o85_7 (ndT p P o149_7 (lf p P o277_21) .nil) (ndT p P o213_8 (lf p P o341_21) .nil)) (ndT p P o117_7 (ndT p P o181_8 (lf p P o309_21) .nil) (lf p P o245_8)))) (ndT p P o29_5 (ndT p P o45_5 (ndT p P o77_5 (ndT p P o141_7 (lf p P o269_21) .nil) (ndT p P o205_8 (lf p P o333_21) .nil)) (ndT p P o109_7 (ndT p P o173_8 (lf p P o301_21) .nil) (lf p P o237_8))) (ndT p P o61_5 (ndT p P o93_7 (ndT p P o157_7 (lf p P o285_21) .nil) (lf p P o221_8)) (ndT p P o125_7 (ndT p P o189_8 (lf p P o317_21) .nil) (lf p P o253_8))))))) (.node (boot_o_2 P) (.node (boot_o_4 P) (.node (boot_o_8 P) (ndT p P o16_5 (ndT p P o32_5 (ndT p P o64_5 (ndT p P o128_7 (lf p P o256_8) .nil) (ndT p P o192_8 (lf p P o320_21) .nil)) (ndT p P o96_7 (ndT p P o160_7 (lf p P o288_21) .nil) (lf p P o224_8))) (ndT p P o48_5 (ndT p P o80_7 (ndT p P o144_7 (lf p P o272_21) .nil) (ndT p P o208_8 (lf p P o336_21) .nil)) (ndT p P o112_7 (ndT p P o176_8 (lf p P o304_21) .nil) (lf p P o240_8)))) (ndT p P o24_5 (ndT p P o40_5 (ndT p P o72_5 (ndT p P o136_7 (lf p P o264_21) .nil) (ndT p P o200_8 (lf p P o328_21) .nil)) (ndT p P o104_7 (ndT p P o168_8 (lf p P o296_21) .nil) (lf p P o232_8))) (ndT p P o56_5 (ndT p P o88_7 (ndT p P o152_7 (lf p P o280_21) .nil) (lf p P o216_8)) (ndT p P o120_7 (ndT p P o184_8 (lf p P o312_21) .nil) (lf p P o248_8))))) (ndT p P o12_21 (ndT p P o20_5 (ndT p P o36_5 (ndT p P o68_5 (ndT p P o132_7 (lf p P o260_8) .nil) (ndT p P o196_8 (lf p P o324_21) .nil)) (ndT p P o100_7 (ndT p P o164_8 (lf p P o292_21) .nil) (lf p P o228_8))) (ndT p P o52_5 (ndT p P o84_7 (ndT p P o148_7 (lf p P o276_21) .nil) (ndT p P o212_8 (lf p P o340_21) .nil)) (ndT p P o116_7 (ndT p P o180_8 (lf p P o308_21) .nil) (lf p P o244_8)))) (ndT p P o28_5 (ndT p P o44_5 (ndT p P o76_5 (ndT p P o140_7 (lf p P o268_21) .nil) (ndT p P o204_8 (lf p P o332_21) .nil)) (ndT p P o108_7 (ndT p P o172_8 (lf p P o300_21) .nil) (lf p P o236_8))) (ndT p P o60_5 (ndT p P o92_7 (ndT p P o156_7 (lf p P o284_21) .nil) (lf p P o220_8)) (ndT p P o124_7 (ndT p P o188_8 (lf p P o316_21) .nil) (lf p P o252_8)))))) (.node (boot_o_6 P) (.node (boot_o_10 P) (ndT p P o18_5 (ndT p P o34_5 (ndT p P o66_5 (ndT p P o130_7 (lf p P o258_8) .nil) (ndT p P o194_8 (lf p P o322_21) .nil)) (ndT p P o98_7 (ndT p P o162_8 (lf p P o290_21) .nil) (lf p P o226_8))) (ndT p P o50_5 (ndT p P o82_7 (ndT p P o146_7 (lf p P o274_21) .nil) (ndT p P o210_8 (lf p P o338_21) .nil)) (ndT p P o114_7 (ndT p P o178_8 (lf p P o306_21) .nil) (lf p P o242_8)))) (ndT p P o26_5 (ndT p P o42_5 (ndT p P o74_5 (ndT p P o138_7 (lf p P o266_21) .nil) (ndT p P o202_8 (lf p P o330_21) .nil)) (ndT p P o106_7 (ndT p P o170_8 (lf p P o298_21) .nil) (lf p P o234_8))) (ndT p P o58_5 (ndT p P o90_7 (ndT p P o154_7 (lf p P o282_21) .nil) (lf p P o218_8)) (ndT p P o122_7 (ndT p P o186_8 (lf p P o314_21) .nil) (lf p P o250_8))))) (ndT p P o14_0 (ndT p P o22_5 (ndT p P o38_5 (ndT p P o70_5 (ndT p P o134_7 (lf p P o262_21) .nil) (ndT p P o198_8 (lf p P o326_21) .nil)) (ndT p P o102_7 (ndT p P o166_8 (lf p P o294_21) .nil) (lf p P o230_8))) (ndT p P o54_5 (ndT p P o86_7 (ndT p P o150_7 (lf p P o278_21) .nil) (lf p P o214_8)) (ndT p P o118_7 (ndT p P o182_8 (lf p P o310_21) .nil) (lf p P o246_8)))) (ndT p P o30_5 (ndT p P o46_5 (ndT p P o78_5 (ndT p P o142_7 (lf p P o270_21) .nil) (ndT p P o206_8 (lf p P o334_21) .nil)) (ndT p P o110_7 (ndT p P o174_8 (lf p P o302_21) .nil) (lf p P o238_8))) (ndT p P o62_5 (ndT p P o94_7 (ndT p P o158_7 (lf p P o286_21) .nil) (lf p P o222_8)) (ndT p P o126_7 (ndT p P o190_8 (lf p P o318_21) .nil) (lf p P o254_8))))))))
def s21 (p:Program) (w:zT) (os:OsState):SharedT:=⟨tree21 p w.params,342,{},zP [],{},713,os⟩
def heap0 (p:Program) (P:Params):Heap:=⟨zP [boot_o_0 P,boot_o_1 P,boot_o_2 P,boot_o_3 P,boot_o_4 P,boot_o_5 P,boot_o_6 P,boot_o_7 P,boot_o_8 P,boot_o_9 P,boot_o_10 P,o11_0 p P,o12_0 p P,o13_0 p P,o14_0 p P],{}⟩
def heapF (p:Program) (P:Params):Heap:=⟨zP [boot_o_0 P,boot_o_1 P,boot_o_2 P,o3_21 p P,boot_o_4 P,boot_o_5 P,boot_o_6 P,boot_o_7 P,boot_o_8 P,boot_o_9 P,boot_o_10 P,o11_0 p P,o12_21 p P,o13_0 p P,o14_0 p P,o15_5 p P,o16_5 p P,o17_5 p P,o18_5 p P,o19_5 p P,o20_5 p P,o21_5 p P,o22_5 p P,o23_5 p P,o24_5 p P,o25_5 p P,o26_5 p P,o27_5 p P,o28_5 p P,o29_5 p P,o30_5 p P,o31_5 p P,o32_5 p P,o33_5 p P,o34_5 p P,o35_5 p P,o36_5 p P,o37_5 p P,o38_5 p P,o39_5 p P,o40_5 p P,o41_5 p P,o42_5 p P,o43_5 p P,o44_5 p P,o45_5 p P,o46_5 p P,o47_5 p P,o48_5 p P,o49_5 p P,o50_5 p P,o51_5 p P,o52_5 p P,o53_5 p P,o54_5 p P,o55_5 p P,o56_5 p P,o57_5 p P,o58_5 p P,o59_5 p P,o60_5 p P,o61_5 p P,o62_5 p P,o63_5 p P,o64_5 p P,o65_5 p P,o66_5 p P,o67_5 p P,o68_5 p P,o69_5 p P,o70_5 p P,o71_5 p P,o72_5 p P,o73_5 p P,o74_5 p P,o75_5 p P,o76_5 p P,o77_5 p P,o78_5 p P,o79_5 p P,o80_7 p P,o81_7 p P,o82_7 p P,o83_7 p P,o84_7 p P,o85_7 p P,o86_7 p P,o87_7 p P,o88_7 p P,o89_7 p P,o90_7 p P,o91_7 p P,o92_7 p P,o93_7 p P,o94_7 p P,o95_7 p P,o96_7 p P,o97_7 p P,o98_7 p P,o99_7 p P,o100_7 p P,o101_7 p P,o102_7 p P,o103_7 p P,o104_7 p P,o105_7 p P,o106_7 p P,o107_7 p P,o108_7 p P,o109_7 p P,o110_7 p P,o111_7 p P,o112_7 p P,o113_7 p P,o114_7 p P,o115_7 p P,o116_7 p P,o117_7 p P,o118_7 p P,o119_7 p P,o120_7 p P,o121_7 p P,o122_7 p P,o123_7 p P,o124_7 p P,o125_7 p P,o126_7 p P,o127_7 p P,o128_7 p P,o129_7 p P,o130_7 p P,o131_7 p P,o132_7 p P,o133_7 p P,o134_7 p P,o135_7 p P,o136_7 p P,o137_7 p P,o138_7 p P,o139_7 p P,o140_7 p P,o141_7 p P,o142_7 p P,o143_7 p P,o144_7 p P,o145_7 p P,o146_7 p P,o147_7 p P,o148_7 p P,o149_7 p P,o150_7 p P,o151_7 p P,o152_7 p P,o153_7 p P,o154_7 p P,o155_7 p P,o156_7 p P,o157_7 p P,o158_7 p P,o159_7 p P,o160_7 p P,o161_8 p P,o162_8 p P,o163_8 p P,o164_8 p P,o165_8 p P,o166_8 p P,o167_8 p P,o168_8 p P,o169_8 p P,o170_8 p P,o171_8 p P,o172_8 p P,o173_8 p P,o174_8 p P,o175_8 p P,o176_8 p P,o177_8 p P,o178_8 p P,o179_8 p P,o180_8 p P,o181_8 p P,o182_8 p P,o183_8 p P,o184_8 p P,o185_8 p P,o186_8 p P,o187_8 p P,o188_8 p P,o189_8 p P,o190_8 p P,o191_8 p P,o192_8 p P,o193_8 p P,o194_8 p P,o195_8 p P,o196_8 p P,o197_8 p P,o198_8 p P,o199_8 p P,o200_8 p P,o201_8 p P,o202_8 p P,o203_8 p P,o204_8 p P,o205_8 p P,o206_8 p P,o207_8 p P,o208_8 p P,o209_8 p P,o210_8 p P,o211_8 p P,o212_8 p P,o213_8 p P,o214_8 p P,o215_8 p P,o216_8 p P,o217_8 p P,o218_8 p P,o219_8 p P,o220_8 p P,o221_8 p P,o222_8 p P,o223_8 p P,o224_8 p P,o225_8 p P,o226_8 p P,o227_8 p P,o228_8 p P,o229_8 p P,o230_8 p P,o231_8 p P,o232_8 p P,o233_8 p P,o234_8 p P,o235_8 p P,o236_8 p P,o237_8 p P,o238_8 p P,o239_8 p P,o240_8 p P,o241_8 p P,o242_8 p P,o243_8 p P,o244_8 p P,o245_8 p P,o246_8 p P,o247_8 p P,o248_8 p P,o249_8 p P,o250_8 p P,o251_8 p P,o252_8 p P,o253_8 p P,o254_8 p P,o255_8 p P,o256_8 p P,o257_8 p P,o258_8 p P,o259_8 p P,o260_8 p P,o261_8 p P,o262_21 p P,o263_21 p P,o264_21 p P,o265_21 p P,o266_21 p P,o267_21 p P,o268_21 p P,o269_21 p P,o270_21 p P,o271_21 p P,o272_21 p P,o273_21 p P,o274_21 p P,o275_21 p P,o276_21 p P,o277_21 p P,o278_21 p P,o279_21 p P,o280_21 p P,o281_21 p P,o282_21 p P,o283_21 p P,o284_21 p P,o285_21 p P,o286_21 p P,o287_21 p P,o288_21 p P,o289_21 p P,o290_21 p P,o291_21 p P,o292_21 p P,o293_21 p P,o294_21 p P,o295_21 p P,o296_21 p P,o297_21 p P,o298_21 p P,o299_21 p P,o300_21 p P,o301_21 p P,o302_21 p P,o303_21 p P,o304_21 p P,o305_21 p P,o306_21 p P,o307_21 p P,o308_21 p P,o309_21 p P,o310_21 p P,o311_21 p P,o312_21 p P,o313_21 p P,o314_21 p P,o315_21 p P,o316_21 p P,o317_21 p P,o318_21 p P,o319_21 p P,o320_21 p P,o321_21 p P,o322_21 p P,o323_21 p P,o324_21 p P,o325_21 p P,o326_21 p P,o327_21 p P,o328_21 p P,o329_21 p P,o330_21 p P,o331_21 p P,o332_21 p P,o333_21 p P,o334_21 p P,o335_21 p P,o336_21 p P,o337_21 p P,o338_21 p P,o339_21 p P,o340_21 p P,o341_21 p P],{}⟩
def KF (p:Program) (P:Params):Frag:=[(nat_lit 2,boot_o_2 P),(nat_lit 3,o3_21 p P),(nat_lit 15,o15_5 p P),(nat_lit 17,o17_5 p P),(nat_lit 18,o18_5 p P),(nat_lit 20,o20_5 p P),(nat_lit 21,o21_5 p P),(nat_lit 22,o22_5 p P),(nat_lit 23,o23_5 p P),(nat_lit 25,o25_5 p P),(nat_lit 26,o26_5 p P),(nat_lit 28,o28_5 p P),(nat_lit 29,o29_5 p P),(nat_lit 30,o30_5 p P),(nat_lit 32,o32_5 p P),(nat_lit 33,o33_5 p P),(nat_lit 35,o35_5 p P),(nat_lit 36,o36_5 p P),(nat_lit 44,o44_5 p P),(nat_lit 46,o46_5 p P),(nat_lit 47,o47_5 p P),(nat_lit 49,o49_5 p P),(nat_lit 50,o50_5 p P),(nat_lit 51,o51_5 p P),(nat_lit 52,o52_5 p P),(nat_lit 54,o54_5 p P),(nat_lit 55,o55_5 p P),(nat_lit 57,o57_5 p P),(nat_lit 58,o58_5 p P),(nat_lit 59,o59_5 p P),(nat_lit 61,o61_5 p P),(nat_lit 62,o62_5 p P),(nat_lit 64,o64_5 p P),(nat_lit 65,o65_5 p P),(nat_lit 66,o66_5 p P),(nat_lit 68,o68_5 p P),(nat_lit 69,o69_5 p P),(nat_lit 71,o71_5 p P),(nat_lit 72,o72_5 p P),(nat_lit 73,o73_5 p P),(nat_lit 74,o74_5 p P),(nat_lit 75,o75_5 p P),(nat_lit 76,o76_5 p P),(nat_lit 77,o77_5 p P),(nat_lit 80,o80_7 p P),(nat_lit 83,o83_7 p P),(nat_lit 88,o88_7 p P),(nat_lit 89,o89_7 p P),(nat_lit 90,o90_7 p P),(nat_lit 91,o91_7 p P),(nat_lit 93,o93_7 p P),(nat_lit 94,o94_7 p P),(nat_lit 96,o96_7 p P),(nat_lit 97,o97_7 p P),(nat_lit 98,o98_7 p P),(nat_lit 100,o100_7 p P),(nat_lit 101,o101_7 p P),(nat_lit 103,o103_7 p P),(nat_lit 104,o104_7 p P),(nat_lit 105,o105_7 p P),(nat_lit 106,o106_7 p P),(nat_lit 107,o107_7 p P),(nat_lit 108,o108_7 p P),(nat_lit 109,o109_7 p P),(nat_lit 111,o111_7 p P),(nat_lit 112,o112_7 p P),(nat_lit 114,o114_7 p P),(nat_lit 115,o115_7 p P),(nat_lit 116,o116_7 p P),(nat_lit 118,o118_7 p P),(nat_lit 119,o119_7 p P),(nat_lit 121,o121_7 p P),(nat_lit 122,o122_7 p P),(nat_lit 123,o123_7 p P),(nat_lit 125,o125_7 p P),(nat_lit 126,o126_7 p P),(nat_lit 128,o128_7 p P),(nat_lit 129,o129_7 p P),(nat_lit 130,o130_7 p P),(nat_lit 132,o132_7 p P),(nat_lit 133,o133_7 p P),(nat_lit 135,o135_7 p P),(nat_lit 136,o136_7 p P),(nat_lit 137,o137_7 p P),(nat_lit 138,o138_7 p P),(nat_lit 139,o139_7 p P),(nat_lit 141,o141_7 p P),(nat_lit 142,o142_7 p P),(nat_lit 144,o144_7 p P),(nat_lit 145,o145_7 p P),(nat_lit 147,o147_7 p P),(nat_lit 149,o149_7 p P),(nat_lit 150,o150_7 p P),(nat_lit 151,o151_7 p P),(nat_lit 154,o154_7 p P),(nat_lit 156,o156_7 p P),(nat_lit 157,o157_7 p P),(nat_lit 159,o159_7 p P),(nat_lit 160,o160_7 p P),(nat_lit 168,o168_8 p P),(nat_lit 169,o169_8 p P),(nat_lit 171,o171_8 p P),(nat_lit 172,o172_8 p P),(nat_lit 174,o174_8 p P),(nat_lit 175,o175_8 p P),(nat_lit 176,o176_8 p P),(nat_lit 178,o178_8 p P),(nat_lit 179,o179_8 p P),(nat_lit 181,o181_8 p P),(nat_lit 182,o182_8 p P),(nat_lit 183,o183_8 p P),(nat_lit 185,o185_8 p P),(nat_lit 186,o186_8 p P),(nat_lit 188,o188_8 p P),(nat_lit 189,o189_8 p P),(nat_lit 190,o190_8 p P),(nat_lit 192,o192_8 p P),(nat_lit 193,o193_8 p P),(nat_lit 195,o195_8 p P),(nat_lit 196,o196_8 p P),(nat_lit 197,o197_8 p P),(nat_lit 199,o199_8 p P),(nat_lit 200,o200_8 p P),(nat_lit 202,o202_8 p P),(nat_lit 203,o203_8 p P),(nat_lit 204,o204_8 p P),(nat_lit 205,o205_8 p P),(nat_lit 207,o207_8 p P),(nat_lit 208,o208_8 p P),(nat_lit 210,o210_8 p P),(nat_lit 211,o211_8 p P),(nat_lit 212,o212_8 p P),(nat_lit 214,o214_8 p P),(nat_lit 215,o215_8 p P),(nat_lit 217,o217_8 p P),(nat_lit 218,o218_8 p P),(nat_lit 219,o219_8 p P),(nat_lit 221,o221_8 p P),(nat_lit 222,o222_8 p P),(nat_lit 224,o224_8 p P),(nat_lit 225,o225_8 p P),(nat_lit 226,o226_8 p P),(nat_lit 227,o227_8 p P),(nat_lit 229,o229_8 p P),(nat_lit 230,o230_8 p P),(nat_lit 232,o232_8 p P),(nat_lit 233,o233_8 p P),(nat_lit 234,o234_8 p P),(nat_lit 236,o236_8 p P),(nat_lit 237,o237_8 p P),(nat_lit 239,o239_8 p P),(nat_lit 240,o240_8 p P),(nat_lit 241,o241_8 p P),(nat_lit 243,o243_8 p P),(nat_lit 244,o244_8 p P),(nat_lit 246,o246_8 p P),(nat_lit 247,o247_8 p P),(nat_lit 248,o248_8 p P),(nat_lit 250,o250_8 p P),(nat_lit 251,o251_8 p P),(nat_lit 253,o253_8 p P),(nat_lit 254,o254_8 p P),(nat_lit 255,o255_8 p P),(nat_lit 256,o256_8 p P),(nat_lit 257,o257_8 p P),(nat_lit 258,o258_8 p P),(nat_lit 259,o259_8 p P),(nat_lit 262,o262_21 p P),(nat_lit 264,o264_21 p P),(nat_lit 265,o265_21 p P),(nat_lit 267,o267_21 p P),(nat_lit 268,o268_21 p P),(nat_lit 269,o269_21 p P),(nat_lit 271,o271_21 p P),(nat_lit 272,o272_21 p P),(nat_lit 274,o274_21 p P),(nat_lit 275,o275_21 p P),(nat_lit 276,o276_21 p P),(nat_lit 278,o278_21 p P),(nat_lit 279,o279_21 p P),(nat_lit 281,o281_21 p P),(nat_lit 282,o282_21 p P),(nat_lit 283,o283_21 p P),(nat_lit 285,o285_21 p P),(nat_lit 286,o286_21 p P),(nat_lit 288,o288_21 p P),(nat_lit 289,o289_21 p P),(nat_lit 290,o290_21 p P),(nat_lit 292,o292_21 p P),(nat_lit 293,o293_21 p P),(nat_lit 295,o295_21 p P),(nat_lit 296,o296_21 p P),(nat_lit 297,o297_21 p P),(nat_lit 299,o299_21 p P),(nat_lit 300,o300_21 p P),(nat_lit 302,o302_21 p P),(nat_lit 303,o303_21 p P),(nat_lit 304,o304_21 p P),(nat_lit 306,o306_21 p P),(nat_lit 307,o307_21 p P),(nat_lit 309,o309_21 p P),(nat_lit 310,o310_21 p P),(nat_lit 311,o311_21 p P),(nat_lit 313,o313_21 p P),(nat_lit 314,o314_21 p P),(nat_lit 316,o316_21 p P),(nat_lit 317,o317_21 p P),(nat_lit 318,o318_21 p P),(nat_lit 321,o321_21 p P),(nat_lit 322,o322_21 p P),(nat_lit 323,o323_21 p P),(nat_lit 325,o325_21 p P),(nat_lit 326,o326_21 p P),(nat_lit 328,o328_21 p P),(nat_lit 329,o329_21 p P),(nat_lit 330,o330_21 p P),(nat_lit 332,o332_21 p P),(nat_lit 333,o333_21 p P),(nat_lit 335,o335_21 p P),(nat_lit 336,o336_21 p P),(nat_lit 337,o337_21 p P),(nat_lit 340,o340_21 p P),(nat_lit 341,o341_21 p P)]
noncomputable def asF:List Nat:=[nat_lit 2,nat_lit 3,nat_lit 15,nat_lit 17,nat_lit 18,nat_lit 20,nat_lit 21,nat_lit 22,nat_lit 23,nat_lit 25,nat_lit 26,nat_lit 28,nat_lit 29,nat_lit 30,nat_lit 32,nat_lit 33,nat_lit 35,nat_lit 36,nat_lit 44,nat_lit 46,nat_lit 47,nat_lit 49,nat_lit 50,nat_lit 51,nat_lit 52,nat_lit 54,nat_lit 55,nat_lit 57,nat_lit 58,nat_lit 59,nat_lit 61,nat_lit 62,nat_lit 64,nat_lit 65,nat_lit 66,nat_lit 68,nat_lit 69,nat_lit 71,nat_lit 72,nat_lit 73,nat_lit 74,nat_lit 75,nat_lit 76,nat_lit 77,nat_lit 80,nat_lit 83,nat_lit 88,nat_lit 89,nat_lit 90,nat_lit 91,nat_lit 93,nat_lit 94,nat_lit 96,nat_lit 97,nat_lit 98,nat_lit 100,nat_lit 101,nat_lit 103,nat_lit 104,nat_lit 105,nat_lit 106,nat_lit 107,nat_lit 108,nat_lit 109,nat_lit 111,nat_lit 112,nat_lit 114,nat_lit 115,nat_lit 116,nat_lit 118,nat_lit 119,nat_lit 121,nat_lit 122,nat_lit 123,nat_lit 125,nat_lit 126,nat_lit 128,nat_lit 129,nat_lit 130,nat_lit 132,nat_lit 133,nat_lit 135,nat_lit 136,nat_lit 137,nat_lit 138,nat_lit 139,nat_lit 141,nat_lit 142,nat_lit 144,nat_lit 145,nat_lit 147,nat_lit 149,nat_lit 150,nat_lit 151,nat_lit 154,nat_lit 156,nat_lit 157,nat_lit 159,nat_lit 160,nat_lit 168,nat_lit 169,nat_lit 171,nat_lit 172,nat_lit 174,nat_lit 175,nat_lit 176,nat_lit 178,nat_lit 179,nat_lit 181,nat_lit 182,nat_lit 183,nat_lit 185,nat_lit 186,nat_lit 188,nat_lit 189,nat_lit 190,nat_lit 192,nat_lit 193,nat_lit 195,nat_lit 196,nat_lit 197,nat_lit 199,nat_lit 200,nat_lit 202,nat_lit 203,nat_lit 204,nat_lit 205,nat_lit 207,nat_lit 208,nat_lit 210,nat_lit 211,nat_lit 212,nat_lit 214,nat_lit 215,nat_lit 217,nat_lit 218,nat_lit 219,nat_lit 221,nat_lit 222,nat_lit 224,nat_lit 225,nat_lit 226,nat_lit 227,nat_lit 229,nat_lit 230,nat_lit 232,nat_lit 233,nat_lit 234,nat_lit 236,nat_lit 237,nat_lit 239,nat_lit 240,nat_lit 241,nat_lit 243,nat_lit 244,nat_lit 246,nat_lit 247,nat_lit 248,nat_lit 250,nat_lit 251,nat_lit 253,nat_lit 254,nat_lit 255,nat_lit 256,nat_lit 257,nat_lit 258,nat_lit 259,nat_lit 262,nat_lit 264,nat_lit 265,nat_lit 267,nat_lit 268,nat_lit 269,nat_lit 271,nat_lit 272,nat_lit 274,nat_lit 275,nat_lit 276,nat_lit 278,nat_lit 279,nat_lit 281,nat_lit 282,nat_lit 283,nat_lit 285,nat_lit 286,nat_lit 288,nat_lit 289,nat_lit 290,nat_lit 292,nat_lit 293,nat_lit 295,nat_lit 296,nat_lit 297,nat_lit 299,nat_lit 300,nat_lit 302,nat_lit 303,nat_lit 304,nat_lit 306,nat_lit 307,nat_lit 309,nat_lit 310,nat_lit 311,nat_lit 313,nat_lit 314,nat_lit 316,nat_lit 317,nat_lit 318,nat_lit 321,nat_lit 322,nat_lit 323,nat_lit 325,nat_lit 326,nat_lit 328,nat_lit 329,nat_lit 330,nat_lit 332,nat_lit 333,nat_lit 335,nat_lit 336,nat_lit 337,nat_lit 340,nat_lit 341]
noncomputable def envE (p:Program):Env:={ scope:=p.main.scope,locals:=mainNs,globals:=mainNs,cells:=[],code:=.ref 13,frame:=some 14 }
def bE (p:Program):List Stmt:=behindTheImports p
noncomputable def cE (p:Program):Code:=.body (bE p) (envE p)
noncomputable def B0:List Frame:=[topFrame ⟨0,0,0,0⟩]
noncomputable def sts (p:Program) (a n:Nat):List Stmt:=(p.main.body.drop a).take n
noncomputable def anyL {α:Type}(as:Array α) (f:α→Bool) (start:Nat) (stop:Nat):Bool:=match Nat.beq start 0,Nat.beq stop as.size with
 |true,true=>as.toList.any f
 |_,_=>Array.any as f start stop
theorem anyL_eq:@Array.any.{0}=@anyL:=by
 funext α as f start stop
 unfold anyL;cases h1:Nat.beq start 0
 · rfl
 · cases h2:Nat.beq stop as.size
   · rfl
   · have e1:=Nat.eq_of_beq_eq_true h1;have e2:=Nat.eq_of_beq_eq_true h2;subst e1 e2;simp
noncomputable def newG:(∀ {α:Type},Array α→(α→Bool)→Nat→Nat→Bool)→Builtin:=let_mvar% ?f:=(_:(∀ {α:Type},Array α→(α→Bool)→Nat→Nat→Bool)→Builtin);let_mvar% ?g:=(show PySem.W.Fast.tw4202317264376624991=?f @Array.any by
 delta PySem.W.Fast.tw4202317264376624991
 generalize @Array.any.{0}=a
 rfl);?f
noncomputable def newF:Builtin:=newG @anyL
theorem newF_eq:PySem.W.Fast.tw4202317264376624991=newF:=(show _=newG @Array.any by k_ne).trans (congrArg newG anyL_eq)
noncomputable def tbQ (id:String):Option Builtin:=match Nat.beq (PySem.W.Fast.tw13482112738370960269 id) (PySem.W.Fast.tw13482112738370960269 "type.__new__") with
 |true=>some newF
 |false=>PySem.W.Fast.tw1115789885857029328.find (PySem.W.Fast.tw13482112738370960269 id)
theorem leaf_new:PySem.W.Fast.tw1115789885857029328.find (PySem.W.Fast.tw13482112738370960269 "type.__new__")=some PySem.W.Fast.tw4202317264376624991:=by k_ne
theorem tbQ_eq:PySem.W.Fast.tw14364793385576792824=tbQ:=by
 funext id
 show PySem.W.Fast.tw1115789885857029328.find (PySem.W.Fast.tw13482112738370960269 id)=tbQ id
 unfold tbQ;cases h:Nat.beq (PySem.W.Fast.tw13482112738370960269 id) (PySem.W.Fast.tw13482112738370960269 "type.__new__")
 · rfl
 · rw [Nat.eq_of_beq_eq_true h];exact leaf_new.trans (congrArg some newF_eq)
theorem q0 (w:zT) (os:OsState):PySem.W.Fast.tw10110043849684766642 (PySem.W.Fast.tw14364793385576792824) PQ w 11 (some (.ref 6)) 1 437 (s0 PQ w os) (piecesOf (sts PQ 0 6) (envE PQ) (cE PQ) ⟨0,0,0,0⟩ B0)=
 some (.next,s5 PQ w os,cE PQ,⟨19,0,36,54⟩):=by k_ne
theorem g0 (w:zT) (os:OsState):segRun treeTable PW w 11 (some (.ref 6)) 1 437 (s0 PW w os).abs (piecesOf (sts PW 0 6) (envE PW) (cE PW) ⟨0,0,0,0⟩ B0)=
 some (.next,(s5 PW w os).abs,cE PW,⟨19,0,36,54⟩):=by
 refine segRun_of ?_;rw [PySem.W.Fast.te10110043849684766642,PySem.W.Fast.te14364793385576792824,show PW=_ from PQ_eq];exact q0 w os
theorem q1 (w:zT) (os:OsState):PySem.W.Fast.tw10110043849684766642 (PySem.W.Fast.tw14364793385576792824) PQ w 11 (some (.ref 6)) 1 1077 (s5 PQ w os) (piecesOf (sts PQ 6 2) (envE PQ) (cE PQ) ⟨19,0,36,54⟩ B0)=
 some (.next,s7 PQ w os,cE PQ,⟨80,0,83,14⟩):=by k_ne
theorem g1 (w:zT) (os:OsState):segRun treeTable PW w 11 (some (.ref 6)) 1 1077 (s5 PW w os).abs (piecesOf (sts PW 6 2) (envE PW) (cE PW) ⟨19,0,36,54⟩ B0)=
 some (.next,(s7 PW w os).abs,cE PW,⟨80,0,83,14⟩):=by
 refine segRun_of ?_;rw [PySem.W.Fast.te10110043849684766642,PySem.W.Fast.te14364793385576792824,show PW=_ from PQ_eq];exact q1 w os
theorem q2 (w:zT) (os:OsState):PySem.W.Fast.tw10110043849684766642 (tbQ) PQ w 11 (some (.ref 6)) 1 649 (s7 PQ w os) (piecesOf (sts PQ 8 1) (envE PQ) (cE PQ) ⟨80,0,83,14⟩ B0)=
 some (.next,s8 PQ w os,cE PQ,⟨84,0,431,16⟩):=by k_ne
theorem g2 (w:zT) (os:OsState):segRun treeTable PW w 11 (some (.ref 6)) 1 649 (s7 PW w os).abs (piecesOf (sts PW 8 1) (envE PW) (cE PW) ⟨80,0,83,14⟩ B0)=
 some (.next,(s8 PW w os).abs,cE PW,⟨84,0,431,16⟩):=by
 refine segRun_of ?_;rw [PySem.W.Fast.te10110043849684766642,PySem.W.Fast.te14364793385576792824,tbQ_eq,show PW=_ from PQ_eq];exact q2 w os
theorem q3 (w:zT) (os:OsState):PySem.W.Fast.tw10110043849684766642 (PySem.W.Fast.tw14364793385576792824) PQ w 11 (some (.ref 6)) 1 386 (s8 PQ w os) (piecesOf (sts PQ 9 13) (envE PQ) (cE PQ) ⟨84,0,431,16⟩ B0)=
 some (.next,s21 PQ w os,cE PQ,⟨493,0,526,56⟩):=by k_ne
theorem g3 (w:zT) (os:OsState):segRun treeTable PW w 11 (some (.ref 6)) 1 386 (s8 PW w os).abs (piecesOf (sts PW 9 13) (envE PW) (cE PW) ⟨84,0,431,16⟩ B0)=
 some (.next,(s21 PW w os).abs,cE PW,⟨493,0,526,56⟩):=by
 refine segRun_of ?_;rw [PySem.W.Fast.te10110043849684766642,PySem.W.Fast.te14364793385576792824,show PW=_ from PQ_eq];exact q3 w os
noncomputable def sh (h:Heap) (k:Nat) (os:OsState):zX:=⟨h,zP [],{},k,os⟩
theorem qpre (w:zT) (os:OsState):PySem.W.Fast.tw15667345088766844465 PySem.W.Fast.tw14364793385576792824 PQ w 11 (some (.ref 6)) 12 ⟨boot_heap w.params,zP [],boot_drawn,boot_toks,os⟩ (topStub PQ)=
 some (sh (heap0 PQ w.params) 187 os,⟨PySem.W.Fast.tw11892475500146522536 PySem.W.Fast.tw14364793385576792824 (cE PQ),cE PQ,⟨0,0,0,0⟩,B0⟩):=by k_ne
theorem pre (w:zT) (os:OsState):topGo treeTable PW w 11 (some (.ref 6)) 12 ⟨boot_heap w.params,zP [],boot_drawn,boot_toks,os⟩ (topStub PW)=
 some (sh (heap0 PW w.params) 187 os,⟨denote treeTable (cE PW),cE PW,⟨0,0,0,0⟩,B0⟩):=by
 rw [PySem.W.Fast.te15667345088766844465,PySem.W.Fast.te11892475500146522536,PySem.W.Fast.te14364793385576792824,show PW=_ from PQ_eq];exact qpre w os
theorem qblk (w:zT) (os:OsState):PySem.W.Fast.tw14374325043358763698 PySem.W.Fast.tw14364793385576792824 PQ w 11 (some (.ref 6)) 1 1 (sh (heap0 PQ w.params) 187 os) (blockOf (bE PQ) (envE PQ) (cE PQ) ⟨0,0,0,0⟩ B0)=
 some (.next,(s0 PQ w os).abs,cE PQ,⟨0,0,0,0⟩):=by k_ne
theorem blk (w:zT) (os:OsState):segRun treeTable PW w 11 (some (.ref 6)) 1 1 (sh (heap0 PW w.params) 187 os) (blockOf (bE PW) (envE PW) (cE PW) ⟨0,0,0,0⟩ B0)=
 some (.next,(s0 PW w os).abs,cE PW,⟨0,0,0,0⟩):=by
 rw [PySem.W.Fast.te14374325043358763698,PySem.W.Fast.te14364793385576792824,show PW=_ from PQ_eq];exact qblk w os
theorem qfin (w:zT) (os:OsState):PySem.W.Fast.tw14082659384304107361 PySem.W.Fast.tw14364793385576792824 PQ w 11 (some (.ref 6)) 2 (s21 PQ w os).abs ⟨doneF .next,cE PQ,⟨493,0,526,56⟩,B0⟩=
 some (sh (heapF PQ w.params) 713 os):=by k_ne
theorem fin (w:zT) (os:OsState):topRun treeTable PW w 11 (some (.ref 6)) 2 (s21 PW w os).abs ⟨doneF .next,cE PW,⟨493,0,526,56⟩,B0⟩=
 some (sh (heapF PW w.params) 713 os):=by
 rw [PySem.W.Fast.te14082659384304107361,PySem.W.Fast.te14364793385576792824,show PW=_ from PQ_eq];exact qfin w os
theorem bE_parts:bE PW=sts PW 0 6++(sts PW 6 2++(sts PW 8 1++(sts PW 9 13++[]))):=by k_ne
theorem runN (w:zT) (os:OsState):topRun treeTable PW w 11 (some (.ref 6)) (12+(1+(437+(1077+(649+(386+2)))))) ⟨boot_heap w.params,zP [],boot_drawn,boot_toks,os⟩ (topStub PW)=
 some ⟨heapF PW w.params,zP [],{},713,os⟩:=by
 refine go_top (pre w os) ?_;refine piece_block (blk w os) ?_;rw [bE_parts];exact piece_app (g0 w os) (piece_app (g1 w os) (piece_app (g2 w os) (piece_app (g3 w os) (piece_nil (fin w os)))))
abbrev RW:OpenLaw:=PySem.Challenge.rw_ik0095_01
def vwP (p:Program):Program:={ p with main:={ p.main with body:=[st p 0,st p 3,st p 5,st p 6,st p 7,st p 8,st p 10,st p 11,st p 12,st p 13,st p 14,st p 15,st p 16,st p 17,st p 18,st p 19,st p 20,st p 21] } }
abbrev vw:Program:=vwP PW
noncomputable def lse:List Str:=[Str.mk (zP [95,100,101,100,117,112,108,105,99,97,116,101]),Str.mk (zP [95,116,117,112,108,101,103,101,116,116,101,114]),Str.mk (zP [77,97,116,99,104]),Str.mk (zP [83,101,113,117,101,110,99,101,77,97,116,99,104,101,114])]
def HK:Hook:=kmHook (KF PW) asF (fun _=>by k_ne) [338]
theorem open_:∀ w:zT,(fencedOpening treeTable PW w 5216).map (fun s=>(s.heap,s.gens,s.drawn,s.toks))=some (boot_heap w.params,zP [],boot_drawn,boot_toks):=
 boot_open (by k_ne) (by k_ne) (fun s=>by k_ne)
theorem size_:∀ w:zT,((boot_heap w.params).isNs mainGlobals&&(zP []:Array GenState).size==0,(boot_heap w.params).objs.size,(boot_heap w.params).nsMap mainGlobals "__annotations__")=(true,11,some (.ref 6)):=fun w=>by k_ne
theorem tePW:PW=PQ:=PQ_eq
theorem stat_ (w:zT):staticsOk (importedModules PW.main.body) (boot_heap w.params) (heapF PW w.params)=true:=by
 rw [PySem.W.Fast.te5923862056798008813,tePW];k_ne
theorem bound_ (w:zT):namesBound PW (heapF PW w.params)=true:=by
 rw [tePW];k_ne
theorem kept_ (w:zT):laidKept (boot_heap w.params) (heapF PW w.params)=true:=by
 rw [tePW];k_ne
def SF (p:Program) (w:zT) (os:OsState):zX:=⟨heapF p w.params,zP [],{},713,os⟩
noncomputable def Xt (q:Program) (s:zX):Bool:=xlAt q [] s&&recOk [] s
theorem pair2 {α β:Type}{a a':α}{b b':β}(x:a=a') (y:b=b'):(a,b)=(a',b'):=by rw [x,y]
theorem and2 {a b:Bool}(x:a=true) (y:b=true):(a&&b)=true:=by rw [x,y];rfl
theorem seen_ (w:zT) (os:OsState):openSeen vw lse (importedModules PW.main.body) (Xt vw) true (SF PW w os)=openGood vw lse:=by
 rw [PySem.W.Fast.te5923862056798008813,tePW]
 delta openSeen openGood
 refine pair2 ?_ (pair2 ?_ (pair2 ?_ (pair2 ?_ (pair2 ?_ (pair2 ?_ (pair2 ?_ (pair2 ?_ ?_)))))))
 · rw [PySem.W.Fast.te5160383126252970620,PySem.W.Fast.te3399658132070893891,PySem.W.Fast.te5991557255702980513];k_ne
 · k_ne
 · refine and2 (and2 (and2 (and2 (and2 (and2 ?_ ?_) ?_) ?_) ?_) ?_) ?_
   · rw [PySem.W.Fast.te10880121769531294198,PySem.W.Fast.te3399658132070893891,PySem.W.Fast.te821141287760084731,PySem.W.Fast.te7409074990110511671,PySem.W.Fast.te13664370479719496447];k_ne
   · rw [PySem.W.Fast.te14722251495701143533];k_ne
   · k_ne
   · k_ne
   · rw [PySem.W.Fast.te10994771534591457954];k_ne
   · k_ne
   · k_ne
 · rw [PySem.W.Fast.te479339242167458305];k_ne
 · rw [PySem.W.Fast.te16090120013241838585,PySem.W.Fast.te3247288618530077131];k_ne
 · rw [PySem.W.Fast.te2386780881361962483,PySem.W.Fast.te821141287760084731];k_ne
 · rw [PySem.W.Fast.te11698064438423848299];k_ne
 · rw [PySem.W.Fast.te7317090234206586261];k_ne
 · rw [PySem.W.Fast.te7369524293546568484];k_ne
theorem obs_ (w:zT) (os:OsState):HK.obs (SF PW w os)=HK.val w:=by
 show ((asF.map (heapF PW w.params).get?,[338].map (heapF PW w.params).get?):List (Option Obj)×List (Option Obj))=((KF PW w.params).map (fun p=>some p.2),[338].map fun _=>some (tabObj #[]))
 rw [tePW];k_ne
theorem left_:LeftO PW vw lse (Xt vw) HK.obs HK.val 5216:=
 LeftO.of_pieces (H₀:=boot_heap) (H₁:=heapF PW) (gs₀:=zP []) (gs₁:=zP []) (d₀:=boot_drawn) (d₁:={}) (k₀:=boot_toks) (k₁:=713) (m₀:=11) (ann:=some (.ref 6)) (M:=12+(1+(437+(1077+(649+(386+2)))))) open_ size_ runN (by k_ne)
  (fun w=>funext fun os=>pair2 (and2 (and2 (and2 (stat_ w) (bound_ w)) (by k_ne)) (kept_ w)) (pair2 (seen_ w os) (obs_ w os)))
abbrev WalkP:Prop:=WalkO vw lse (XL vw []) HK.says RW.row.toRowW ⟨zQ "law",dA (st PW 21),dB (st PW 21),dS (st PW 21),⟨493,0,526,56⟩⟩ [] fun f vs=>PySem.call f vs
theorem row_holds (walk:WalkP) (said:RW.row.wellSaid=true) (hw:RW.row.toRowW.promised):RW.row.Holds:=
 holds_open (r:=RW.row) (q:=vw) (loose:=lse) (Xt:=Xt vw) (XP:=XL vw []) (Yf:=HK.obs) (Ya:=HK.val) (YP:=HK.says) (N:=5216) left_ HK.of HK.keeps
  (fun s e=>xl_of s (Bool.and_eq_true_iff.mp e).1) XL.keeps (by k_ne) (by k_ne) (by k_ne) (fun s e=>recFacts_of (Bool.and_eq_true_iff.mp e).2) (by k_ne) said (by decide+kernel) ⟨rfl,rfl,rfl,rfl,rfl,by decide+kernel⟩ hw walk
theorem said_:PySem.Challenge.rw_ik0095_01.wellSaid=true:=by
 rw [PySem.W.Fast.te9446332074065402090]
 delta PySem.Challenge.rw_ik0095_01
 rw [show PySem.Challenge.pw_ik0095_01=_ from PQ_eq];k_ne
theorem head (walk:WalkP):PySem.Challenge.rw_ik0095_01.Holds:=
 holds_law said_ fun said=>row_holds walk said (by w_witness2)
section
inductive LT
 |v (i:Nat)|k (c:Nat)|add (a b:LT)|sub (a b:LT)|neg (a:LT)|mul (c:Nat) (a:LT)|cast (a:LT)|toN (a:LT)|mn (a b:LT)
inductive LF
 |le (a b:LT)|lt (a b:LT)|eq (a b:LT)|nle (a b:LT)|nlt (a b:LT)|neq (a b:LT)|ff|and (p q:LF)|or (p q:LF)|imp (p q:LF)
noncomputable def nth {α:Type}(d:α):List α→Nat→α
 |[],_=>d
 |a::_,0=>a
 |_::l,n+1=>nth d l n
noncomputable def LT.den (I:List Int) (N:List Nat):LT→Int×Nat
 | .v i=>(nth 0 I i,nth 0 N i)
 | .k c=>(Int.ofNat c,c)
 | .add a b=>((a.den I N).1+(b.den I N).1,(a.den I N).2+(b.den I N).2)
 | .sub a b=>((a.den I N).1 - (b.den I N).1,(a.den I N).2 - (b.den I N).2)
 | .neg a=>(-(a.den I N).1,0)
 | .mul c a=>(Int.ofNat c*(a.den I N).1,c*(a.den I N).2)
 | .cast a=>(((a.den I N).2:Int),0)
 | .toN a=>(0,(a.den I N).1.toNat)
 | .mn a b=>(min (a.den I N).1 (b.den I N).1,min (a.den I N).2 (b.den I N).2)
noncomputable def LF.den (I:List Int) (N:List Nat):LF→Prop
 | .le a b=>(a.den I N).1≤(b.den I N).1
 | .lt a b=>(a.den I N).1<(b.den I N).1
 | .eq a b=>(a.den I N).1=(b.den I N).1
 | .nle a b=>(a.den I N).2≤(b.den I N).2
 | .nlt a b=>(a.den I N).2<(b.den I N).2
 | .neq a b=>(a.den I N).2=(b.den I N).2
 | .ff=>False
 | .and p q=>p.den I N∧q.den I N
 | .or p q=>p.den I N∨q.den I N
 | .imp p q=>p.den I N→q.den I N
noncomputable def ev (ρ:Nat→Int):List Int→Nat→Int
 |[],_=>0
 |a::p,k=>a*ρ k+ev ρ p (k+1)
noncomputable def padd:List Int→List Int→List Int
 |[],q=>q
 |a::p,[]=>a::p
 |a::p,b::q=>Int.add a b::padd p q
noncomputable def psc (c:Int) (p:List Int):List Int:=p.map (Int.mul c)
theorem ev_c (ρ:Nat→Int) (a p k):ev ρ (a::p) k=a*ρ k+ev ρ p (k+1):=rfl
theorem lv_add (ρ):∀ (p q:List Int) (k:Nat),ev ρ (padd p q) k=ev ρ p k+ev ρ q k
 |[],q,k=>(Int.zero_add _).symm
 |a::p,[],k=>(Int.add_zero _).symm
 |a::p,b::q,k=>by rw [show padd (a::p) (b::q)=(a+b)::padd p q from rfl,ev_c,ev_c,ev_c,lv_add ρ p q,Int.add_mul];rw [Int.add_assoc,Int.add_assoc,Int.add_left_comm (b*_)]
theorem lv_sc (ρ) (c:Int):∀ (p:List Int) (k:Nat),ev ρ (psc c p) k=c*ev ρ p k
 |[],k=>(Int.mul_zero c).symm
 |a::p,k=>by
  have:=lv_sc ρ c p (k+1);unfold psc at*;rw [zM,ev_c,ev_c,this,Int.mul_add,show Int.mul c a=c*a from rfl,Int.mul_assoc]
noncomputable def unit:Nat→List Int
 |0=>[1]
 |n+1=>0::unit n
theorem lv_unit (ρ):∀ (n k:Nat),ev ρ (unit n) k=ρ (k+n)
 |0,k=>(Int.add_zero _).trans (Int.one_mul _)
 |n+1,k=>by rw [show unit (n+1)=0::unit n from rfl,ev_c,lv_unit ρ n,Int.zero_mul,Int.zero_add,Nat.add_assoc,Nat.add_comm 1 n]
abbrev Cn:=Bool×List Int
noncomputable def Cn.ok (ρ:Nat→Int) (c:Cn):Prop:=if c.1 then ev ρ c.2 0=0 else 0≤ev ρ c.2 0
noncomputable def oks (ρ:Nat→Int) (l:List Cn):Prop:=∀ c∈l,Cn.ok ρ c
theorem oks.nil {ρ}:oks ρ []:=fun _ h=>absurd h List.not_mem_nil
theorem oks.cons {ρ c l} (h:Cn.ok ρ c) (k:oks ρ l):oks ρ (c::l):=fun x hx=>(zL.mp hx).elim (fun e=>e ▸ h) (k x)
theorem oks.app {ρ a b} (h:oks ρ a) (k:oks ρ b):oks ρ (a++b):=fun x hx=>(zE.mp hx).elim (h x) (k x)
noncomputable def prs {α β γ:Type}(f:α→β→γ) (l:List α) (r:List β):List γ:=(l.map fun a=>r.map (f a)).flatten
theorem prs_mem {α β γ:Type}{f:α→β→γ}{l:List α}{r:List β}{a b} (ha:a∈l) (hb:b∈r):f a b∈prs f l r:=
 List.mem_flatten.mpr ⟨_,zN.mpr ⟨a,ha,rfl⟩,zN.mpr ⟨b,hb,rfl⟩⟩
abbrev Alt:=List Cn×List Int
noncomputable def psub (p q:List Int):List Int:=padd p (psc (-1) q)
theorem lv_sub (ρ) (p q:List Int) (k:Nat):ev ρ (psub p q) k=ev ρ p k - ev ρ q k:=by rw [psub,lv_add,lv_sc,Int.neg_one_mul];rfl
noncomputable def gt1 (p q:List Int):Cn:=(false,padd (psub p q) [-1])
theorem lv_m1 (ρ:Nat→Int) (h0:ρ 0=1) (c:Int):ev ρ [c] 0=c:=by rw [ev_c,h0,Int.mul_one];exact Int.add_zero _
noncomputable def pw (b:Bool):LT→List Alt
 | .v i=>if b then [([],unit (2*i+2))] else [([],unit (2*i+1))]
 | .k c=>[([],[Int.ofNat c])]
 | .add x y=>prs (fun s t=>(s.1++t.1,padd s.2 t.2)) (pw b x) (pw b y)
 | .sub x y=>if b then prs (fun s t=>((false,psub s.2 t.2)::(s.1++t.1),psub s.2 t.2)) (pw b x) (pw b y)++prs (fun s t=>(gt1 t.2 s.2::(s.1++t.1),[])) (pw b x) (pw b y)
  else prs (fun s t=>(s.1++t.1,psub s.2 t.2)) (pw b x) (pw b y)
 | .neg x=>if b then [([],[])] else (pw b x).map fun s=>(s.1,psc (-1) s.2)
 | .mul c x=>(pw b x).map fun s=>(s.1,psc (Int.ofNat c) s.2)
 | .cast x=>if b then [([],[])] else pw true x
 | .toN x=>if b then (pw false x).map (fun s=>((false,s.2)::s.1,s.2))++(pw false x).map (fun s=>(gt1 [] s.2::s.1,[])) else [([],[])]
 | .mn x y=>prs (fun s t=>((false,psub t.2 s.2)::(s.1++t.1),s.2)) (pw b x) (pw b y)++prs (fun s t=>(gt1 s.2 t.2::(s.1++t.1),t.2)) (pw b x) (pw b y)
noncomputable def vl (I:List Int) (N:List Nat) (b:Bool) (e:LT):Int:=if b then ((e.den I N).2:Int) else (e.den I N).1
noncomputable def En (I:List Int) (N:List Nat):Nat→Int
 |0=>1
 |1=>nth 0 I 0
 |2=>(nth 0 N 0:Nat)
 |n+3=>En I.tail N.tail (n+1)
theorem En_i:∀ (i:Nat) (I:List Int) (N:List Nat),En I N (2*i+1)=nth 0 I i
 |0,I,N=>rfl
 |i+1,I,N=>(En_i i I.tail N.tail).trans (by cases I <;> rfl)
theorem En_n:∀ (i:Nat) (I:List Int) (N:List Nat),En I N (2*i+2)=(nth 0 N i:Nat)
 |0,I,N=>rfl
 |i+1,I,N=>(En_n i I.tail N.tail).trans (by cases N <;> rfl)
noncomputable def HasV (ρ:Nat→Int) (l:List Alt) (z:Int):Prop:=∃ s∈l,oks ρ s.1∧ev ρ s.2 0=z
section
variable {I:List Int}{N:List Nat}{ρ:Nat→Int}
theorem HasV.prs {l r z y} {f:Alt→Alt→Alt}{u:Int}(h:HasV ρ l z) (k:HasV ρ r y) (hf:∀ s t:Alt,oks ρ s.1→oks ρ t.1→ev ρ s.2 0=z→ev ρ t.2 0=y→oks ρ (f s t).1∧ev ρ (f s t).2 0=u):HasV ρ (prs f l r) u:=by
 obtain ⟨s,hs,a,b⟩:=h;obtain ⟨t,ht,c,d⟩:=k;exact ⟨f s t,prs_mem hs ht,hf s t a c b d⟩
theorem HasV.map {l z} {f:Alt→Alt}{u:Int}(h:HasV ρ l z) (hf:∀ s:Alt,oks ρ s.1→ev ρ s.2 0=z→oks ρ (f s).1∧ev ρ (f s).2 0=u):HasV ρ (l.map f) u:=by
 obtain ⟨s,hs,a,b⟩:=h;exact ⟨f s,zN.mpr ⟨s,hs,rfl⟩,hf s a b⟩
theorem HasV.inl {l r z} (h:HasV ρ l z):HasV ρ (l++r) z:=let ⟨s,hs,a⟩:=h;⟨s,l_l _ hs,a⟩
theorem HasV.inr {l r z} (h:HasV ρ r z):HasV ρ (l++r) z:=let ⟨s,hs,a⟩:=h;⟨s,l_r _ hs,a⟩
theorem HasV.one {p:List Int}{z:Int}(h:ev ρ p 0=z):HasV ρ [([],p)] z:=⟨_,.head _,.nil,h⟩
theorem ok_ge {p q:List Int}(h:ev ρ q 0≤ev ρ p 0):Cn.ok ρ (false,psub p q):=by show 0≤ev ρ (psub p q) 0;rw [lv_sub];exact Int.sub_nonneg_of_le h
theorem ok_gt (h0:ρ 0=1) {p q:List Int}(h:ev ρ q 0<ev ρ p 0):Cn.ok ρ (gt1 p q):=by show 0≤ev ρ (padd (psub p q) [-1]) 0;rw [lv_add,lv_sub,lv_m1 ρ h0];exact Int.sub_nonneg_of_le (Int.add_one_le_of_lt (Int.sub_pos_of_lt h))
theorem pw_ok (h0:(En I N) 0=1):∀ (e:LT) (b:Bool),HasV (En I N) (pw b e) (vl I N b e)
 | .v i,true=>by
  refine .one ?_;rw [lv_unit,Nat.zero_add];exact En_n i I N
 | .v i,false=>by
  refine .one ?_;rw [lv_unit,Nat.zero_add];exact En_i i I N
 | .k c,true=>.one (lv_m1 _ h0 _)
 | .k c,false=>.one (lv_m1 _ h0 _)
 | .add x y,true=>(pw_ok h0 x true).prs (pw_ok h0 y true) fun s t a c b d=>⟨a.app c,by rw [lv_add,b,d];exact (Int.natCast_add _ _).symm⟩
 | .add x y,false=>(pw_ok h0 x false).prs (pw_ok h0 y false) fun s t a c b d=>⟨a.app c,by rw [lv_add,b,d];rfl⟩
 | .sub x y,true=>by
  have hx:=pw_ok h0 x true;have hy:=pw_ok h0 y true;show HasV _ (_++_) ((((x.den I N).2 - (y.den I N).2:Nat)):Int)
  by_cases h:(y.den I N).2≤(x.den I N).2
  · exact .inl (hx.prs hy fun s t a c b d=>⟨.cons (ok_ge (by rw [b,d];exact Int.ofNat_le.mpr h)) (a.app c),by rw [lv_sub,b,d];exact (Int.ofNat_sub h).symm⟩)
  · refine .inr (hx.prs hy fun s t a c b d=>⟨.cons (ok_gt h0 (by rw [b,d];exact Int.ofNat_lt.mpr (Nat.lt_of_not_le h))) (a.app c),?_⟩);rw [Nat.sub_eq_zero_of_le (Nat.le_of_not_le h)];rfl
 | .sub x y,false=>(pw_ok h0 x false).prs (pw_ok h0 y false) fun s t a c b d=>⟨a.app c,by rw [lv_sub,b,d];rfl⟩
 | .neg x,true=>.one rfl
 | .neg x,false=>(pw_ok h0 x false).map fun s a b=>⟨a,by rw [lv_sc,b];exact Int.neg_one_mul _⟩
 | .mul c x,true=>(pw_ok h0 x true).map fun s a b=>⟨a,by rw [lv_sc,b];exact (Int.natCast_mul _ _).symm⟩
 | .mul c x,false=>(pw_ok h0 x false).map fun s a b=>⟨a,by rw [lv_sc,b];rfl⟩
 | .cast x,true=>.one rfl
 | .cast x,false=>pw_ok h0 x true
 | .toN x,true=>by
  have hx:=pw_ok h0 x false;show HasV _ (_++_) (((x.den I N).1.toNat:Nat):Int)
  by_cases h:0≤(x.den I N).1
  · exact .inl (hx.map fun s a b=>⟨.cons (by show 0≤ev _ _ 0;rw [b];exact h) a,by rw [b];exact (Int.toNat_of_nonneg h).symm⟩)
  · refine .inr (hx.map fun s a b=>⟨.cons (ok_gt h0 (by rw [b];exact Int.lt_of_not_ge h)) a,?_⟩);rw [Int.toNat_of_nonpos (Int.le_of_lt (Int.lt_of_not_ge h))];rfl
 | .toN x,false=>.one rfl
 | .mn x y,true=>by
  have hx:=pw_ok h0 x true;have hy:=pw_ok h0 y true;show HasV _ (_++_) ((min (x.den I N).2 (y.den I N).2:Nat):Int)
  by_cases h:(x.den I N).2≤(y.den I N).2
  · exact .inl (hx.prs hy fun s t a c b d=>⟨.cons (ok_ge (by rw [b,d];exact Int.ofNat_le.mpr h)) (a.app c),by rw [b,Nat.min_eq_left h];rfl⟩)
  · exact .inr (hx.prs hy fun s t a c b d=>⟨.cons (ok_gt h0 (by rw [b,d];exact Int.ofNat_lt.mpr (Nat.lt_of_not_le h))) (a.app c),by rw [d,Nat.min_eq_right (Nat.le_of_not_le h)];rfl⟩)
 | .mn x y,false=>by
  have hx:=pw_ok h0 x false;have hy:=pw_ok h0 y false;show HasV _ (_++_) (min (x.den I N).1 (y.den I N).1)
  by_cases h:(x.den I N).1≤(y.den I N).1
  · exact .inl (hx.prs hy fun s t a c b d=>⟨.cons (ok_ge (by rw [b,d];exact h)) (a.app c),by rw [b,Int.min_eq_left h];rfl⟩)
  · exact .inr (hx.prs hy fun s t a c b d=>⟨.cons (ok_gt h0 (by rw [b,d];exact Int.lt_of_not_ge h)) (a.app c),by rw [d,Int.min_eq_right (Int.le_of_lt (Int.lt_of_not_ge h))];rfl⟩)
end
noncomputable def cmpD (c:Bool) (x y:LT) (f:List Int→List Int→List Cn):List (List Cn):=prs (fun s t=>f s.2 t.2 |>.map fun d=>d::(s.1++t.1)) (pw c x) (pw c y) |>.flatten
noncomputable def dnf (b:Bool):LF→List (List Cn)
 | .le x y=>cmpD false x y fun p q=>if b then [(false,psub q p)] else [gt1 p q]
 | .lt x y=>cmpD false x y fun p q=>if b then [gt1 q p] else [(false,psub p q)]
 | .eq x y=>cmpD false x y fun p q=>if b then [(true,psub p q)] else [gt1 p q,gt1 q p]
 | .nle x y=>cmpD true x y fun p q=>if b then [(false,psub q p)] else [gt1 p q]
 | .nlt x y=>cmpD true x y fun p q=>if b then [gt1 q p] else [(false,psub p q)]
 | .neq x y=>cmpD true x y fun p q=>if b then [(true,psub p q)] else [gt1 p q,gt1 q p]
 | .ff=>if b then [] else [[]]
 | .and p q=>if b then prs (· ++·) (dnf b p) (dnf b q) else dnf b p++dnf b q
 | .or p q=>if b then dnf b p++dnf b q else prs (· ++·) (dnf b p) (dnf b q)
 | .imp p q=>if b then dnf false p++dnf true q else prs (· ++·) (dnf true p) (dnf false q)
noncomputable def HasD (ρ:Nat→Int) (l:List (List Cn)):Prop:=∃ c∈l,oks ρ c
section
variable {I:List Int}{N:List Nat}{ρ:Nat→Int}
theorem HasD.inl {l r} (h:HasD ρ l):HasD ρ (l++r):=let ⟨s,hs,a⟩:=h;⟨s,l_l _ hs,a⟩
theorem HasD.inr {l r} (h:HasD ρ r):HasD ρ (l++r):=let ⟨s,hs,a⟩:=h;⟨s,l_r _ hs,a⟩
theorem HasD.prs {l r} (h:HasD ρ l) (k:HasD ρ r):HasD ρ (prs (· ++·) l r):=let ⟨_,hs,a⟩:=h;let ⟨_,ht,c⟩:=k;⟨_,prs_mem hs ht,a.app c⟩
theorem cmp_ok {c:Bool}{x y:LT}{f:List Int→List Int→List Cn}{z u:Int}(hx:HasV ρ (pw c x) z) (hy:HasV ρ (pw c y) u) (hf:∀ p q,ev ρ p 0=z→ev ρ q 0=u→∃ d∈f p q,Cn.ok ρ d):HasD ρ (cmpD c x y f):=by
 obtain ⟨s,hs,a1,a2⟩:=hx;obtain ⟨t,ht,c1,c2⟩:=hy;obtain ⟨d,hd,e⟩:=hf s.2 t.2 a2 c2;exact ⟨_,List.mem_flatten.mpr ⟨_,prs_mem hs ht,zN.mpr ⟨d,hd,rfl⟩⟩,.cons e (a1.app c1)⟩
theorem cn_le (h0:ρ 0=1) {b:Bool}{z u:Int}(h:if b then z≤u else ¬ z≤u) (p q) (hp:ev ρ p 0=z) (hq:ev ρ q 0=u):∃ d∈(if b then [(false,psub q p)] else [gt1 p q]:List Cn),Cn.ok ρ d:=by
 cases b
 · exact ⟨_,.head _,ok_gt h0 (by rw [hp,hq];exact Int.lt_of_not_ge h)⟩
 · exact ⟨_,.head _,ok_ge (by rw [hp,hq];exact h)⟩
theorem cn_lt (h0:ρ 0=1) {b:Bool}{z u:Int}(h:if b then z<u else ¬ z<u) (p q) (hp:ev ρ p 0=z) (hq:ev ρ q 0=u):∃ d∈(if b then [gt1 q p] else [(false,psub p q)]:List Cn),Cn.ok ρ d:=by
 cases b
 · exact ⟨_,.head _,ok_ge (by rw [hp,hq];exact Int.le_of_not_gt h)⟩
 · exact ⟨_,.head _,ok_gt h0 (by rw [hp,hq];exact h)⟩
theorem cn_eq (h0:ρ 0=1) {b:Bool}{z u:Int}(h:if b then z=u else ¬ z=u) (p q) (hp:ev ρ p 0=z) (hq:ev ρ q 0=u):∃ d∈(if b then [(true,psub p q)] else [gt1 p q,gt1 q p]:List Cn),Cn.ok ρ d:=by
 cases b
 · rcases Int.lt_or_gt_of_ne h with l|l
   · exact ⟨_,.tail _ (.head _),ok_gt h0 (by rw [hp,hq];exact l)⟩
   · exact ⟨_,.head _,ok_gt h0 (by rw [hp,hq];exact l)⟩
 · exact ⟨_,.head _,by show ev ρ (psub p q) 0=0;rw [lv_sub,hp,hq,show z=u from h];exact Int.sub_self _⟩
theorem if_m {b:Bool}{p q:Prop}(h:if b then p else ¬ p) (e:p↔q):if b then q else ¬ q:=by cases b;exact fun x=>h (e.mpr x);exact e.mp h
theorem dnf_ok (h0:(En I N) 0=1):∀ (f:LF) (b:Bool),(if b then f.den I N else ¬ f.den I N)→HasD (En I N) (dnf b f)
 | .le x y,b,h=>cmp_ok (pw_ok h0 x false) (pw_ok h0 y false) (cn_le h0 h)
 | .lt x y,b,h=>cmp_ok (pw_ok h0 x false) (pw_ok h0 y false) (cn_lt h0 h)
 | .eq x y,b,h=>cmp_ok (pw_ok h0 x false) (pw_ok h0 y false) (cn_eq h0 h)
 | .nle x y,b,h=>cmp_ok (pw_ok h0 x true) (pw_ok h0 y true) (cn_le h0 (if_m h Int.ofNat_le.symm))
 | .nlt x y,b,h=>cmp_ok (pw_ok h0 x true) (pw_ok h0 y true) (cn_lt h0 (if_m h Int.ofNat_lt.symm))
 | .neq x y,b,h=>cmp_ok (pw_ok h0 x true) (pw_ok h0 y true) (cn_eq h0 (if_m h Int.ofNat_inj.symm))
 | .ff,true,h=>h.elim
 | .ff,false,_=>⟨[],.head _,.nil⟩
 | .and p q,true,h=>(dnf_ok h0 p true h.1).prs (dnf_ok h0 q true h.2)
 | .and p q,false,h=>by
  by_cases hp:p.den I N
  · exact .inr (dnf_ok h0 q false fun hq=>h ⟨hp,hq⟩)
  · exact .inl (dnf_ok h0 p false hp)
 | .or p q,true,h=>h.elim (fun h=>.inl (dnf_ok h0 p true h)) fun h=>.inr (dnf_ok h0 q true h)
 | .or p q,false,h=>(dnf_ok h0 p false fun x=>h (.inl x)).prs (dnf_ok h0 q false fun x=>h (.inr x))
 | .imp p q,true,h=>by
  by_cases hp:p.den I N
  · exact .inr (dnf_ok h0 q true (h hp))
  · exact .inl (dnf_ok h0 p false hp)
 | .imp p q,false,h=>by
  by_cases hp:p.den I N
  · exact (dnf_ok h0 p true hp).prs (dnf_ok h0 q false fun x=>h fun _=>x)
  · exact absurd (fun x=>absurd x hp) h
end
noncomputable def isP:Int→Bool
 | .ofNat (_+1)=>true
 |_=>false
noncomputable def isN:Int→Bool
 | .negSucc _=>true
 |_=>false
noncomputable def isZ:Int→Bool
 | .ofNat 0=>true
 |_=>false
noncomputable def isU:Int→Bool
 | .ofNat 1=>true
 | .negSucc 0=>true
 |_=>false
theorem isP_ok {a:Int}(h:isP a=true):0<a:=by
 cases a with
 |ofNat n=>
  cases n with
  |zero=>exact absurd h zA
  |succ n=>exact Int.ofNat_lt.mpr (Nat.succ_pos n)
 |negSucc n=>exact absurd h zA
theorem isN_ok {a:Int}(h:isN a=true):a<0:=by
 cases a with
 |ofNat n=>exact absurd h zA
 |negSucc n=>exact Int.negSucc_lt_zero n
theorem isZ_ok {a:Int}(h:isZ a=true):a=0:=by
 cases a with
 |ofNat n=>
  cases n with
  |zero=>rfl
  |succ n=>exact absurd h zA
 |negSucc n=>exact absurd h zA
noncomputable def hd0:List Int→Int
 |[]=>0
 |a::_=>a
noncomputable def allZ:List Int→Bool
 |[]=>true
 |a::l=>isZ a&&allZ l
noncomputable def isBad (c:Cn):Bool:=allZ c.2.tail&&(if c.1 then isP (hd0 c.2)||isN (hd0 c.2) else isN (hd0 c.2))
noncomputable def triv (c:Cn):Bool:=allZ c.2.tail
noncomputable def cf (k:Nat) (c:Cn):Int:=nth 0 c.2 k
noncomputable def byEq (k:Nat) (e c:Cn):Cn:=(c.1,padd c.2 (psc (Int.neg (Int.mul (cf k c) (cf k e))) e.2))
noncomputable def spl (c:Cn):List (List Int):=if c.1 then [c.2,psc (-1) c.2] else [c.2]
noncomputable def pf (k:Nat) (p:List Int):Int:=nth 0 p k
noncomputable def elim1 (k:Nat) (l:List Cn):List Cn:=
 match l.find? fun c=>c.1&&isU (cf k c) with
 |some e=>(l.map (byEq k e)).filter fun c=>!triv c||isBad c
 |none=>
  let l':=(l.map spl).flatten
  (((l'.filter fun c=>isZ (pf k c))++prs (fun s t=>padd (psc (Int.neg (pf k t)) s) (psc (pf k s) t)) (l'.filter fun c=>isP (pf k c)) (l'.filter fun c=>isN (pf k c))).map (false,·)).filter fun c=>!triv c||isBad c
noncomputable def tal (e:Bool) (a:Int):Nat×Nat×Bool:=match a with
 | .ofNat 0=>(0,0,false)
 | .ofNat (m+1)=>(1,if e then 1 else 0,e&&Nat.beq m 0)
 | .negSucc m=>(if e then 1 else 0,1,e&&Nat.beq m 0)
noncomputable def mrg:List (Nat×Nat×Bool)→List (Nat×Nat×Bool)→List (Nat×Nat×Bool)
 |[],r=>r
 |x::l,[]=>x::l
 |(a,b,c)::l,(x,y,z)::r=>(Nat.add a x,Nat.add b y,c||z)::mrg l r
noncomputable def tall:List Cn→List (Nat×Nat×Bool)
 |[]=>[]
 |c::l=>mrg (c.2.tail.map (tal c.1)) (tall l)
noncomputable def pick:List (Nat×Nat×Bool)→Nat→Nat→Nat→Nat
 |[],_,b,_=>b
 |(p,q,u)::l,k,b,m=>if u then k else if Nat.beq (Nat.add p q) 0 then pick l k.succ b m else if Nat.ble m (Nat.mul p q) then pick l k.succ b m else pick l k.succ k (Nat.mul p q)
section
variable {ρ:Nat→Int}
theorem lv_zero:∀ (p:List Int) (k:Nat),allZ p=true→ev ρ p k=0
 |[],_,_=>rfl
 |a::p,k,h=>by
  have h:=(Bool.and_eq_true_iff (x:=isZ a)).mp (show (isZ a&&allZ p)=true from h);rw [ev_c,isZ_ok h.1,Int.zero_mul,lv_zero p _ h.2];rfl
theorem bad_no (h0:ρ 0=1) {c:Cn}(h:isBad c=true) (k:Cn.ok ρ c):False:=by
 obtain ⟨b,p⟩:=c;unfold isBad at h;rw [yT] at h;obtain ⟨h1,h2⟩:=h
 have e:ev ρ p 0=hd0 p:=by
  cases p with
  |nil=>rfl
  |cons a p=>rw [ev_c,lv_zero p _ h1,h0];exact (Int.add_zero _).trans (Int.mul_one _)
 cases b
 · have k:0≤ev ρ p 0:=k;exact absurd (e ▸ k) (Int.not_le.mpr (isN_ok h2))
 · have k:ev ρ p 0=0:=k;rw [e] at k;have h2:(isP (hd0 p)||isN (hd0 p))=true:=h2;rw [Bool.or_eq_true] at h2;rcases h2 with h2|h2
   · exact absurd (isP_ok h2) (by rw [k];exact Int.lt_irrefl 0)
   · exact absurd (isN_ok h2) (by rw [k];exact Int.lt_irrefl 0)
theorem byEq_ok {k:Nat}{e c:Cn}(he:ev ρ e.2 0=0) (hc:Cn.ok ρ c):Cn.ok ρ (byEq k e c):=by
 have h:ev ρ (padd c.2 (psc (Int.neg (Int.mul (cf k c) (cf k e))) e.2)) 0=ev ρ c.2 0:=by rw [lv_add,lv_sc,he,Int.mul_zero,Int.add_zero]
 unfold Cn.ok byEq at*;dsimp only;rw [h];exact hc
theorem oks.fil {l:List Cn}{f:Cn→Bool}(h:oks ρ l):oks ρ (l.filter f):=fun c hc=>h c (List.mem_filter.mp hc).1
theorem spl_ok {c:Cn}(h:Cn.ok ρ c):∀ p∈spl c,0≤ev ρ p 0:=by
 obtain ⟨b,q⟩:=c;intro p hp;cases b
 · rw [zH.mp hp];exact h
 · have h:ev ρ q 0=0:=h;rcases zL.mp hp with e|hp
   · rw [e];exact Int.le_of_eq h.symm
   · rw [zH.mp hp,lv_sc,h];exact yW _
theorem elim_ok (k:Nat) (l:List Cn) (h:oks ρ l):oks ρ (elim1 k l):=by
 unfold elim1;split
 · rename_i e he;have h1:=List.mem_of_find?_eq_some he;have h2:=List.find?_some he;rw [yT] at h2;have h3:=h e h1;unfold Cn.ok at h3;rw [if_pos h2.1] at h3;refine .fil fun c hc=>?_;obtain ⟨d,hd,e⟩:=zN.mp hc;rw [← e];exact byEq_ok h3 (h d hd)
 · have hl:∀ p∈(l.map spl).flatten,0≤ev ρ p 0:=by
    intro p hp;obtain ⟨_,hd,hc⟩:=List.mem_flatten.mp hp;obtain ⟨d,hd,e⟩:=zN.mp hd;rw [← e] at hc;exact spl_ok (h d hd) p hc
   refine .fil fun c hc=>?_;obtain ⟨p,hp,e⟩:=zN.mp hc;rw [← e];show 0≤ev ρ p 0
   rcases zE.mp hp with hp|hp
   · exact hl p (List.mem_filter.mp hp).1
   · obtain ⟨_,hd,hp⟩:=List.mem_flatten.mp hp;obtain ⟨s,hs,e⟩:=zN.mp hd;rw [← e] at hp;obtain ⟨t,ht,e⟩:=zN.mp hp;obtain ⟨s1,s2⟩:=List.mem_filter.mp hs;obtain ⟨t1,t2⟩:=List.mem_filter.mp ht;rw [← e,lv_add,lv_sc,lv_sc];exact Int.add_nonneg (Int.mul_nonneg (Int.le_of_lt (Int.neg_pos_of_neg (isN_ok t2))) (hl s s1)) (Int.mul_nonneg (Int.le_of_lt (isP_ok s2)) (hl t t1))
theorem any_no (h0:ρ 0=1) {l:List Cn}(h:l.any isBad=true) (k:oks ρ l):False:=by
 obtain ⟨c,hc,e⟩:=List.any_eq_true.mp h;exact bad_no h0 e (k c hc)
end
noncomputable def frI (a:Int) (k:Int→Bool):Bool:=match a with
 | .ofNat 0=>k (.ofNat 0)
 | .ofNat (m+1)=>k (.ofNat m.succ)
 | .negSucc 0=>k (.negSucc 0)
 | .negSucc (m+1)=>k (.negSucc m.succ)
theorem frI_eq (a:Int) (k:Int→Bool):frI a k=k a:=by
 cases a with
 |ofNat n=>cases n <;> rfl
 |negSucc n=>cases n <;> rfl
noncomputable def frL:List Int→(List Int→Bool)→Bool
 |[],k=>k []
 |a::l,k=>frI a fun a=>frL l fun l=>k (a::l)
theorem frL_eq:∀ (l:List Int) (k:List Int→Bool),frL l k=k l
 |[],_=>rfl
 |a::l,k=>by dsimp only [frL];rw [frI_eq,frL_eq l]
noncomputable def frC:List Cn→(List Cn→Bool)→Bool
 |[],k=>k []
 |(b,p)::l,k=>frL p fun p=>frC l fun l=>if b then k ((true,p)::l) else k ((false,p)::l)
theorem frC_eq:∀ (l:List Cn) (k:List Cn→Bool),frC l k=k l
 |[],_=>rfl
 |(b,p)::l,k=>by dsimp only [frC];rw [frL_eq,frC_eq l];cases b <;> rfl
noncomputable def refu:Nat→List Cn→Bool
 |0,l=>l.any isBad
 |n+1,l=>frC l fun l=>l.any isBad||(match pick (tall l) 1 0 1000000 with
  |0=>false
  |k+1=>refu n (elim1 (k+1) l))
theorem refu_no {ρ:Nat→Int}(h0:ρ 0=1):∀ (n:Nat) (l:List Cn),refu n l=true→oks ρ l→False
 |0,l,h,k=>any_no h0 h k
 |n+1,l,h,k=>by
  dsimp only [refu] at h;rw [frC_eq,Bool.or_eq_true] at h;rcases h with h|h
  · exact any_no h0 h k
  · split at h
    · exact absurd h zA
    · exact refu_no h0 n _ h (elim_ok _ _ k)
noncomputable def cnj (b:Bool):LF→List (List (List Cn))
 | .and p q=>if b then cnj b p++cnj b q else [dnf b (.and p q)]
 | .or p q=>if b then [dnf b (.or p q)] else cnj b p++cnj b q
 | .imp p q=>if b then [dnf b (.imp p q)] else cnj true p++cnj false q
 |f=>[dnf b f]
theorem cnj_ok {I:List Int}{N:List Nat}(h0:(En I N) 0=1):∀ (f:LF) (b:Bool),(if b then f.den I N else ¬ f.den I N)→∀ d∈cnj b f,HasD (En I N) d
 | .and p q,true,h=>fun d hd=>(zE.mp hd).elim (cnj_ok h0 p true h.1 d) (cnj_ok h0 q true h.2 d)
 | .and p q,false,h=>fun d hd=>by rw [zH.mp hd];exact dnf_ok h0 (.and p q) false h
 | .or p q,true,h=>fun d hd=>by rw [zH.mp hd];exact dnf_ok h0 (.or p q) true h
 | .or p q,false,h=>fun d hd=>(zE.mp hd).elim (cnj_ok h0 p false (fun x=>h (.inl x)) d) (cnj_ok h0 q false (fun x=>h (.inr x)) d)
 | .imp p q,true,h=>fun d hd=>by rw [zH.mp hd];exact dnf_ok h0 (.imp p q) true h
 | .imp p q,false,h=>fun d hd=>by
  have hp:p.den I N:=Classical.byContradiction fun x=>h fun y=>absurd y x
  exact (zE.mp hd).elim (cnj_ok h0 p true hp d) (cnj_ok h0 q false (fun x=>h fun _=>x) d)
 | .le x y,b,h=>fun d hd=>by rw [zH.mp hd];exact dnf_ok h0 (.le x y) b h
 | .lt x y,b,h=>fun d hd=>by rw [zH.mp hd];exact dnf_ok h0 (.lt x y) b h
 | .eq x y,b,h=>fun d hd=>by rw [zH.mp hd];exact dnf_ok h0 (.eq x y) b h
 | .nle x y,b,h=>fun d hd=>by rw [zH.mp hd];exact dnf_ok h0 (.nle x y) b h
 | .nlt x y,b,h=>fun d hd=>by rw [zH.mp hd];exact dnf_ok h0 (.nlt x y) b h
 | .neq x y,b,h=>fun d hd=>by rw [zH.mp hd];exact dnf_ok h0 (.neq x y) b h
 | .ff,b,h=>fun d hd=>by rw [zH.mp hd];exact dnf_ok h0 .ff b h
noncomputable def one1:List (List Cn)→Bool
 |[_]=>true
 |_=>false
noncomputable def dfs:List (List (List Cn))→List Cn→Bool
 |[],l=>refu 20 l
 |d::ds,l=>if one1 d then d.all fun c=>frC c fun c=>dfs ds (c++l) else refu 20 l||d.all fun c=>frC c fun c=>dfs ds (c++l)
theorem dfs_no {ρ:Nat→Int}(h0:ρ 0=1):∀ (ds:List (List (List Cn))) (l:List Cn),(∀ d∈ds,HasD ρ d)→oks ρ l→dfs ds l=true→False
 |[],l,_,k,h=>refu_no h0 20 l h k
 |d::ds,l,hd,k,h=>by
  have go:(d.all fun c=>frC c fun c=>dfs ds (c++l))=true→False:=fun h=>by
   obtain ⟨c,hc,e⟩:=hd d (.head _);have e2:=List.all_eq_true.mp h c hc;rw [frC_eq] at e2;exact dfs_no h0 ds _ (fun x hx=>hd x (.tail _ hx)) (e.app k) e2
  dsimp only [dfs] at h;split at h
  · exact go h
  · rw [Bool.or_eq_true] at h;exact h.elim (fun h=>refu_no h0 20 l h k) go
noncomputable def mxv (b:Bool):LT→Nat
 | .v i=>if b then i+1 else 0
 | .k _=>0
 | .add x y=>max (mxv b x) (mxv b y)
 | .sub x y=>max (mxv b x) (mxv b y)
 | .mn x y=>max (mxv b x) (mxv b y)
 | .neg x=>mxv b x
 | .mul _ x=>mxv b x
 | .cast x=>mxv true x
 | .toN x=>mxv false x
noncomputable def mxf:LF→Nat
 | .le x y=>max (mxv false x) (mxv false y)
 | .lt x y=>max (mxv false x) (mxv false y)
 | .eq x y=>max (mxv false x) (mxv false y)
 | .nle x y=>max (mxv true x) (mxv true y)
 | .nlt x y=>max (mxv true x) (mxv true y)
 | .neq x y=>max (mxv true x) (mxv true y)
 | .ff=>0
 | .and p q=>max (mxf p) (mxf q)
 | .or p q=>max (mxf p) (mxf q)
 | .imp p q=>max (mxf p) (mxf q)
noncomputable def nn:Nat→List Cn
 |0=>[]
 |n+1=>(false,unit (2*n+2))::nn n
theorem nn_ok {I:List Int}{N:List Nat}:∀ n:Nat,oks (En I N) (nn n)
 |0=>.nil
 |n+1=>.cons (by show 0≤ev _ _ 0;rw [lv_unit,Nat.zero_add,En_n];exact Int.natCast_nonneg _) (nn_ok n)
noncomputable def lprove (f:LF):Bool:=dfs ((cnj false f).filter one1++(cnj false f).filter (!one1 ·)) (nn (mxf f))
theorem lin (I:List Int) (N:List Nat) (f:LF) (h:lprove f=true):f.den I N:=by
 by_cases q:f.den I N
 · exact q
 · exact (dfs_no rfl _ _ (fun d hd=>cnj_ok (I:=I) (N:=N) rfl f false q d ((zE.mp hd).elim (fun h=>(List.mem_filter.mp h).1) fun h=>(List.mem_filter.mp h).1)) (nn_ok _) h).elim
noncomputable def Lk {α:Type}(_:α) (_ _:List α) (_:Nat):Prop:=True
noncomputable def Rz (_:Int) (_ _:List Int) (_ _:List Nat) (_:LT):Prop:=True
noncomputable def Rn (_:Nat) (_ _:List Int) (_ _:List Nat) (_:LT):Prop:=True
noncomputable def Rf (_:Prop) (_ _:List Int) (_ _:List Nat) (_:LF):Prop:=True
section
variable {α:Type}{a b:α}{c c':List α}{i:Nat}{x y:Int}{m n:Nat}{p q:Prop}{I J K:List Int}{N O P:List Nat}{e f:LT}{u v:LF}
theorem lk0:Lk a (a::c) (a::c) 0:=trivial
theorem lkn:Lk a [] [a] 0:=trivial
theorem lks (_:Lk a c c' i):Lk a (b::c) (b::c') i.succ:=trivial
theorem rz_add (_:Rz x I J N O e) (_:Rz y J K O P f):Rz (x+y) I K N P (.add e f):=trivial
theorem rz_sub (_:Rz x I J N O e) (_:Rz y J K O P f):Rz (x - y) I K N P (.sub e f):=trivial
theorem rz_min (_:Rz x I J N O e) (_:Rz y J K O P f):Rz (min x y) I K N P (.mn e f):=trivial
theorem rz_neg (_:Rz x I J N O e):Rz (-x) I J N O (.neg e):=trivial
theorem rz_num {n:Nat}:Rz (OfNat.ofNat n) I I N N (.k n):=trivial
theorem rz_mul {n:Nat}(_:Rz x I J N O e):Rz (OfNat.ofNat n*x) I J N O (.mul n e):=trivial
theorem rz_cast (_:Rn n I J N O e):Rz (Nat.cast n) I J N O (.cast e):=trivial
theorem rz_var (_:Lk x I J i):Rz x I J N N (.v i):=trivial
theorem rn_add (_:Rn m I J N O e) (_:Rn n J K O P f):Rn (m+n) I K N P (.add e f):=trivial
theorem rn_suc (_:Rn m I J N O e):Rn (Nat.succ m) I J N O (.add e (.k 1)):=trivial
theorem rn_sub (_:Rn m I J N O e) (_:Rn n J K O P f):Rn (m - n) I K N P (.sub e f):=trivial
theorem rn_min (_:Rn m I J N O e) (_:Rn n J K O P f):Rn (min m n) I K N P (.mn e f):=trivial
theorem rn_num {n:Nat}:Rn (OfNat.ofNat n) I I N N (.k n):=trivial
theorem rn_mul {k:Nat}(_:Rn m I J N O e):Rn (OfNat.ofNat k*m) I J N O (.mul k e):=trivial
theorem rn_toN (_:Rz x I J N O e):Rn (Int.toNat x) I J N O (.toN e):=trivial
theorem rn_var (_:Lk m N O i):Rn m I I N O (.v i):=trivial
theorem rf_le (_:Rz x I J N O e) (_:Rz y J K O P f):Rf (x≤y) I K N P (.le e f):=trivial
theorem rf_lt (_:Rz x I J N O e) (_:Rz y J K O P f):Rf (x<y) I K N P (.lt e f):=trivial
theorem rf_ge (_:Rz x I J N O e) (_:Rz y J K O P f):Rf (x≥y) I K N P (.le f e):=trivial
theorem rf_gt (_:Rz x I J N O e) (_:Rz y J K O P f):Rf (x > y) I K N P (.lt f e):=trivial
theorem rf_eq (_:Rz x I J N O e) (_:Rz y J K O P f):Rf (x=y) I K N P (.eq e f):=trivial
theorem rf_nle (_:Rn m I J N O e) (_:Rn n J K O P f):Rf (m≤n) I K N P (.nle e f):=trivial
theorem rf_nlt (_:Rn m I J N O e) (_:Rn n J K O P f):Rf (m<n) I K N P (.nlt e f):=trivial
theorem rf_nge (_:Rn m I J N O e) (_:Rn n J K O P f):Rf (m≥n) I K N P (.nle f e):=trivial
theorem rf_ngt (_:Rn m I J N O e) (_:Rn n J K O P f):Rf (m > n) I K N P (.nlt f e):=trivial
theorem rf_neq (_:Rn m I J N O e) (_:Rn n J K O P f):Rf (m=n) I K N P (.neq e f):=trivial
theorem rf_ff:Rf False I I N N .ff:=trivial
theorem rf_and (_:Rf p I J N O u) (_:Rf q J K O P v):Rf (p∧q) I K N P (.and u v):=trivial
theorem rf_or (_:Rf p I J N O u) (_:Rf q J K O P v):Rf (p∨q) I K N P (.or u v):=trivial
theorem rf_imp (_:Rf p I J N O u) (_:Rf q J K O P v):Rf (p→q) I K N P (.imp u v):=trivial
theorem rf_not (_:Rf p I J N O u):Rf (¬ p) I J N O (.imp u .ff):=trivial
theorem rf_ne (_:Rz x I J N O e) (_:Rz y J K O P f):Rf (x≠y) I K N P (.imp (.eq e f) .ff):=trivial
theorem rf_nne (_:Rn m I J N O e) (_:Rn n J K O P f):Rf (m≠n) I K N P (.imp (.neq e f) .ff):=trivial
end
end
noncomputable def runL (odd:Int):List Int→List Int→Nat
 |a::as,b::bs=>if a=b∧a≠odd then runL odd as bs+1 else 0
 |_,_=>0
noncomputable def runAt (odd:Int) (ns ks:List Int) (i j:Nat):Nat:=runL odd (ns.drop i) (ks.drop j)
theorem runL_cons (odd:Int) (a b:Int) (as bs:List Int):runL odd (a::as) (b::bs)=if a=b∧a≠odd then runL odd as bs+1 else 0:=by dsimp only [runL]
theorem runL_step (odd:Int):∀ (k:Nat) (as bs:List Int),k≤runL odd as bs→runL odd (as.drop k) (bs.drop k)+k=runL odd as bs
 |0,_,_,_=>by simp
 |k+1,as,bs,h=>by
  cases as with
  |nil=>(dsimp only [runL] at h;try simp at h)
  |cons a as=>
   cases bs with
   |nil=>(dsimp only [runL] at h;try simp at h)
   |cons b bs=>
    simp only [List.drop_succ_cons];rw [runL_cons] at h ⊢;split at h
    · rename_i c;rw [if_pos c];have:=runL_step odd k as bs (by revert h;k_in)
      (revert this;k_in)
    · (revert h;k_in)
theorem runL_pos (odd:Int) (as bs:List Int):0<runL odd as bs↔∃ a,as[0]? =some a∧bs[0]? =some a∧a≠odd:=by
 cases as with
 |nil=>(dsimp only [runL];try simp)
 |cons a as=>
  cases bs with
  |nil=>(dsimp only [runL];try simp)
  |cons b bs=>
   dsimp only [runL];split
   · rename_i c;simp only [Nat.succ_pos,true_iff];exact ⟨a,rfl,by simp [c.1],c.2⟩
   · rename_i c;simp only [yY,false_iff];rintro ⟨x,h1,h2,h3⟩;simp only [List.getElem?_cons_zero,Option.some.injEq] at h1 h2;exact c ⟨by rw [h1,h2],by rw [h1];exact h3⟩
theorem runAt_next {odd:Int}{ns ks:List Int}{i j k:Nat}(h:k≤runAt odd ns ks i j):
 k<runAt odd ns ks i j↔∃ a,ns[i+k]? =some a∧ks[j+k]? =some a∧a≠odd:=by
 have:=runL_step odd k (ns.drop i) (ks.drop j) h;have p:=runL_pos odd ((ns.drop i).drop k) ((ks.drop j).drop k);simp only [List.drop_drop,List.getElem?_drop,Nat.add_zero] at p this;rw [← p];unfold runAt;exact ⟨fun h=>by revert h this;k_in,fun h=>by revert h this;k_in⟩
noncomputable def better (odd:Int) (ns ks:List Int) (i:Nat) (b:Nat×Nat×Nat) (j:Nat):Nat×Nat×Nat:=if runAt odd ns ks i j > b.2.2 then (i,j,runAt odd ns ks i j) else b
noncomputable def bestIn (odd:Int) (ns ks:List Int) (b:Nat×Nat×Nat) (i:Nat):Nat×Nat×Nat:=(xY ks.length).foldl (better odd ns ks i) b
noncomputable def best (odd:Int) (ns ks:List Int):Nat×Nat×Nat:=(xY ns.length).foldl (bestIn odd ns ks) (0,0,0)
noncomputable def backN (odd:Int) (ns ks:List Int):Nat→Nat→Nat
 |p+1,q+1=>if ns[p]? =ks[q]? ∧ns[p]? =some odd then backN odd ns ks p q+1 else 0
 |_,_=>0
noncomputable def frontN (odd:Int):List Int→List Int→Nat
 |a::as,b::bs=>if a=b∧a=odd then frontN odd as bs+1 else 0
 |_,_=>0
noncomputable def matchP (odd:Int) (ns ks:List Int):Nat×Nat×Nat:=
 let (p,q,z):=best odd ns ks
 let b:=backN odd ns ks p q
 (p - b,q - b,z+b+frontN odd (ns.drop (p+z)) (ks.drop (q+z)))
theorem backN_le (odd:Int) (ns ks:List Int):∀ p q,backN odd ns ks p q≤p∧backN odd ns ks p q≤q
 |0,_=>by (dsimp only [backN];try simp)
 |_+1,0=>by (dsimp only [backN];try simp)
 |p+1,q+1=>by
  dsimp only [backN];split
  · have:=backN_le odd ns ks p q;(revert this;k_in)
  · k_in
theorem backN_step (odd:Int) (ns ks:List Int):∀ (k p q:Nat),k≤backN odd ns ks p q→backN odd ns ks (p - k) (q - k)+k=backN odd ns ks p q
 |0,_,_,_=>by simp
 |k+1,0,_,h=>by (dsimp only [backN] at h;try simp at h)
 |k+1,_+1,0,h=>by (dsimp only [backN] at h;try simp at h)
 |k+1,p+1,q+1,h=>by
  dsimp only [backN] at h;split at h
  · rename_i c;have:=backN_step odd ns ks k p q (by revert h;k_in);rw [show backN odd ns ks (p+1) (q+1)=backN odd ns ks p q+1 by conv=>lhs;dsimp only [backN];rw [if_pos c]];rw [show p+1 - (k+1)=p - k by k_in,show q+1 - (k+1)=q - k by k_in]
    (revert this;k_in)
  · (revert h;k_in)
theorem backN_pos (odd:Int) (ns ks:List Int) (p q:Nat):0<backN odd ns ks p q↔0<p∧0<q∧ns[p - 1]? =ks[q - 1]? ∧ns[p - 1]? =some odd:=by
 cases p with
 |zero=>(dsimp only [backN];try simp)
 |succ p=>
  cases q with
  |zero=>(dsimp only [backN];try simp)
  |succ q=>
   dsimp only [backN];split
   · rename_i c;exact ⟨fun _=>⟨Nat.succ_pos _,Nat.succ_pos _,by simpa using c.1,by simpa using c.2⟩,fun _=>Nat.succ_pos _⟩
   · rename_i c;simp only [yY,false_iff];rintro ⟨_,_,h1,h2⟩;exact c ⟨by simpa using h1,by simpa using h2⟩
theorem frontN_cons (odd:Int) (a b:Int) (as bs:List Int):frontN odd (a::as) (b::bs)=if a=b∧a=odd then frontN odd as bs+1 else 0:=by dsimp only [frontN]
theorem frontN_step (odd:Int):∀ (k:Nat) (as bs:List Int),k≤frontN odd as bs→frontN odd (as.drop k) (bs.drop k)+k=frontN odd as bs
 |0,_,_,_=>by simp
 |k+1,as,bs,h=>by
  cases as with
  |nil=>(dsimp only [frontN] at h;try simp at h)
  |cons a as=>
   cases bs with
   |nil=>(dsimp only [frontN] at h;try simp at h)
   |cons b bs=>
    simp only [List.drop_succ_cons];rw [frontN_cons] at h ⊢;split at h
    · rename_i c;rw [if_pos c];have:=frontN_step odd k as bs (by revert h;k_in)
      (revert this;k_in)
    · (revert h;k_in)
theorem frontN_pos (odd:Int) (as bs:List Int):0<frontN odd as bs↔as[0]? =some odd∧bs[0]? =some odd:=by
 cases as with
 |nil=>(dsimp only [frontN];try simp)
 |cons a as=>
  cases bs with
  |nil=>(dsimp only [frontN];try simp)
  |cons b bs=>
   dsimp only [frontN];split
   · rename_i c;simp only [Nat.succ_pos,true_iff];exact ⟨by simp [c.2],by simp [← c.1,c.2]⟩
   · rename_i c;simp only [yY,false_iff];rintro ⟨h1,h2⟩;simp only [List.getElem?_cons_zero,Option.some.injEq] at h1 h2;exact c ⟨by rw [h1,h2],h1⟩
theorem runL_le (odd:Int):∀ as bs,runL odd as bs≤as.length∧runL odd as bs≤bs.length
 |[],_=>by (dsimp only [runL];try simp)
 |_::_,[]=>by (dsimp only [runL];try simp)
 |a::as,b::bs=>by
  dsimp only [runL];split
  · have:=runL_le odd as bs;simp only [yU];(revert this;k_in)
  · k_in
theorem frontN_le (odd:Int):∀ as bs,frontN odd as bs≤as.length∧frontN odd as bs≤bs.length
 |[],_=>by (dsimp only [frontN];try simp)
 |_::_,[]=>by (dsimp only [frontN];try simp)
 |a::as,b::bs=>by
  dsimp only [frontN];split
  · have:=frontN_le odd as bs;simp only [yU];(revert this;k_in)
  · k_in
def Lies (ns ks:List Int) (b:Nat×Nat×Nat):Prop:=b.1+b.2.2≤ns.length∧b.2.1+b.2.2≤ks.length
theorem better_lies {odd ns ks i b j} (h:Lies ns ks b) (hi:i≤ns.length) (hj:j≤ks.length):Lies ns ks (better odd ns ks i b j):=by
 unfold better;split
 · have:=runL_le odd (ns.drop i) (ks.drop j);simp only [xW] at this;unfold Lies runAt;dsimp only
   (revert hi hj this;k_in)
 · exact h
theorem bestIn_lies {odd ns ks b i} (h:Lies ns ks b) (hi:i≤ns.length):∀ n,n≤ks.length→Lies ns ks ((xY n).foldl (better odd ns ks i) b)
 |0,_=>h
 |n+1,hn=>by
  rw [List.range_succ,List.foldl_append];exact better_lies (bestIn_lies h hi n (by lia)) hi (by lia)
theorem best_lies {odd ns ks}:∀ n,n≤ns.length→Lies ns ks ((xY n).foldl (bestIn odd ns ks) (0,0,0))
 |0,_=>by simp [Lies]
 |n+1,hn=>by
  rw [List.range_succ,List.foldl_append];exact bestIn_lies (best_lies n (by lia)) (by lia) _ (yX _)
def Like (ns ks:List Int) (p q:Int):Prop:=0≤p∧p<ns.length∧0≤q∧q<ks.length∧ns[p.toNat]? =ks[q.toNat]?
theorem like_nat {ns ks:List Int}{p q:Nat}:Like ns ks p q↔∃ a,ns[p]? =some a∧ks[q]? =some a:=by
 unfold Like;simp only [yV];constructor
 · rintro ⟨_,h,_,_,e⟩;have:p<ns.length:=by (revert h;k_in)
   exact ⟨ns[p],by simp [this],by rw [← e];simp [this]⟩
 · rintro ⟨a,h1,h2⟩;have:=(l_i.mp h1).1;have:=(l_i.mp h2).1;exact ⟨by k_in,by lia,by k_in,by revert this;k_in,by rw [h1,h2]⟩
theorem run_like {odd:Int}{ns ks:List Int}{i j k:Nat}(h:k≤runAt odd ns ks i j):
 k<runAt odd ns ks i j↔Like ns ks (i+k:Int) (j+k:Int)∧ns[((i:Int)+k).toNat]? ≠some odd:=by
 rw [runAt_next h,show ((i:Int)+k)=((i+k:Nat):Int) by k_in,show ((j:Int)+k)=((j+k:Nat):Int) by k_in,like_nat,yV];constructor
 · rintro ⟨a,h1,h2,h3⟩;exact ⟨⟨a,h1,h2⟩,by rw [h1];simpa using h3⟩
 · rintro ⟨⟨a,h1,h2⟩,h3⟩;exact ⟨a,h1,h2,by rw [h1] at h3;simpa using h3⟩
theorem back_like {odd:Int}{ns ks:List Int}{p q:Nat}:0<backN odd ns ks p q↔Like ns ks ((p:Int) - 1) ((q:Int) - 1)∧ns[((p:Int) - 1).toNat]? =some odd:=by
 rw [backN_pos];constructor
 · rintro ⟨h1,h2,h3,h4⟩;rw [show ((p:Int) - 1)=((p - 1:Nat):Int) by revert h1;k_in,show ((q:Int) - 1)=((q - 1:Nat):Int) by revert h2;k_in,like_nat,yV];exact ⟨⟨odd,h4,by rw [← h3,h4]⟩,h4⟩
 · rintro ⟨h,h4⟩;have a1:=h.1;have a2:=h.2.2.1;rw [show ((p:Int) - 1)=((p - 1:Nat):Int) by revert a1;k_in,show ((q:Int) - 1)=((q - 1:Nat):Int) by revert a2;k_in,like_nat] at h;rw [show ((p:Int) - 1)=((p - 1:Nat):Int) by revert a1;k_in,yV] at h4;obtain ⟨a,h1,h2⟩:=h;exact ⟨by revert a1;k_in,by revert a2;k_in,by rw [h1,h2],h4⟩
theorem front_like {odd:Int}{ns ks:List Int}{p q:Nat}:0<frontN odd (ns.drop p) (ks.drop q)↔Like ns ks (p:Int) (q:Int)∧ns[(p:Int).toNat]? =some odd:=by
 rw [frontN_pos,like_nat,yV,List.getElem?_drop,List.getElem?_drop,Nat.add_zero,Nat.add_zero];constructor
 · rintro ⟨h1,h2⟩;exact ⟨⟨odd,h1,h2⟩,h1⟩
 · rintro ⟨⟨a,h1,h2⟩,h3⟩;rw [h1] at h3;cases h3;exact ⟨h1,h2⟩
def IsBest (odd:Int) (ns ks:List Int) (b:Nat×Nat×Nat):Prop:=
 (∀ i j,runAt odd ns ks i j≤b.2.2)∧(b.2.2=0→b.1=0∧b.2.1=0)∧(0<b.2.2→runAt odd ns ks b.1 b.2.1=b.2.2∧∀ i j,runAt odd ns ks i j=b.2.2→b.1<i∨(b.1=i∧b.2.1≤j))
theorem IsBest.uniq {odd ns ks b c} (x:IsBest odd ns ks b) (y:IsBest odd ns ks c):b=c:=by
 obtain ⟨b1,b2,b3⟩:=b;obtain ⟨c1,c2,c3⟩:=c;obtain ⟨x1,x2,x3⟩:=x;obtain ⟨y1,y2,y3⟩:=y;dsimp only at*
 have e:b3=c3:=by
  rcases Nat.lt_trichotomy b3 c3 with h|h|h
  · have:=(y3 (by revert h;k_in)).1;have:=x1 c1 c2
    (rename_i z0;revert h z0 this;k_in)
  · exact h
  · have:=(x3 (by revert h;k_in)).1;have:=y1 b1 b2
    (rename_i z0;revert h z0 this;k_in)
 subst e;by_cases h0:b3=0
 · obtain ⟨e1,e2⟩:=x2 h0;obtain ⟨e3,e4⟩:=y2 h0;rw [e1,e2,e3,e4]
 · obtain ⟨r1,l1⟩:=x3 (by revert h0;k_in);obtain ⟨r2,l2⟩:=y3 (by revert h0;k_in);have a:=l1 _ _ r2;have b:=l2 _ _ r1;have:b1=c1∧b2=c2:=by (revert a b;k_in)
   rw [this.1,this.2]
theorem runAt_out {odd ns ks i j} (h:ns.length≤i∨ks.length≤j):runAt odd ns ks i j=0:=by
 have:=runL_le odd (ns.drop i) (ks.drop j);simp only [xW] at this;unfold runAt
 (revert h this;k_in)
def BestTo (odd:Int) (ns ks:List Int) (i j:Nat) (b:Nat×Nat×Nat):Prop:=
 (∀ i' j',i'<i∨(i'=i∧j'<j)→runAt odd ns ks i' j'≤b.2.2)∧(b.2.2=0→b.1=0∧b.2.1=0)∧
 (0<b.2.2→(b.1<i∨(b.1=i∧b.2.1<j))∧runAt odd ns ks b.1 b.2.1=b.2.2∧∀ i' j',(i'<i∨(i'=i∧j'<j))→runAt odd ns ks i' j'=b.2.2→b.1<i'∨(b.1=i'∧b.2.1≤j'))
theorem bestTo_step {odd ns ks i j b} (h:BestTo odd ns ks i j b):BestTo odd ns ks i (j+1) (better odd ns ks i b j):=by
 obtain ⟨h1,h2,h3⟩:=h;unfold better;split
 · rename_i hg;refine ⟨fun i' j' hl=>?_,fun h0=>?_,fun _=>⟨.inr ⟨rfl,Nat.lt_succ_self _⟩,rfl,fun i' j' hl he=>?_⟩⟩
   · by_cases e:i'=i∧j'=j
     · rw [e.1,e.2];exact yX _
     · have:=h1 i' j' (by revert hl e;k_in);dsimp only
       (revert hg this;k_in)
   · dsimp only at h0;(revert hg h0;k_in)
   · by_cases e:i'=i∧j'=j
     · exact .inr ⟨e.1.symm,by dsimp only;(revert e;k_in)⟩
     · have:=h1 i' j' (by revert hl e;k_in);dsimp only at he
       (revert hg he this;k_in)
 · rename_i hg;refine ⟨fun i' j' hl=>?_,h2,fun hp=>?_⟩
   · by_cases e:i'=i∧j'=j
     · rw [e.1,e.2];(revert hg;k_in)
     · exact h1 i' j' (by revert hl e;k_in)
   · obtain ⟨a1,a2,a3⟩:=h3 hp;refine ⟨by revert a1;k_in,a2,fun i' j' hl he=>?_⟩;by_cases e:i'=i∧j'=j
     · rw [e.1,e.2];(revert a1;k_in)
     · exact a3 i' j' (by revert hl e;k_in) he
theorem bestTo_row {odd ns ks i b} (h:BestTo odd ns ks i 0 b):∀ n,BestTo odd ns ks i n ((xY n).foldl (better odd ns ks i) b)
 |0=>h
 |n+1=>by
  rw [List.range_succ,List.foldl_append];exact bestTo_step (bestTo_row h n)
theorem bestTo_next {odd ns ks i b} (h:BestTo odd ns ks i ks.length b):BestTo odd ns ks (i+1) 0 b:=by
 obtain ⟨h1,h2,h3⟩:=h;refine ⟨fun i' j' hl=>?_,h2,fun hp=>?_⟩
 · by_cases hj:j'<ks.length
   · exact h1 i' j' (by revert hl hj;k_in)
   · rw [runAt_out (.inr (by revert hj;k_in))];exact Nat.zero_le _
 · obtain ⟨a1,a2,a3⟩:=h3 hp;refine ⟨by revert a1;k_in,a2,fun i' j' hl he=>?_⟩;by_cases hj:j'<ks.length
   · exact a3 i' j' (by revert hl hj;k_in) he
   · rw [runAt_out (.inr (by revert hj;k_in))] at he;(revert hp he;k_in)
theorem bestTo_all {odd ns ks}:∀ n,BestTo odd ns ks n 0 ((xY n).foldl (bestIn odd ns ks) (0,0,0))
 |0=>⟨fun i' j' hl=>by revert hl;k_in,fun _=>⟨rfl,rfl⟩,fun h=>absurd h (yY 0)⟩
 |n+1=>by
  rw [List.range_succ,List.foldl_append];exact bestTo_next (bestTo_row (bestTo_all n) ks.length)
theorem best_is {odd ns ks}:IsBest odd ns ks (best odd ns ks):=by
 obtain ⟨h1,h2,h3⟩:=bestTo_all (odd:=odd) (ns:=ns) (ks:=ks) ns.length;refine ⟨fun i j=>?_,h2,fun hp=>⟨(h3 hp).2.1,fun i j he=>?_⟩⟩
 · by_cases hi:i<ns.length
   · exact h1 i j (.inl hi)
   · rw [runAt_out (.inl (by revert hi;k_in))];exact Nat.zero_le _
 · by_cases hi:i<ns.length
   · exact (h3 hp).2.2 i j (.inl hi) he
   · rw [runAt_out (.inl (by revert hi;k_in))] at he;have:(best odd ns ks).2.2=0:=he.symm
     (revert hp he;k_in)
def Mt (odd:Int) (ns ks:List Int) (a b:Nat):Prop:=∃ c,ns[a]? =some c∧ks[b]? =some c∧c≠odd
open Classical in
noncomputable def eN (odd:Int) (ns ks:List Int):Nat→Nat→Nat
 |a+1,b+1=>if Mt odd ns ks a b then eN odd ns ks a b+1 else 0
 |_,_=>0
theorem e_ge {odd ns ks}:∀ (k a b:Nat),k≤eN odd ns ks a b↔(k≤a∧k≤b∧∀ t,t<k→Mt odd ns ks (a - 1 - t) (b - 1 - t))
 |0,a,b=>by simp
 |k+1,0,b=>by (dsimp only [eN];try simp)
 |k+1,a+1,0=>by (dsimp only [eN];try simp)
 |k+1,a+1,b+1=>by
  dsimp only [eN];have ih:=e_ge (odd:=odd) (ns:=ns) (ks:=ks) k a b;constructor
  · intro h;split at h
    · rename_i hm;obtain ⟨h1,h2,h3⟩:=ih.mp (by revert h;k_in);refine ⟨by revert h1;k_in,by revert h2;k_in,fun t ht=>?_⟩;cases t with
      |zero=>simpa using hm
      |succ t=>
       have:=h3 t (by revert ht;k_in);rw [show a+1 - 1 - (t+1)=a - 1 - t by k_in,show b+1 - 1 - (t+1)=b - 1 - t by k_in];exact this
    · exact absurd h (by k_in)
  · rintro ⟨h1,h2,h3⟩;have hm:=h3 0 (by k_in);simp only [Nat.add_sub_cancel,Nat.sub_zero] at hm;rw [if_pos hm]
    have:=ih.mpr ⟨by revert h1;k_in,by revert h2;k_in,fun t ht=>by
     have:=h3 (t+1) (by revert ht;k_in);rw [show a+1 - 1 - (t+1)=a - 1 - t by k_in,show b+1 - 1 - (t+1)=b - 1 - t by k_in] at this
     exact this⟩
    (revert this;k_in)
theorem r_ge {odd ns ks} (i j:Nat):∀ (k:Nat),k≤runAt odd ns ks i j↔∀ t,t<k→Mt odd ns ks (i+t) (j+t)
 |0=>by simp
 |k+1=>by
  have ih:=r_ge (odd:=odd) (ns:=ns) (ks:=ks) i j k;constructor
  · intro h t ht;by_cases e:t<k
    · exact ih.mp (by lia) t e
    · have:t=k:=by (revert ht e;k_in)
      subst this;exact (runAt_next (by lia)).mp (by lia)
  · intro h;have h1:=ih.mpr fun t ht=>h t (by revert ht;k_in)
    have:=(runAt_next h1).mpr (h k (by lia));lia
theorem run_e {odd ns ks p q k}:k≤runAt odd ns ks p q↔k≤eN odd ns ks (p+k) (q+k):=by
 rw [r_ge,e_ge];constructor
 · intro h;refine ⟨by k_in,by k_in,fun t ht=>?_⟩;have:=h (k - 1 - t) (by revert ht;k_in);rw [show p+k - 1 - t=p+(k - 1 - t) by revert ht;k_in,show q+k - 1 - t=q+(k - 1 - t) by revert ht;k_in];exact this
 · rintro ⟨-,-,h⟩ t ht;have:=h (k - 1 - t) (by revert ht;k_in);rw [show p+k - 1 - (k - 1 - t)=p+t by revert ht;k_in,show q+k - 1 - (k - 1 - t)=q+t by revert ht;k_in] at this;exact this
def EndTo (odd:Int) (ns ks:List Int) (P:Nat→Nat→Prop) (b:Nat×Nat×Nat):Prop:=
 (∀ i j,P i j→eN odd ns ks (i+1) (j+1)≤b.2.2)∧(b.2.2=0→b.1=0∧b.2.1=0)∧
 (0<b.2.2→P (b.1+b.2.2 - 1) (b.2.1+b.2.2 - 1)∧eN odd ns ks (b.1+b.2.2) (b.2.1+b.2.2)=b.2.2∧∀ i j,P i j→eN odd ns ks (i+1) (j+1)=b.2.2→b.1+b.2.2 - 1<i∨(b.1+b.2.2 - 1=i∧b.2.1+b.2.2 - 1≤j))
theorem e_out {odd ns ks a b} (h:ns.length<a∨ks.length<b) (ha:0<a) (hb:0<b):eN odd ns ks a b=0:=by
 cases a with
 |zero=>(revert ha;k_in)
 |succ a=>
  cases b with
  |zero=>(revert hb;k_in)
  |succ b=>
   dsimp only [eN];rw [if_neg];rintro ⟨c,h1,h2,_⟩;have:=(l_i.mp h1).1;have:=(l_i.mp h2).1
   (rename_i z0;revert h z0 this;k_in)
theorem endTo_best {odd ns ks b} {P:Nat→Nat→Prop}(h:EndTo odd ns ks P b) (all:∀ i j,i<ns.length→j<ks.length→P i j):IsBest odd ns ks b:=by
 obtain ⟨h1,h2,h3⟩:=h
 have le:∀ i j,eN odd ns ks (i+1) (j+1)≤b.2.2:=fun i j=>by
  by_cases hi:i<ns.length∧j<ks.length
  · exact h1 i j (all i j hi.1 hi.2)
  · rw [e_out (by revert hi;k_in) (by k_in) (by k_in)];exact Nat.zero_le _
 refine ⟨fun i j=>?_,h2,fun hp=>?_⟩
 · obtain ⟨r,hr⟩:∃ r,r=runAt odd ns ks i j:=⟨_,rfl⟩;by_cases h0:r=0
   · (revert hr h0;k_in)
   · have:=run_e.mp (show r≤runAt odd ns ks i j by revert hr;k_in);have l:=le (i+r - 1) (j+r - 1);rw [show i+r - 1+1=i+r by revert h0;k_in,show j+r - 1+1=j+r by revert h0;k_in] at l
     (revert hr this l;k_in)
 · obtain ⟨a1,a2,a3⟩:=h3 hp
   have run_le:∀ i j,runAt odd ns ks i j≤b.2.2:=fun i j=>by
    obtain ⟨r,hr⟩:∃ r,r=runAt odd ns ks i j:=⟨_,rfl⟩;by_cases h0:r=0
    · (revert hp hr h0;k_in)
    · have:=run_e.mp (show r≤runAt odd ns ks i j by revert hr;k_in);have l:=le (i+r - 1) (j+r - 1);rw [show i+r - 1+1=i+r by revert h0;k_in,show j+r - 1+1=j+r by revert h0;k_in] at l
      (revert hr this l;k_in)
   refine ⟨?_,fun i j he=>?_⟩
   · have:=run_e.mpr (show b.2.2≤eN odd ns ks (b.1+b.2.2) (b.2.1+b.2.2) by lia);have:=run_le b.1 b.2.1
     (rename_i z0;revert z0 this;k_in)
   · have e1:=run_e.mp (show b.2.2≤runAt odd ns ks i j by revert he;k_in);have l:=le (i+b.2.2 - 1) (j+b.2.2 - 1)
     have i1:i+b.2.2 - 1<ns.length∧j+b.2.2 - 1<ks.length:=by
      have:=runL_le odd (ns.drop i) (ks.drop j);simp only [xW] at this;unfold runAt at he
      (revert hp he this;k_in)
     have:=a3 (i+b.2.2 - 1) (j+b.2.2 - 1) (all _ _ i1.1 i1.2) (by
      rw [show i+b.2.2 - 1+1=i+b.2.2 by revert hp;k_in,show j+b.2.2 - 1+1=j+b.2.2 by revert hp;k_in] at l ⊢
      (revert e1 l;k_in))
     (revert hp this;k_in)
theorem EndTo.more {odd ns ks b} {P P':Nat→Nat→Prop}(h:EndTo odd ns ks P b) (sub:∀ i j,P i j→P' i j) (zero:∀ i j,P' i j→P i j∨eN odd ns ks (i+1) (j+1)=0):EndTo odd ns ks P' b:=by
 obtain ⟨h1,h2,h3⟩:=h;refine ⟨fun i j hp=>?_,h2,fun hb=>⟨sub _ _ (h3 hb).1,(h3 hb).2.1,fun i j hp he=>?_⟩⟩
 · rcases zero i j hp with q|q
   · exact h1 i j q
   · (revert q;k_in)
 · rcases zero i j hp with q|q
   · exact (h3 hb).2.2 i j q he
   · (revert hb he q;k_in)
theorem eN_le {odd ns ks} (a b:Nat):eN odd ns ks a b≤a∧eN odd ns ks a b≤b:=by
 have:=(e_ge (odd:=odd) (ns:=ns) (ks:=ks) (eN odd ns ks a b) a b).mp (yX _);exact ⟨this.1,this.2.1⟩
noncomputable def upB (b:Nat×Nat×Nat) (i j kv:Nat):Nat×Nat×Nat:=if b.2.2<kv then (i+1 - kv,j+1 - kv,kv) else b
theorem EndTo.add {odd ns ks b} {P P':Nat→Nat→Prop}{i0 j0:Nat}(h:EndTo odd ns ks P b) (sub:∀ i j,P i j→P' i j) (zero:∀ i j,P' i j→P i j∨(i=i0∧j=j0)∨eN odd ns ks (i+1) (j+1)=0) (h0:P' i0 j0)
 (bef:∀ i j,P i j→i<i0∨(i=i0∧j<j0)):EndTo odd ns ks P' (upB b i0 j0 (eN odd ns ks (i0+1) (j0+1))):=by
 obtain ⟨h1,h2,h3⟩:=h;obtain ⟨le1,le2⟩:=eN_le (odd:=odd) (ns:=ns) (ks:=ks) (i0+1) (j0+1);obtain ⟨kv,hkv⟩:∃ kv,kv=eN odd ns ks (i0+1) (j0+1):=⟨_,rfl⟩;rw [← hkv] at le1 le2 ⊢;unfold upB;by_cases hlt:b.2.2<kv
 · rw [if_pos hlt];refine ⟨fun i j hp=>?_,fun e=>by dsimp only at e;(revert hlt e;k_in),fun _=>?_⟩
   · dsimp only;rcases zero i j hp with q|⟨rfl,rfl⟩|q
     · have:=h1 i j q;(revert hlt this;k_in)
     · (revert hkv;k_in)
     · (revert hlt q;k_in)
   · dsimp only;rw [show i0+1 - kv+kv - 1=i0 by rename_i z0;revert le1 z0;k_in,show j0+1 - kv+kv - 1=j0 by rename_i z0;revert le2 z0;k_in,show i0+1 - kv+kv=i0+1 by revert le1;k_in,show j0+1 - kv+kv=j0+1 by revert le2;k_in];refine ⟨h0,hkv.symm,fun i j hp he=>?_⟩;rcases zero i j hp with q|⟨rfl,rfl⟩|q
     · have:=h1 i j q;(revert hlt he this;k_in)
     · exact .inr ⟨rfl,yX _⟩
     · (rename_i z0;revert z0 he q;k_in)
 · rw [if_neg hlt];refine ⟨fun i j hp=>?_,h2,fun hb=>⟨sub _ _ (h3 hb).1,(h3 hb).2.1,fun i j hp he=>?_⟩⟩
   · rcases zero i j hp with q|⟨rfl,rfl⟩|q
     · exact h1 i j q
     · (revert hlt hkv;k_in)
     · (revert q;k_in)
   · rcases zero i j hp with q|⟨rfl,rfl⟩|q
     · exact (h3 hb).2.2 i j q he
     · have:=bef _ _ (h3 hb).1
       (revert this;k_in)
     · (revert hb he q;k_in)
section
structure Site (w:zT) (A:zU) (L:zV) (h₀:Heap):Prop where
 ex:∃ A₀ base outer env,Below A₀ base outer h₀∧A.frames=some (env::outer)∧env.frame=some L∧env.scope.kind= .function
 X:(KF PW w.params).In h₀
 T:∃ pT lT mean mg mb,Top pT lT mean mg mb h₀
 hh:A.handled=none
noncomputable def retv:Flow→zY
 | .ret v=>v
 |_=>.none
section
variable {w:zT}{A:zU}{E:VP}{s:zX}{h₀:Heap}{L:zV}{m:NM}{news:Led}{Q:VP}
end
end
section
noncomputable def S (σ:zX) (h:Heap) (t:Nat):zX:=⟨h,σ.gens,σ.drawn,t,σ.os⟩
structure Wk (h₀:Heap) (L:zV) (h:Heap) (m:NM) (news:Led):Prop where
 fr:Fr h₀ L h m
 nw:News h₀ L h news
 nd:(news.map (·.1)).Nodup
def Kp (h h':Heap):Prop:=∀ b o,h.get? b=some o→h'.get? b=some o
theorem Kp.refl (h:Heap):Kp h h:=fun _ _ e=>e
theorem Kp.trans {a b c:Heap}(x:Kp a b) (y:Kp b c):Kp a c:=fun _ _ e=>y _ _ (x _ _ e)
noncomputable def setm (m:NM) (x:Str) (v:zY):NM:=fun y=>if y=x then some v else m y
theorem setm_self (m x v):setm m x v x=some v:=by simp [setm]
theorem setm_ne {m:NM}{x y:Str}{v:zY}(h:(y==x)=false):setm m x v y=m y:=by
 have:y≠x:=by simpa using h
 simp [setm,this]
theorem setm_nt {m:NM}{x y:Str}{v:zY}{r:Option zY}(h:(y==x)=false) (k:m y=r):setm m x v y=r:=(setm_ne h).trans k
theorem setm_lk {m m₀:NM}{x:Str}{r:Option zY}(e:m x=m₀ x) (h:m₀ x=r):m x=r:=e.trans h
noncomputable def kx (cs:Scope) (x:Str) (k:NameKind):Bool:=decide (cs.kind= .function)&&decide (cs.names.lookup x=some k)&&!(x==("__debug__":Str))
theorem kx_k {cs x k} (h:kx cs x k=true):cs.kind= .function:=by simp only [kx,yT,decide_eq_true_eq] at h;exact h.1.1
theorem kx_x {cs x k} (h:kx cs x k=true):cs.names.lookup x=some k:=by simp only [kx,yT,decide_eq_true_eq] at h;exact h.1.2
theorem kx_d {cs x k} (h:kx cs x k=true):(x==("__debug__":Str))=false:=by
 unfold kx at h;rw [yT,Bool.not_eq_true'] at h;exact h.2
def Nx (M:Model) (A:zU) (rest:List Stmt) (env:Env) (Q:FP) (E:VP):FP:=
 fun f s'=>match f with
  | .next=>zZ M A (execs rest env) Q E s'
  |f=>Q f s'
section
variable {w:zT}{A:zU}{E:VP}{σ:zX}{h₀ h:Heap}{t:Nat}{L:zV}{m:NM}{news:Led}{env:Env}{M:Model}
theorem x_cons {st rest} {Q:FP}{s:zX}(k:zZ M A (exec st env) (Nx M A rest env Q E) E s):zZ M A (execs (st::rest) env) Q E s:=wpAny_execs_cons k
theorem x_next {rest} {Q:FP}{s:zX}(k:zZ M A (execs rest env) Q E s):Nx M A rest env Q E .next s:=k
theorem x_ret {rest} {Q:FP}{s:zX}{v} (k:Q (.ret v) s):Nx M A rest env Q E (.ret v) s:=k
theorem x_brk {rest} {Q:FP}{s:zX}(k:Q .brk s):Nx M A rest env Q E .brk s:=k
theorem x_cont {rest} {Q:FP}{s:zX}(k:Q .cont s):Nx M A rest env Q E .cont s:=k
theorem x_nil {Q:FP}{s:zX}(k:Q .next s):zZ M A (execs [] env) Q E s:=wpAny_execs_nil k
theorem r_local {cn cs a ccd cl x pos v} {Q:VP}(W:Wk h₀ L h m news) (hv:m x=some v) (k:Q v (S σ h t))
 (hk:cs.kind= .function) (hx:(envX cn cs L a ccd cl).kindOf x=some .local) (hd:(x==("__debug__":Str))=false):
 zZ M A (eval (.Name x pos) (envX cn cs L a ccd cl)) Q E (S σ h t):=nameX_L W.fr hv k hk hx hd
theorem r_glob {cn cs a ccd cl x pos v} {Q:VP}(W:Wk h₀ L h m news) (Z:Site w A L h₀) (e:nsIn (KF PW w.params) mainGlobals x=some (some v)) (k:Q v (S σ h t))
 (hk:cs.kind= .function) (hx:(envX cn cs L a ccd cl).kindOf x=some .globalImplicit) (hd:(x==("__debug__":Str))=false):
 zZ M A (eval (.Name x pos) (envX cn cs L a ccd cl)) Q E (S σ h t):=
 let ⟨pT,lT,mean,mg,mb,T⟩:=Z.T;nameX_K W.fr Z.X (topRead_of T) e k hk hx hd
theorem r_bltin {cn cs a ccd cl x pos v} {Q:VP}(W:Wk h₀ L h m news) (Z:Site w A L h₀) (e:nsIn (KF PW w.params) mainGlobals x=some none) (hv:bootBuiltins x=some v) (hn:x≠"__name__") (k:Q v (S σ h t))
 (hk:cs.kind= .function) (hx:(envX cn cs L a ccd cl).kindOf x=some .globalImplicit) (hd:(x==("__debug__":Str))=false):
 zZ M A (eval (.Name x pos) (envX cn cs L a ccd cl)) Q E (S σ h t):=
 let ⟨pT,lT,mean,mg,mb,T⟩:=Z.T;nameX_B W.fr Z.X (topRead_of T) e hv hn k hk hx hd
theorem r_localK {cn cs a ccd cl x pos v} {Q:VP}(W:Wk h₀ L h m news) (hv:m x=some v) (k:Q v (S σ h t)) (hx:kx cs x .local=true):
 zZ M A (eval (.Name x pos) (envX cn cs L a ccd cl)) Q E (S σ h t):=r_local W hv k (kx_k hx) (kx_x hx) (kx_d hx)
theorem r_globK {cn cs a ccd cl x pos v} {Q:VP}(W:Wk h₀ L h m news) (Z:Site w A L h₀) (e:nsIn (KF PW w.params) mainGlobals x=some (some v)) (k:Q v (S σ h t)) (hx:kx cs x .globalImplicit=true):
 zZ M A (eval (.Name x pos) (envX cn cs L a ccd cl)) Q E (S σ h t):=r_glob W Z e k (kx_k hx) (kx_x hx) (kx_d hx)
theorem r_bltinK {cn cs a ccd cl x pos v} {Q:VP}(W:Wk h₀ L h m news) (Z:Site w A L h₀) (e:nsIn (KF PW w.params) mainGlobals x=some none) (hv:bootBuiltins x=some v) (hn:x≠"__name__") (k:Q v (S σ h t)) (hx:kx cs x .globalImplicit=true):
 zZ M A (eval (.Name x pos) (envX cn cs L a ccd cl)) Q E (S σ h t):=r_bltin W Z e hv hn k (kx_k hx) (kx_x hx) (kx_d hx)
theorem r_intE {i kk pos} {Q:VP}(k:Q (.int i t) (S σ h t.succ)):zZ M A (eval (.Constant (.int i) kk pos) env) Q E (S σ h t):=wpAny_Constant_int k
theorem r_bool {i kk pos} {Q:VP}(k:Q (.bool i) (S σ h t)):zZ M A (eval (.Constant (.bool i) kk pos) env) Q E (S σ h t):=wpAny_Constant_bool k
theorem r_none {kk pos} {Q:VP}(k:Q .none (S σ h t)):zZ M A (eval (.Constant .none kk pos) env) Q E (S σ h t):=wpAny_Constant_none k
theorem r_strE {x kk pos} {Q:VP}(k:Q (.str x t) (S σ h t.succ)):zZ M A (eval (.Constant (.str x) kk pos) env) Q E (S σ h t):=wpAny_Constant_str k
theorem o_addE {a b ta tb} {Q:VP}(k:Q (.int (a+b) t) (S σ h t.succ)):zZ (zW PW w) A (binaryOp .Add (.int a ta) (.int b tb)) Q E (S σ h t):=PySem.P.add_int k
theorem o_subE {a b ta tb} {Q:VP}(k:Q (.int (a - b) t) (S σ h t.succ)):zZ (zW PW w) A (binaryOp .Sub (.int a ta) (.int b tb)) Q E (S σ h t):=PySem.P.sub_int k
theorem o_mod {a b ta tb} {Q:VP}(hb:b≠0) (k:∀ tk t',Q (.int (a.fmod b) tk) (S σ h t')):zZ (zW PW w) A (binaryOp .Mod (.int a ta) (.int b tb)) Q E (S σ h t):=mod_int' hb (k _ _)
theorem o_modE {a b ta tb} {Q:VP}(hb:b≠0) (k:Q (.int (a.fmod b) t) (S σ h t.succ)):zZ (zW PW w) A (binaryOp .Mod (.int a ta) (.int b tb)) Q E (S σ h t):=mod_int' hb k
theorem o_iaddE {a b ta tb} {Q:VP}(k:Q (.int (a+b) t) (S σ h t.succ)):zZ (zW PW w) A (inplaceOp .Add (.int a ta) (.int b tb)) Q E (S σ h t):=PySem.P.iadd_int k
theorem o_lt {a b ta tb} {Q:VP}(k:Q (.bool (decide (a<b))) (S σ h t)):zZ (zW PW w) A (compareOp .Lt (.int a ta) (.int b tb)) Q E (S σ h t):=PySem.P.lt_int k
theorem o_le {a b ta tb} {Q:VP}(k:Q (.bool (decide (a≤b))) (S σ h t)):zZ (zW PW w) A (compareOp .LtE (.int a ta) (.int b tb)) Q E (S σ h t):=PySem.P.le_int k
theorem o_gt {a b ta tb} {Q:VP}(k:Q (.bool (decide (b<a))) (S σ h t)):zZ (zW PW w) A (compareOp .Gt (.int a ta) (.int b tb)) Q E (S σ h t):=PySem.P.gt_int k
theorem o_ge {a b ta tb} {Q:VP}(k:Q (.bool (decide (b≤a))) (S σ h t)):zZ (zW PW w) A (compareOp .GtE (.int a ta) (.int b tb)) Q E (S σ h t):=PySem.P.ge_int k
theorem o_eq {a b ta tb} {Q:VP}(k:Q (.bool (decide (a=b))) (S σ h t)):zZ (zW PW w) A (compareOp .Eq (.int a ta) (.int b tb)) Q E (S σ h t):=PySem.P.eq_int (by rw [show (a==b)=decide (a=b) from by by_cases q:a=b <;> simp [q]];exact k)
theorem o_ne {a b ta tb} {Q:VP}(k:Q (.bool (decide (a≠b))) (S σ h t)):zZ (zW PW w) A (compareOp .NotEq (.int a ta) (.int b tb)) Q E (S σ h t):=PySem.P.ne_int (by rw [show (a !=b)=decide (a≠b) from by by_cases q:a=b <;> simp [q]];exact k)
theorem r_bin {l op r pos} {Q:VP}{s:zX}(k:zZ M A (eval l env) (fun a s₁=>zZ M A (eval r env) (fun b s₂=>zZ M A (binaryOp op a b) Q E s₂) E s₁) E s):zZ M A (eval (.BinOp l op r pos) env) Q E s:=wpAny_BinOp k
theorem r_cmp {l op r pos} {Q:VP}{s:zX}(hm:behindInMarks op r=false) (k:zZ M A (eval l env) (fun a s₁=>zZ M A (eval r env) (fun b s₂=>zZ M A (compareOp op a b) Q E s₂) E s₁) E s):zZ M A (eval (.Compare l [op] [r] pos) env) Q E s:=wpAny_Compare1 k hm
theorem r_cmp2 {l op₁ op₂ r₁ r₂ pos} {Q:VP}{s:zX}(hm:lastMarks [op₁,op₂] [r₁,r₂]=false)
 (k:zZ M A (eval l env) (fun a s₁=>zZ M A (eval r₁ env) (fun b s₂=>zZ M A (compareOp op₁ a b) (fun c s₃=>zZ M A (truthy c) (fun tt s₄=>if tt=true then zZ M A (eval r₂ env) (fun d s₅=>zZ M A (compareOp op₂ b d) Q E s₅) E s₄ else Q c s₄) E s₃) E s₂) E s₁) E s):
 zZ M A (eval (.Compare l [op₁,op₂] [r₁,r₂] pos) env) Q E s:=by
 refine Compare_chain (w_m k (fun a s₁ h₁=>chain_link (w_m h₁ (fun b s₂ h₂=>w_m h₂ (fun c s₃ h₃=>w_m h₃ (fun tt s₄ h₄=>?_) fun _ _ e=>e) fun _ _ e=>e) fun _ _ e=>e)) fun _ _ e=>e) hm;cases tt
 · exact h₄
 · exact chain_last h₄
theorem r_and {e₁ e₂ rest pos} {Q:VP}{s:zX}(k:zZ M A (eval e₁ env) (fun v s₁=>zZ M A (truthy v) (fun c s₂=>if c=true then zZ M A (eval (.BoolOp .And (e₂::rest) pos) env) Q E s₂ else Q v s₂) E s₁) E s):
 zZ M A (eval (.BoolOp .And (e₁::e₂::rest) pos) env) Q E s:=BoolOp_and k
theorem r_one {op e pos} {Q:VP}{s:zX}(k:zZ M A (eval e env) Q E s):zZ M A (eval (.BoolOp op [e] pos) env) Q E s:=k
theorem r_tb {b:Bool}{Q:Bool→zX→Prop}{s:zX}(k:Q b s):zZ M A (truthy (.bool b)) Q E s:=wpAny_truthy_bool k
theorem ite_d {p:Prop} [Decidable p] {X Y:Prop}(a:p→X) (b:¬ p→Y):if decide p=true then X else Y:=by
 by_cases hp:p
 · rw [l_t hp];exact a hp
 · rw [l_f hp];exact b hp
theorem ite_b {b:Bool}{X Y:Prop}(x:b=true→X) (y:b=false→Y):if b=true then X else Y:=by cases b <;> simp_all
theorem x_retE {e pos} {Q:FP}{s:zX}(k:zZ M A (eval e env) (fun v=>Q (.ret v)) E s):zZ M A (exec (.Return (some e) pos) env) Q E s:=wpAny_Return_some k
theorem x_if {test body orelse pos} {Q:FP}{s:zX}(k:zZ M A (isTrue test env (eval test env)) (fun b s₂=>if b=true then zZ M A (execs body env) Q E s₂ else zZ M A (execs orelse env) Q E s₂) E s):zZ M A (exec (.If test body orelse pos) env) Q E s:=wpAny_If k
theorem i_cmp {l op r pos whole} {Q:Bool→zX→Prop}{s:zX}(hm:behindInMarks op r=false) (k:zZ M A (eval l env) (fun a s₁=>zZ M A (eval r env) (fun b s₂=>zZ M A (compareOp op a b) (fun c s₃=>zZ M A (truthy c) Q E s₃) E s₂) E s₁) E s):zZ M A (isTrue (.Compare l [op] [r] pos) env whole) Q E s:=wpAny_isTrue_Compare1 k hm
theorem i_not {x pos whole} {Q:Bool→zX→Prop}{s:zX}(k:zZ M A (isTrue x env (eval x env)) (fun c s'=>Q (!c) s') E s):zZ M A (isTrue (.UnaryOp .Not x pos) env whole) Q E s:=isTrue_not k
theorem i_and {x y rest pos whole} {Q:Bool→zX→Prop}{s:zX}(k:zZ M A (isTrue x env (eval x env)) (fun c s'=>if c=true then zZ M A (isTrue (.BoolOp .And (y::rest) pos) env whole) Q E s' else Q false s') E s):zZ M A (isTrue (.BoolOp .And (x::y::rest) pos) env whole) Q E s:=isTrue_and k
theorem i_and1 {x pos whole} {Q:Bool→zX→Prop}{s:zX}(k:zZ M A (isTrue x env (eval x env)) Q E s):zZ M A (isTrue (.BoolOp .And [x] pos) env whole) Q E s:=
 isTrue_and (w_m k (fun c s' q=>by cases c;exact q;exact isTrue_and_nil q) fun _ _ e=>e)
theorem i_plain {e:Expr}{whole:Sem zY}{Q:Bool→zX→Prop}{s:zX}(k:zZ M A whole (fun v s₁=>zZ M A (truthy v) Q E s₁) E s)
 (he:isTrue e env whole=(do let v ← whole;standAt e.pos;holding [v] (truthy v))):zZ M A (isTrue e env whole) Q E s:=isTrue_plain k he
theorem x_asg {x pos' value pos} {Q:FP}{s:zX}(k:zZ M A (eval value env) (fun v s₁=>zZ M A (storeName env x v) (fun _=>Q .next) E s₁) E s)
 (hs:swapsWith value (some (.Name x pos')) pos.line env=pure false):zZ M A (exec (.Assign [.Name x pos'] value pos) env) Q E s:=wpAny_Assign_Name k hs
theorem x_aug {x pos' op value pos} {Q:FP}{s:zX}
 (k:zZ M A (loadName env x) (fun old s₁=>zZ M A (eval value env) (fun v s₂=>zZ M A (inplaceOp op old v) (fun r s₃=>zZ M A (storeName env x r) (fun _=>Q .next) E s₃) E s₂) E s₁) E s):
 zZ M A (exec (.AugAssign (.Name x pos') op value pos) env) Q E s:=wpAny_AugAssign_Name k
theorem s_local {cn cs a ccd cl x v} {Q:UP}(W:Wk h₀ L h m news) (k:∀ h' t',Wk h₀ L h' (setm m x v) news→Q () (S σ h' t'))
 (hk:cs.kind= .function) (hx:(envX cn cs L a ccd cl).kindOf x=some .local):zZ M A (storeName (envX cn cs L a ccd cl) x v) Q E (S σ h t):=
 storeX_L W.fr W.nw (fun h' F N=>k h' _ ⟨F,N,W.nd⟩) hk hx
theorem s_localK {cn cs a ccd cl x v} {Q:UP}(W:Wk h₀ L h m news) (k:∀ h',Wk h₀ L h' (setm m x v) news→Q () (S σ h' t.succ)) (hx:kx cs x .local=true):
 zZ M A (storeName (envX cn cs L a ccd cl) x v) Q E (S σ h t):=storeX_L W.fr W.nw (fun h' F N=>k h' ⟨F,N,W.nd⟩) (kx_k hx) (kx_x hx)
theorem x_expr {e pos} {Q:FP}{s:zX}(k:zZ (zW PW w) A (eval e env) (fun _=>Q .next) E s)
 (hi:interactive env=false) (hs:swapsWith e none pos.line env=pure false):zZ (zW PW w) A (exec (.Expr e pos) env) Q E s:=wpAny_Expr_any k hi hs
theorem x_break {pos} {Q:FP}{s:zX}(k:Q .brk s):zZ M A (exec (.Break pos) env) Q E s:=wpAny_Break k
theorem x_continue {pos} {Q:FP}{s:zX}(k:Q .cont s):zZ M A (exec (.Continue pos) env) Q E s:=wpAny_Continue k
end
end
section
def Ls (h:Heap) (a:zV) (vs:List zY):Prop:=h.IsList a vs.toArray
def Tp (h:Heap) (a:zV) (vs:List zY):Prop:=IsTup h a vs.toArray
theorem Ls.kp {h h':Heap}{a vs} (x:Ls h a vs) (k:Kp h h'):Ls h' a vs:=let ⟨o,ho,r⟩:=x;⟨o,k a o ho,r⟩
theorem Wk.kp {h₀ L h m news} (W:Wk h₀ L h m news):Kp h₀ h:=W.fr.keep
theorem Ls.kpw {h₀ L h m news a vs} (W:Wk h₀ L h m news) (x:Ls h₀ a vs):Ls h a vs:=x.kp W.kp
theorem Wk.get {h₀ L h m news} (W:Wk h₀ L h m news) {a o} (hm:(a,o)∈news):h.get? a=some o:=W.nw.get hm
noncomputable abbrev lob (vs:List zY) (n:Nat):Obj:={ cls:=.type "list",data:=.seq vs.toArray n }
abbrev tob (vs:List zY) (n:Nat):Obj:={ cls:=.type "tuple",data:=.seq vs.toArray n }
theorem Wk.ls {h₀ L h m news} (W:Wk h₀ L h m news) {a vs n} (hm:(a,lob vs n)∈news):Ls h a vs:=⟨_,W.get hm,rfl,n,rfl⟩
theorem Wk.tp {h₀ L h m news} (W:Wk h₀ L h m news) {a vs n} (hm:(a,tob vs n)∈news):Tp h a vs:=⟨_,W.get hm,rfl,n,rfl⟩
theorem Wk.drop {h₀ L h m news news'} (W:Wk h₀ L h m news) (hs:List.Sublist news' news):Wk h₀ L h m news':=
 ⟨W.fr,fun p hp=>W.nw p (hs.subset hp),(hs.map _).nodup W.nd⟩
theorem Wk.perm {h₀ L h m news news'} (W:Wk h₀ L h m news) (hs:List.Perm news news'):Wk h₀ L h m news':=
 ⟨W.fr,fun p hp=>W.nw p (hs.mem_iff.mpr hp),(hs.map _).nodup_iff.mp W.nd⟩
theorem Wk.new {h₀ L h m news} (W:Wk h₀ L h m news) (o:Obj) (hf:o.isFreed=false):Wk h₀ L (h.push o) m ((h.objs.size,o)::news):=
 ⟨W.fr.push o,W.nw.push W.fr o hf,by
  rw [zM,zJ];refine ⟨fun hm=>?_,W.nd⟩;obtain ⟨p,hp,e⟩:=zN.mp hm
  exact absurd (zB (W.nw p hp).1) (by rw [e];exact yY _)⟩
theorem Kp.push (h:Heap) (o:Obj):Kp h (h.push o):=fun _ _ e=>Heap.get?_push_of_some _ e
theorem Wk.inK {w:zT}{A:zU}{h₀ L h m news} (W:Wk h₀ L h m news) (Z:Site w A L h₀):(KF PW w.params).In h:=Z.X.keeps W.fr.keep
section
variable {w:zT}{A:zU}{E:VP}{σ:zX}{h₀ h:Heap}{t:Nat}{L:zV}{m:NM}{news:Led}{env:Env}{M:Model}
theorem a_nil {pos:Pos}{Q:List zY→zX→Prop}{s:zX}(k:Q [] s):zZ M A (spliced (backTo pos (zR [] env))) Q E s:=wpAny_items_nil k
theorem a_cons {pos:Pos}{e:Expr}{rest:List Expr}{Q:List zY→zX→Prop}{s:zX}
 (he:zR (e::rest) env=(false,eval e env)::zR rest env) (k:zZ M A (eval e env) (fun v s₁=>zZ M A (spliced (backTo pos (zR rest env))) (fun vs s₂=>Q (v::vs) s₂) E s₁) E s):
 zZ M A (spliced (backTo pos (zR (e::rest) env))) Q E s:=wpAny_items_cons k he
theorem c_name {x:Str}{p pos:Pos}{args:List Expr}{Q:VP}{s:zX}
 (k:zZ M A (eval (.Name x p) env) (fun f s₁=>zZ M A (callWith pos f [] (backTo pos (zR args env)) []) Q E s₁) E s):zZ M A (eval (.Call (.Name x p) args [] pos) env) Q E s:=Call_Name rfl k
theorem c_bltin0 {id:String}{pos:Pos}{e:Expr}{rest:List Expr}{Q:VP}{s:zX}
 (he:zR (e::rest) env=(false,eval e env)::zR rest env) (hp:(backTo pos (zR rest env)).any (·.1)=false)
 (k:zZ M A (spliced (backTo pos (zR (e::rest) env))) (fun vs s₁=>zZ M A (call (.builtin id) vs) Q E s₁) E s):
 zZ M A (callWith pos (.builtin id) [] (backTo pos (zR (e::rest) env)) []) Q E s:=by
 rw [he] at k ⊢;exact Calls.callWith_builtin (by show ((false||(backTo pos (zR rest env)).any (·.1)))=false;rw [hp];rfl) (Calls.evalArgs_plain k)
theorem c_bltin1 {id:String}{pos:Pos}{self:zY}{e:Expr}{rest:List Expr}{Q:VP}{s:zX}
 (he:zR (e::rest) env=(false,eval e env)::zR rest env) (hp:(backTo pos (zR rest env)).any (·.1)=false)
 (k:zZ M A (spliced (backTo pos (zR (e::rest) env))) (fun vs s₁=>zZ M A (call (.builtin id) (self::vs)) Q E s₁) E s):
 zZ M A (callWith pos (.builtin id) [self] (backTo pos (zR (e::rest) env)) []) Q E s:=by
 rw [he] at k ⊢;exact Calls.callWith_builtin (by show ((false||(backTo pos (zR rest env)).any (·.1)))=false;rw [hp];rfl) (Calls.evalArgs_plain k)
theorem c_fn0 {f:zY}{pos:Pos}{e:Expr}{rest:List Expr}{Q:VP}{s:zX}(Z:Site w A L h₀) (hk:keepIn (KF PW w.params) f=true)
 (he:zR (e::rest) env=(false,eval e env)::zR rest env) (hp:(backTo pos (zR rest env)).any (·.1)=false)
 (k:zZ M A (spliced (backTo pos (zR (e::rest) env))) (fun vs s₁=>(KF PW w.params).In s₁.heap∧zZ M A (call f vs) Q E s₁) E s):
 zZ M A (callWith pos f [] (backTo pos (zR (e::rest) env)) []) Q E s:=callWith_K Z.X hk k he hp
theorem c_fn1 {f self:zY}{pos:Pos}{e:Expr}{rest:List Expr}{Q:VP}{s:zX}(Z:Site w A L h₀) (hk:keepIn (KF PW w.params) f=true)
 (he:zR (e::rest) env=(false,eval e env)::zR rest env) (hp:(backTo pos (zR rest env)).any (·.1)=false)
 (k:zZ M A (spliced (backTo pos (zR (e::rest) env))) (fun vs s₁=>(KF PW w.params).In s₁.heap∧zZ M A (call f (self::vs)) Q E s₁) E s):
 zZ M A (callWith pos f [self] (backTo pos (zR (e::rest) env)) []) Q E s:=callWith_K Z.X hk k he hp
theorem inK_and {X:Prop}(Z:Site w A L h₀) (W:Wk h₀ L h m news) (k:X):(KF PW w.params).In (S σ h t).heap∧X:=⟨W.inK Z,k⟩
theorem c_type {T:String}{pos:Pos}{e:Expr}{rest:List Expr}{Q:VP}{s:zX}
 (he:zR (e::rest) env=(false,eval e env)::zR rest env) (hp:(backTo pos (zR rest env)).any (·.1)=false)
 (k:zZ M A (spliced (backTo pos (zR (e::rest) env))) (fun vs s₁=>zZ M A (call (.type T) vs) Q E s₁) E s):
 zZ M A (callWith pos (.type T) [] (backTo pos (zR (e::rest) env)) []) Q E s:=PyProof.Rows.callWith_type1 k he hp
theorem c_type0 {T:String}{pos:Pos}{Q:VP}{s:zX}(k:zZ M A (call (.type T) []) Q E s):zZ M A (callWith pos (.type T) [] (backTo pos (zR [] env)) []) Q E s:=PyProof.Rows.callWith_type0 k
theorem n_tuple {elts kk pos} {Q:VP}{s:zX}(k:zZ M A (spliced (backTo pos (zR elts env))) (fun vs s₁=>zZ M A (newTuple vs) Q E s₁) E s):zZ M A (eval (.Tuple elts kk pos) env) Q E s:=Tuple_ k
theorem n_list {elts pos} {Q:VP}{s:zX}(k:zZ M A (spliced (backTo pos (zR elts env))) (fun vs s₁=>zZ M A (newList vs) Q E s₁) E s):zZ M A (eval (.List elts pos) env) Q E s:=List_ k
theorem m_tuple {vs:List zY}{Q:VP}(W:Wk h₀ L h m news) (hz:vs.length≤1000) (k:∀ a h',Wk h₀ L h' m ((a,tob vs 0)::news)→Kp h h'→a=h.objs.size→Q (.ref a) (S σ h' t)):zZ M A (newTuple vs) Q E (S σ h t):=
 yJ (k _ _ (W.new _ rfl) (Kp.push _ _) rfl) (by show vs.toArray.size≤sizeLine;rw [zI,yF];lia)
theorem m_list {vs:List zY}{Q:VP}(W:Wk h₀ L h m news) (hz:vs.length≤1000) (k:∀ a h',Wk h₀ L h' m ((a,lob vs 0)::news)→Kp h h'→a=h.objs.size→Q (.ref a) (S σ h' t)):zZ M A (newList vs) Q E (S σ h t):=
 yJ (k _ _ (W.new _ rfl) (Kp.push _ _) rfl) (by show vs.toArray.size≤sizeLine;rw [zI,yF];lia)
theorem b_len {l:zV}{vs:List zY}{Q:VP}(hl:Ls h l vs) (hz:vs.length≤1000) (k:∀ tk t',Q (.int (vs.length:Int) tk) (S σ h t')):zZ (zW PW w) A (call (.builtin "len") [.ref l]) Q E (S σ h t):=
 PyProof.Rows.len_list hl (by rw [zI];lia) (by rw [zI];exact k _ _)
theorem r_sub {value slice pos} {Q:VP}{s:zX}(k:zZ M A (eval value env) (fun o s₁=>zZ M A (eval slice env) (fun i s₂=>zZ M A (subscriptTail value slice o i) Q E s₂) E s₁) E s):zZ M A (eval (.Subscript value slice pos) env) Q E s:=Subscript_ k
theorem t_list {value slice:Expr}{l:zV}{vs:List zY}{i:Int}{u:Tok}{v:zY}{Q:VP}(hl:Ls h l vs) (h0:0≤i) (h1:i<1000) (hx:vs[i.toNat]? =some v) (k:Q v (S σ h t))
 (hs:subscripted slice false (.ref l) (.int i u)=operate [.ref l,.int i u] (getItem (.ref l) (.int i u))):zZ (zW PW w) A (subscriptTail value slice (.ref l) (.int i u)) Q E (S σ h t):=
 have hl':(S σ h t).heap.IsList l vs.toArray:=hl
 tail_any hl'.typeIs slot_list_getitem.lookup (wpAny_getItem_list hl' h0 (by lia) (by simpa using hx) k) hs
theorem t_tup {value slice:Expr}{l:zV}{vs:List zY}{i:Int}{u:Tok}{j:Nat}{v:zY}{Q:VP}(hl:Tp h l vs) (h0:-1000≤i) (h1:i<1000) (hj:seqIndex? i vs.length=some j) (hx:vs[j]? =some v) (k:Q v (S σ h t))
 (hs:subscripted slice false (.ref l) (.int i u)=operate [.ref l,.int i u] (getItem (.ref l) (.int i u))):zZ (zW PW w) A (subscriptTail value slice (.ref l) (.int i u)) Q E (S σ h t):=
 item_tupleT hl (by lia) (by lia) hj hx k hs
theorem ite_f {p:Prop} [Decidable p] {X Y:Prop}(hp:¬ p) (a:Y):if decide p=true then X else Y:=by rw [l_f hp];exact a
end
def IntsL (vs:List zY) (ns:List Int):Prop:=vs.length=ns.length∧∀ (k:Nat) (n:Int),ns[k]? =some n→∃ t,vs[k]? =some (.int n t)
theorem IntsL.at {vs ns} (x:IntsL vs ns) {i:Int}(h0:0≤i) (h1:i<ns.length):∃ n t,ns[i.toNat]? =some n∧vs[i.toNat]? =some (.int n t):=by
 have:i.toNat<ns.length:=by (revert h0 h1;k_in)
 obtain ⟨t,ht⟩:=x.2 i.toNat ns[i.toNat] (by simp [this]);exact ⟨_,t,by simp [this],ht⟩
section
variable {w:zT}{A:zU}{E:VP}{σ:zX}{h₀ h:Heap}{t:Nat}{L:zV}{m:NM}{news:Led}{env:Env}{M:Model}
theorem t_ints {value slice:Expr}{l:zV}{vs:List zY}{ns:List Int}{i:Int}{u:Tok}{Q:VP}(hl:Ls h l vs) (hi:IntsL vs ns) (h0:0≤i) (h1:i<ns.length) (z:ns.length≤1000) (k:∀ n tk,ns[i.toNat]? =some n→Q (.int n tk) (S σ h t))
 (hs:subscripted slice false (.ref l) (.int i u)=operate [.ref l,.int i u] (getItem (.ref l) (.int i u))):zZ (zW PW w) A (subscriptTail value slice (.ref l) (.int i u)) Q E (S σ h t):=by
 obtain ⟨n,tk,e1,e2⟩:=hi.at h0 h1;exact t_list hl h0 (by revert h1 z;k_in) e2 (k n tk e1) hs
theorem b_lenI {l:zV}{vs:List zY}{ns:List Int}{Q:VP}(hl:Ls h l vs) (hi:IntsL vs ns) (hz:ns.length≤1000) (k:∀ tk t',Q (.int (ns.length:Int) tk) (S σ h t')):zZ (zW PW w) A (call (.builtin "len") [.ref l]) Q E (S σ h t):=
 b_len hl (by rw [hi.1];exact hz) (by rw [hi.1];exact k)
end
end
section
noncomputable def gnd (h:Heap) (mu:Led):Heap:=hideAll h (mu.map (·.1))
theorem gnd_get {h:Heap}{mu:Led}{a:zV}{o:Obj}(e:h.get? a=some o) (n:a∉mu.map (·.1)):(gnd h mu).get? a=some o:=hideAll_get _ e n
section
variable {w:zT}{A:zU}{E:VP}{σ:zX}{h₀ h:Heap}{t:Nat}{L:zV}{m:NM}{mu rest:Led}{Q:VP}
theorem Wk.apart {p q:zV×Obj}(W:Wk h₀ L h m (mu++rest)) (hp:p∈mu) (hq:q∈rest):p.1≠q.1:=fun e=>by
 have:=W.nd;rw [zK,yQ] at this;exact this.2.2 _ (l_o hp) _ (l_o hq) e
theorem Wk.back {L':zV}{h':Heap}{m':NM}{mu':Led}(W:Wk h₀ L h m (mu++rest)) (W':Wk (gnd h mu) L' h' m' mu'):Wk h₀ L h' m (mu'++rest):=by
 have nm:∀ b o,h₀.get? b=some o→b∉mu.map (·.1):=fun b o e q=>by
  obtain ⟨p,hp,rfl⟩:=zN.mp q;have:=(W.nw p (l_l _ hp)).2.2;rw [this] at e;cases e
 obtain ⟨oL,es,ep,hL,hLd,hLk,hLf⟩:=W.fr.ns
 have nL:L∉mu.map (·.1):=fun q=>by
  obtain ⟨p,hp,e⟩:=zN.mp q;exact (W.nw p (l_l _ hp)).2.1 e
 have hLg:=gnd_get hL nL
 have rg:∀ p∈rest,(gnd h mu).get? p.1=some p.2:=fun p hp=>gnd_get (W.nw p (l_r _ hp)).1 fun q=>by
  obtain ⟨x,hx,e⟩:=zN.mp q;exact W.apart hx hp e
 refine ⟨⟨⟨oL,es,ep,W'.fr.keep _ _ hLg,hLd,hLk,hLf⟩,fun b o e=>W'.fr.keep _ _ (gnd_get (W.fr.keep _ _ e) (nm b o e)),W.fr.above⟩,fun p hp=>?_,?_⟩
 · rcases zE.mp hp with hp|hp
   · refine ⟨(W'.nw p hp).1,fun e=>?_,?_⟩
     · have:=(W'.nw p hp).2.2;rw [e,hLg] at this;cases this
     · cases q:h₀.get? p.1 with
       |none=>rfl
       |some o=>
        have:=(W'.nw p hp).2.2;rw [gnd_get (W.fr.keep _ _ q) (nm _ _ q)] at this;cases this
   · exact ⟨W'.fr.keep _ _ (rg p hp),(W.nw p (l_r _ hp)).2⟩
 · rw [zK,yQ];have hn:=W.nd;rw [zK,yQ] at hn;refine ⟨W'.nd,hn.2.1,fun a ha b hb e=>?_⟩;obtain ⟨p,hp,rfl⟩:=zN.mp ha;obtain ⟨q,hq,rfl⟩:=zN.mp hb;have:=(W'.nw p hp).2.2;rw [e,rg q hq] at this;cases this
theorem fn_gen {f:zV}{name qual:Str}{params:Arguments}{body:List Stmt}{scope:Scope}{dV kV doc pm cdv ct oc:zY}{an od:Option zV}{osl:Array (Option zY)}{pos:List zY}{kw binds:List (Str×zY)}
 (Z:Site w A L h₀) (W:Wk h₀ L h m (mu++rest)) (hroom:A.depth<zS)
 (ho:(KF PW w.params).lookup f=some ⟨oc,od,.func (fnOf name qual params body scope dV kV doc pm an cdv ct),osl⟩) (hcd:codeIn (KF PW w.params) cdv qual=true)
 (hbind:BindsTo (S σ h t) (fnOf name qual params body scope dV kV doc pm an cdv ct) ⟨pos,kw⟩ binds) (hloc:∀ y∈binds,scope.names.lookup y.1=some .local)
 (hcell:∀ x∈scope.names,x.2≠ .cell) (hco:scope.isCoroutine=false) (hgen:scope.isGenerator=false) (hk:scope.kind= .function)
 (k:∀ L' h₁ t₁,Site w (A.deeper (envX qual scope L' f cdv [])) L' (gnd h mu)→Wk (gnd h mu) L' h₁ (fun y=>binds.reverse.lookup y) mu→
  zZ (zW PW w) (A.deeper (envX qual scope L' f cdv [])) (execs body (envX qual scope L' f cdv []))
   (fun fl s'=>∃ h' t' m' mu',s'=S σ h' t'∧Wk (gnd h mu) L' h' m' mu'∧(Wk h₀ L h' m (mu'++rest)→Q (retv fl) (S σ h' t')))
   (fun _ _=>False) (S σ h₁ t₁)):
 zZ (zW PW w) A (call (.ref f) pos kw) Q E (S σ h t):=by
 obtain ⟨⟨A₀,base,outer,env,B,hA,hf,hke⟩,X,⟨pT,lT,mean,mg,mb,T⟩,hh⟩:=Z;have N:News h₀ L h mu:=fun p hp=>W.nw p (l_l _ hp)
 obtain ⟨FG,BG,st,-⟩:=groundX (R:=fun _ _=>True) (s:=S σ h t) B W.fr N hA hf hke;refine wpAny_call ?_;refine codeAny_call_def (fd:=fnX name qual params body scope [] dV kV doc pm an cdv ct) (body:=body) (binds:=binds) hroom ((X.keeps W.fr.keep) _ _ ho) rfl (T.nolimit.keeps W.fr.keep) (codeRec_of (X.keeps W.fr.keep) hcd) rfl hbind hcell hloc (fun h₁ hns hk₁=>?_) hco hgen hk
 have W₁:Wk (gnd h mu) h.objs.size h₁ (fun y=>binds.reverse.lookup y) mu:=
  ⟨⟨hns,fun b o e=>hk₁ b o (of_hideAll _ e),Nat.le_of_eq (hideAll_size _ _)⟩,
   fun p hp=>⟨hk₁ _ _ (N p hp).1,Nat.ne_of_lt (zB (N p hp).1),hideAll_none _ (l_o hp)⟩,by
   have:=W.nd;rw [zK,yQ] at this;exact this.1⟩
 refine w_m (k h.objs.size h₁ _ ⟨⟨A,base,env::outer,_,BG,yM hA,rfl,hk⟩,X.keeps st,⟨pT,lT,mean,mg,mb,T.keeps st⟩,hh⟩ W₁) ?_ ?_
 · rintro fl s' ⟨h',t',m',mu',rfl,W',kk⟩;have:=kk (W.back W');cases fl <;> exact this
 · intro e s' hf;exact hf.elim
end
end
section
theorem Wk.upd {h₀ L h h' m a o o' news} (W:Wk h₀ L h m ((a,o)::news)) (hs:Heap.SameBut a h h') (e:h'.get? a=some o'):Wk h₀ L h' m ((a,o')::news):=by
 have z:=W.nw (a,o) (.head _);have nd:=W.nd;rw [zM,zJ] at nd;refine ⟨W.fr.change hs z.2.1 z.2.2,fun p hp=>?_,W.nd⟩;rcases zL.mp hp with rfl|hp
 · exact ⟨e,z.2⟩
 · have q:=W.nw p (.tail _ hp);exact ⟨(hs.2 _ fun e'=>nd.1 (zN.mpr ⟨p,hp,e'⟩)).trans q.1,q.2⟩
theorem Wk.off {h₀ L h h' m a o news} (W:Wk h₀ L h m ((a,o)::news)) (hs:Heap.ExtBut a h h'):Wk h₀ L h' m news:=by
 have z:=W.nw (a,o) (.head _);have nd:=W.nd;rw [zM,zJ] at nd;obtain ⟨oL,es,ep,hL,r⟩:=W.fr.ns;refine ⟨⟨⟨oL,es,ep,hs _ _ (Ne.symm z.2.1) hL,r⟩,fun b o' e=>hs _ _ (fun q=>?_) (W.fr.keep _ _ e),W.fr.above⟩,fun p hp=>?_,nd.2⟩
 · have:=z.2.2;rw [← q,e] at this;cases this
 · have q:=W.nw p (.tail _ hp);exact ⟨hs _ _ (fun e'=>nd.1 (zN.mpr ⟨p,hp,e'⟩)) q.1,q.2⟩
structure Stp (w:zT) (A:zU) (it:zY) (n:Nat) (Sd:Heap→Prop) (io:Nat→Led→Prop) (val:Nat→zY→Prop):Prop where
 item:∀ {i h₀ L h m news own σ t} {Q:Option zY→zX→Prop}{E:VP},i<n→io i own→Sd h→Wk h₀ L h m (own++news)→
  (∀ own' v h' t',io (i+1) own'→val i v→Wk h₀ L h' m (own'++news)→Q (some v) (S σ h' t'))→zZ (zW PW w) A (pyNext it) Q E (S σ h t)
 done:∀ {h₀ L h m news own σ t} {Q:Option zY→zX→Prop}{E:VP},io n own→Sd h→Wk h₀ L h m (own++news)→
  (∀ h' t',Wk h₀ L h' m news→Q none (S σ h' t'))→zZ (zW PW w) A (pyNext it) Q E (S σ h t)
def FR (M:Model) (A:zU) (env:Env) (Q:FP) (E:VP):Result→zX→Prop:=fun r s'=>match r with| .ok f=>Q f s'| .error e=>cameBackBy M A env E e s'
def Tn (σ:zX) (h₀:Heap) (L:zV) (own:Led) (J:(NM)→Led→Prop) (Q:FP):FP:=fun f s₃=>match f with
 | .ret v=>Q (.ret v) s₃
 | .brk=>Q .next s₃
 |_=>∃ h' t' m' news',s₃=S σ h' t'∧Wk h₀ L h' m' (own++news')∧J m' news'
section
variable {w:zT}{A:zU}{E:VP}{σ:zX}{h₀ h:Heap}{t:Nat}{L:zV}{m:NM}{own news:Led}{env:Env}
 {J:(NM)→Led→Prop}{Q:FP}
theorem tn_next (W:Wk h₀ L h m (own++news)) (j:J m news):Tn σ h₀ L own J Q .next (S σ h t):=⟨h,t,m,news,rfl,W,j⟩
theorem tn_cont (W:Wk h₀ L h m (own++news)) (j:J m news):Tn σ h₀ L own J Q .cont (S σ h t):=⟨h,t,m,news,rfl,W,j⟩
theorem tn_brk {s:zX}(k:Q .next s):Tn σ h₀ L own J Q .brk s:=k
theorem hid {M:Model}{α β:Type}{c:Sem α}{d:α→Sem β}{P:β→zX→Prop}{E₁ E₂:VP}{s:zX}(k:∀ QQ:β→zX→Prop,(∀ f s,P f s→QQ f s)→zZ M A c (fun x s₂=>zZ M A (d x) QQ E₂ s₂) E₁ s):zZ M A c (fun x s₂=>zZ M A (d x) P E₂ s₂) E₁ s:=k P fun _ _ h=>h
theorem hidw {M:Model}{β:Type}{c:Sem Bool}{d:Sem β}{P:β→zX→Prop}{R:zX→Prop}{E₁ E₂:VP}{s:zX}(k:∀ (QQ:β→zX→Prop) (RR:zX→Prop),(∀ f s,P f s→QQ f s)→(∀ s,R s→RR s)→zZ M A c (fun b s₂=>if b=true then zZ M A d QQ E₂ s₂ else RR s₂) E₁ s):zZ M A c (fun b s₂=>if b=true then zZ M A d P E₂ s₂ else R s₂) E₁ s:=k P R (fun _ _ h=>h) fun _ h=>h
theorem x_for {target iter body pos} {s:zX}(k:zZ (zW PW w) A (eval iter env) (fun xv s₁=>zZ (zW PW w) A (pyIter xv) (fun it s₂=>codeAny (zW PW w) A (.forLoop target it body [] env) (FR (zW PW w) A env Q E) s₂) E s₁) E s)
 (hs:∀ x,foldedSetIterable iter env x=pure x):zZ (zW PW w) A (exec (.For target iter body [] pos) env) Q E s:=wpAny_For k hs
theorem for_loop {target it body} {n:Nat}{Sd:Heap→Prop}{io:Nat→Led→Prop}{val:Nat→zY→Prop}(J:Nat→(NM)→Led→Prop)
 (T:Stp w A it n Sd io val) (ht:∀ v,letOwnedTupleGo target it v=pure ())
 (hs:∀ i m' news' own' h',J i m' news'→Wk h₀ L h' m' (own'++news')→Sd h') (j0:J 0 m news) (i0:io 0 own) (W:Wk h₀ L h m (own++news))
 (turn:∀ i v m₁ news₁ own₁ h₁ t₁ E',i<n→val i v→J i m₁ news₁→Wk h₀ L h₁ m₁ (own₁++news₁)→
  zZ (zW PW w) A (assign target env v) (fun _ s₂=>zZ (zW PW w) A (execs body env) (Tn σ h₀ L own₁ (J (i+1)) Q) E' s₂) E' (S σ h₁ t₁))
 (done:∀ h' t' m' news',J n m' news'→Wk h₀ L h' m' news'→Q .next (S σ h' t')):
 codeAny (zW PW w) A (.forLoop target it body [] env) (FR (zW PW w) A env Q E) (S σ h t):=by
 refine codeAny_forLoop (fun c s'=>∃ i h' t' m' news' own',s'=S σ h' t'∧i+c=n∧io i own'∧J i m' news'∧Wk h₀ L h' m' (own'++news')) ?_ n ⟨0,h,t,m,news,own,rfl,by k_in,i0,j0,W⟩ ht;rintro c s' ⟨i,h',t',m',news',own',rfl,hc,hio,hJ,W'⟩;by_cases hi:i<n
 · refine T.item hi hio (hs _ _ _ _ _ hJ W') W' fun own₁ v h₁ t₁ hio' hv W₁=>?_;refine w_m (turn i v m' news' own₁ h₁ t₁ _ hi hv hJ W₁) (fun _ s₂ h₂=>w_m h₂ (fun f s₃ h₃=>?_) fun _ _ e=>e) fun _ _ e=>e
   cases f with
   |ret v=>exact h₃
   |brk=>exact h₃
   |next=>obtain ⟨h₄,t₄,m₄,news₄,e,W₄,j₄⟩:=h₃;exact ⟨c - 1,by revert hc hi;k_in,i+1,h₄,t₄,m₄,news₄,own₁,e,by revert hc hi;k_in,hio',j₄,W₄⟩
   |cont=>obtain ⟨h₄,t₄,m₄,news₄,e,W₄,j₄⟩:=h₃;exact ⟨c - 1,by revert hc hi;k_in,i+1,h₄,t₄,m₄,news₄,own₁,e,by revert hc hi;k_in,hio',j₄,W₄⟩
 · have hi':i=n:=by (revert hc hi;k_in)
   subst hi';refine T.done hio (hs _ _ _ _ _ hJ W') W' fun h₁ t₁ W₁=>?_;exact wpAny_execs_nil (done h₁ t₁ m' news' hJ W₁)
theorem x_while {test body pos} (J:Nat→(NM)→Led→Prop) (n:Nat) (j0:J n m news) (W:Wk h₀ L h m news)
 (turn:∀ c m₁ news₁ h₁ t₁ E',J c m₁ news₁→Wk h₀ L h₁ m₁ news₁→zZ (zW PW w) A (isTrue test env (eval test env)) (fun b s₂=>if b=true then zZ (zW PW w) A (execs body env) (Tn σ h₀ L [] (fun m' news'=>∃ c',c'<c∧J c' m' news') Q) E' s₂ else Q .next s₂) E' (S σ h₁ t₁)):
 zZ (zW PW w) A (exec (.While test body [] pos) env) Q E (S σ h t):=by
 refine wpAny_While (codeAny_whileLoop (fun c s'=>∃ h' t' m' news',s'=S σ h' t'∧J c m' news'∧Wk h₀ L h' m' news') ?_ n ⟨h,t,m,news,rfl,j0,W⟩);rintro c s' ⟨h',t',m',news',rfl,hJ,W'⟩;refine w_m (turn c m' news' h' t' _ hJ W') (fun b s₂ h₂=>?_) fun _ _ e=>e
 cases b with
 |false=>exact wpAny_execs_nil h₂
 |true=>
  refine w_m h₂ (fun f s₃ h₃=>?_) fun _ _ e=>e
  cases f with
  |ret v=>exact h₃
  |brk=>exact h₃
  |next=>obtain ⟨h₄,t₄,m₄,news₄,e,W₄,c',hc',j₄⟩:=h₃;exact ⟨c',hc',h₄,t₄,m₄,news₄,e,j₄,W₄⟩
  |cont=>obtain ⟨h₄,t₄,m₄,news₄,e,W₄,c',hc',j₄⟩:=h₃;exact ⟨c',hc',h₄,t₄,m₄,news₄,e,j₄,W₄⟩
end
section
variable {w:zT}{A:zU}{E:VP}{σ:zX}{h₀ h:Heap}{t:Nat}{L:zV}{m:NM}{news:Led}
noncomputable def riob (x left:Int):Obj:={ cls:=.type "range_iterator",data:=.fields #[rawInt x,rawInt left,rawInt 1] }
theorem stp_range (hh:A.handled=none) (I:zV) (a:Int) (n:Nat):Stp w A (.ref I) n (fun _=>True) (fun i own=>own=[(I,riob (a+i) ((n:Int) - i))]) (fun i v=>∃ tk,v= .int (a+i) tk) where
 item:=by
  rintro i h₀ L h m news own σ t Q E hi rfl - W k;refine wpAny_pyNext_range_item (s:=S σ h t) (x:=a+i) (left:=(n:Int) - i) (step:=1) (W.get (.head _)) (by revert hi;k_in) fun h' hit hs=>?_;refine k _ _ h' _ rfl ⟨_,rfl⟩ (W.upd hs ?_);rw [show (a+((i+1:Nat):Int))=a+i+1 by k_in,show ((n:Int) - ((i+1:Nat):Int))=(n:Int) - i - 1 by k_in];exact hit
 done:=by
  rintro h₀ L h m news own σ t Q E rfl - W k;refine wpAny_pyNext_range_end (s:=S σ h t) (x:=a+n) (left:=(n:Int) - n) (step:=1) hh (W.get (.head _)) (by k_in) fun h' hs=>?_;exact k h' _ (W.off hs)
def liob (l:zV) (i:Nat) (o:Obj):Prop:=o.cls= .type "list_iterator"∧o.data= .fields #[.ref l,.int i 0]
theorem stp_list (hh:A.handled=none) (I l:zV) (vs:List zY):Stp w A (.ref I) vs.length (fun h=>Ls h l vs) (fun i own=>∃ o,own=[(I,o)]∧liob l i o) (fun i v=>vs[i]? =some v) where
 item:=by
  rintro i h₀ L h m news own σ t Q E hi ⟨o,rfl,ho⟩ hl W k;obtain ⟨v,hv⟩:∃ v,vs[i]? =some v:=⟨vs[i],by simp [hi]⟩;refine wpAny_pyNext_list_item (s:=S σ h t) (x:=v) ⟨o,W.get (.head _),ho⟩ hl (by simpa using hv) fun h' hit hs=>?_;obtain ⟨o',ho',hd'⟩:=hit;exact k _ v h' _ ⟨o',rfl,hd'⟩ hv (W.upd hs ho')
 done:=by
  rintro h₀ L h m news own σ t Q E ⟨o,rfl,ho⟩ hl W k;exact wpAny_pyNext_list_end (s:=S σ h t) hh ⟨o,W.get (.head _),ho⟩ hl (by simp) fun h' hs=>k h' _ (W.off hs)
theorem p_list {l:zV}{vs:List zY}{Q:VP}(W:Wk h₀ L h m news) (hl:Ls h l vs) (k:∀ I o h',liob l 0 o→Wk h₀ L h' m ((I,o)::news)→Kp h h'→Q (.ref I) (S σ h' t)):zZ (zW PW w) A (pyIter (.ref l)) Q E (S σ h t):=
 wpAny_pyIter_list (s:=S σ h t) hl (k _ _ _ ⟨rfl,rfl⟩ (W.new _ rfl) (Kp.push _ _))
theorem ri_1 {n:Int}{tk:Tok}{K:VP}(W:Wk h₀ L h m news) (hn:-1000≤n∧n≤1000)
 (k:∀ I h' t',Wk h₀ L h' m ((I,riob 0 n.toNat)::news)→Kp h h'→K (.ref I) (S σ h' t')):
 zZ (zW PW w) A (call (.type "range") [.int n tk]) (fun xv s₁=>zZ (zW PW w) A (pyIter xv) K E s₁) E (S σ h t):=by
 refine call_range_1 ?_;refine wpAny_pyIter_range (IsRange.new ..) (small_one (by decide) (by decide) (by lia) (by lia)) ?_;have hsz:Builtin.Range.rangeSize 0 n 1=(n.toNat:Int):=by rw [rangeSize_one];split <;> (rename_i z0;revert z0;k_in)
 rw [hsz];exact k _ _ _ (((W.new _ rfl).drop (yC ..)).new _ rfl) ((Kp.push _ _).trans (Kp.push _ _))
theorem ri_2 {a b:Int}{tk tk':Tok}{K:VP}(W:Wk h₀ L h m news) (ha:-1000≤a∧a≤1000) (hb:-1000≤b∧b≤1000)
 (k:∀ I h' t',Wk h₀ L h' m ((I,riob a (b - a).toNat)::news)→Kp h h'→K (.ref I) (S σ h' t')):
 zZ (zW PW w) A (call (.type "range") [.int a tk,.int b tk']) (fun xv s₁=>zZ (zW PW w) A (pyIter xv) K E s₁) E (S σ h t):=by
 refine call_range_2 ?_;refine wpAny_pyIter_range (IsRange.new ..) (small_one (by lia) (by lia) (by lia) (by lia)) ?_;have hsz:Builtin.Range.rangeSize a b 1=((b - a).toNat:Int):=by rw [rangeSize_one];split <;> (rename_i z0;revert z0;k_in)
 rw [hsz];exact k _ _ _ (((W.new _ rfl).drop (yC ..)).new _ rfl) ((Kp.push _ _).trans (Kp.push _ _))
theorem x_assign_name {cn cs a ccd cl x pos v} {Q:UP}(W:Wk h₀ L h m news) (k:∀ h' t',Wk h₀ L h' (setm m x v) news→Q () (S σ h' t'))
 (hk:cs.kind= .function) (hx:(envX cn cs L a ccd cl).kindOf x=some .local):zZ (zW PW w) A (assign (.Name x pos) (envX cn cs L a ccd cl) v) Q E (S σ h t):=
 wpAny_assign_Name (s_local W k hk hx)
theorem x_assignK {cn cs a ccd cl x pos v} {Q:UP}(W:Wk h₀ L h m news) (k:∀ h',Wk h₀ L h' (setm m x v) news→Q () (S σ h' t.succ)) (hx:kx cs x .local=true):zZ (zW PW w) A (assign (.Name x pos) (envX cn cs L a ccd cl) v) Q E (S σ h t):=
 wpAny_assign_Name (s_localK W k hx)
end
end
section
theorem Wk.grow {h₀ L h h' m news} (W:Wk h₀ L h m news) (k:Kp h h'):Wk h₀ L h' m news:=
 ⟨let ⟨oL,es,ep,hL,r⟩:=W.fr.ns;⟨⟨oL,es,ep,k _ _ hL,r⟩,fun b o e=>k _ _ (W.fr.keep _ _ e),W.fr.above⟩,fun p hp=>⟨k _ _ (W.nw p hp).1,(W.nw p hp).2⟩,W.nd⟩
theorem Kp.ext {h h':Heap}(x:Heap.ExtBut h.objs.size h h'):Kp h h':=fun b o e=>x b o (Nat.ne_of_lt (zB e)) e
section
variable {w:zT}{A:zU}{E:VP}{σ:zX}{h₀ h:Heap}{t:Nat}{L:zV}{m:NM}{news:Led}
theorem u_items {T:zV}{vs:List zY}{n:Nat}{Q:List zY→zX→Prop}(W:Wk h₀ L h m news) (hh:A.handled=none) (ht:Tp h T vs) (hn:n=vs.length) (k:∀ h',Wk h₀ L h' m news→Kp h h'→Q vs (S σ h' t)):
 zZ (zW PW w) A (unpackItems (.ref T) n none) Q E (S σ h t):=by
 subst hn
 have:=unpackItems_tuple (prog:=PW) (w:=w) (A:=A) (E:=E) (s:=S σ h t) (t:=T) (items:=vs.toArray) (Q:=Q) hh ht (fun h' he=>by
  have:=k h' (W.grow (Kp.ext he)) (Kp.ext he);show Q vs.toArray.toList (S σ h' t)
  simpa using this)
 simpa using this
theorem ai_cons {M:Model}{f:zY→Sem Unit}{ts:List (zY→Sem Unit)}{x:zY}{xs:List zY}{Q:UP}{s:zX}(k:zZ M A (f x) (fun _ s₁=>zZ M A (assignInOrder ts xs) Q E s₁) E s):zZ M A (assignInOrder (f::ts) (x::xs)) Q E s:=
 w_b (w_h k)
theorem ai_nil {M:Model}{Q:UP}{s:zX}(k:Q () s):zZ M A (assignInOrder [] []) Q E s:=w_p k
theorem bn {M:Model}{env:Env}{x:Str}{v:zY}{Q:UP}{s:zX}(k:zZ M A (storeName env x v) Q E s):zZ M A (bindName env x v) Q E s:=wpAny_bindName k
variable {cn:Str}{cs:Scope}{a:zV}{ccd:zY}{cl:List (Str×zV)}
def Sw (σ:zX) (h₀:Heap) (L:zV) (x y z:Str) (Q:FP):VP:=fun v s₁=>
 ∃ h' t' T v1 v2 v3,s₁=S σ h' t'∧v= .ref T∧Tp h' T [v1,v2,v3]∧∃ m' news',Wk h₀ L h' m' news'∧∀ h'' t'',Wk h₀ L h'' (setm (setm (setm m' z v3) y v2) x v1) news'→Q .next (S σ h'' t'')
theorem sw_mk {x y z:Str}{T:zV}{v1 v2 v3:zY}{n:Nat}{Q:FP}(W:Wk h₀ L h m ((T,tob [v1,v2,v3] n)::news)) (k:∀ h'' t'',Wk h₀ L h'' (setm (setm (setm m z v3) y v2) x v1) news→Q .next (S σ h'' t'')):
 Sw σ h₀ L x y z Q (.ref T) (S σ h t):=⟨h,t,T,v1,v2,v3,rfl,rfl,W.tp (.head _),m,news,W.drop (yC ..),k⟩
theorem x_swap3 {k' tpos value pos} {x y z:Str}{p1 p2 p3} {Q:FP}
 (k:zZ (zW PW w) A (eval value (envX cn cs L a ccd cl)) (Sw σ h₀ L x y z Q) E (S σ h t))
 (Z:Site w A L h₀)
 (hs:swapsWithSole [.Tuple [.Name x p1,.Name y p2,.Name z p3] k' tpos] value pos.line (envX cn cs L a ccd cl)=pure false)
 (hw:swappedStores [.Tuple [.Name x p1,.Name y p2,.Name z p3] k' tpos] value (envX cn cs L a ccd cl)=pure (some [x,y,z]))
 (hk:cs.kind= .function) (hx:(envX cn cs L a ccd cl).kindOf x=some .local) (hy:(envX cn cs L a ccd cl).kindOf y=some .local) (hz:(envX cn cs L a ccd cl).kindOf z=some .local):
 zZ (zW PW w) A (exec (.Assign [.Tuple [.Name x p1,.Name y p2,.Name z p3] k' tpos] value pos) (envX cn cs L a ccd cl)) Q E (S σ h t):=by
 refine Assign_Tuple_swapped (w_m k (fun v s₁ h₁=>?_) fun _ _ e=>e) hs hw;obtain ⟨h',t',T,v1,v2,v3,rfl,rfl,ht,m',news',W',kk⟩:=h₁;refine u_items W' Z.hh ht rfl fun h₂ W₂ _=>?_;show zZ _ _ (assignInOrder [fun v=>bindName _ z v,fun v=>bindName _ y v,fun v=>bindName _ x v] [v3,v2,v1]) _ _ _
 exact ai_cons (bn (s_local W₂ (fun h₃ t₃ W₃=>ai_cons (bn (s_local W₃ (fun h₄ t₄ W₄=>ai_cons (bn (s_local W₄ (fun h₅ t₅ W₅=>ai_nil (kk h₅ t₅ W₅)) hk hx))) hk hy))) hk hz))
theorem x_tup {elts k' tpos value pos} {env:Env}{Q:FP}{s:zX}
 (k:zZ (zW PW w) A (eval value env) (fun v s₁=>zZ (zW PW w) A (assign (.Tuple elts k' tpos) env v) (fun _=>Q .next) E s₁) E s)
 (hs:swapsWithSole [.Tuple elts k' tpos] value pos.line env=pure false) (hw:swappedStores [.Tuple elts k' tpos] value env=pure none):
 zZ (zW PW w) A (exec (.Assign [.Tuple elts k' tpos] value pos) env) Q E s:=Assign_Tuple k hs hw
theorem u_tup3 {k' pos} {x y z:Str}{p1 p2 p3} {T:zV}{v1 v2 v3:zY}{Q:UP}(W:Wk h₀ L h m news) (hh:A.handled=none) (ht:Tp h T [v1,v2,v3])
 (k:∀ h'' t'',Wk h₀ L h'' (setm (setm (setm m x v1) y v2) z v3) news→Q () (S σ h'' t''))
 (hk:cs.kind= .function) (hx:(envX cn cs L a ccd cl).kindOf x=some .local) (hy:(envX cn cs L a ccd cl).kindOf y=some .local) (hz:(envX cn cs L a ccd cl).kindOf z=some .local):
 zZ (zW PW w) A (assign (.Tuple [.Name x p1,.Name y p2,.Name z p3] k' pos) (envX cn cs L a ccd cl) (.ref T)) Q E (S σ h t):=by
 refine assign_Tuple_tuple hh ht (by rfl) (by rfl) fun h₂ he=>?_;have W₂:=W.grow (Kp.ext he);show zZ _ _ (assignInOrder [assign (.Name x p1) _,assign (.Name y p2) _,assign (.Name z p3) _] [v1,v2,v3]) _ _ _
 exact ai_cons (x_assign_name (t:=t) W₂ (fun h₃ t₃ W₃=>ai_cons (x_assign_name W₃ (fun h₄ t₄ W₄=>ai_cons (x_assign_name W₄ (fun h₅ t₅ W₅=>ai_nil (k h₅ t₅ W₅)) hk hz)) hk hy)) hk hx)
theorem u_tup2 {k' pos} {x y:Str}{p1 p2} {T:zV}{v1 v2:zY}{Q:UP}(W:Wk h₀ L h m news) (hh:A.handled=none) (ht:Tp h T [v1,v2])
 (k:∀ h'' t'',Wk h₀ L h'' (setm (setm m x v1) y v2) news→Q () (S σ h'' t''))
 (hk:cs.kind= .function) (hx:(envX cn cs L a ccd cl).kindOf x=some .local) (hy:(envX cn cs L a ccd cl).kindOf y=some .local):
 zZ (zW PW w) A (assign (.Tuple [.Name x p1,.Name y p2] k' pos) (envX cn cs L a ccd cl) (.ref T)) Q E (S σ h t):=by
 refine assign_Tuple_tuple hh ht (by rfl) (by rfl) fun h₂ he=>?_;have W₂:=W.grow (Kp.ext he);show zZ _ _ (assignInOrder [assign (.Name x p1) _,assign (.Name y p2) _] [v1,v2]) _ _ _
 exact ai_cons (x_assign_name (t:=t) W₂ (fun h₃ t₃ W₃=>ai_cons (x_assign_name W₃ (fun h₄ t₄ W₄=>ai_nil (k h₄ t₄ W₄)) hk hy)) hk hx)
end
section
variable {M:Model}{A:zU}{E:VP}{s:zX}{env:Env}
theorem id_eval {e} {Q:VP}(k:zZ M A (eval e env) Q E s):zZ M A (eval e env) Q E s:=k
theorem id_name {x p} {Q:VP}(k:zZ M A (eval (.Name x p) env) Q E s):zZ M A (eval (.Name x p) env) Q E s:=k
theorem id_exec {e} {Q:FP}(k:zZ M A (exec e env) Q E s):zZ M A (exec e env) Q E s:=k
theorem id_true {e wh} {Q:Bool→zX→Prop}(k:zZ M A (isTrue e env wh) Q E s):zZ M A (isTrue e env wh) Q E s:=k
theorem id_call {f a kw} {Q:VP}(k:zZ M A (call f a kw) Q E s):zZ M A (call f a kw) Q E s:=k
theorem id_with {p f a b c} {Q:VP}(k:zZ M A (callWith p f a b c) Q E s):zZ M A (callWith p f a b c) Q E s:=k
theorem id_spl {l} {Q:List zY→zX→Prop}(k:zZ M A (spliced l) Q E s):zZ M A (spliced l) Q E s:=k
theorem id_bin {o a b} {Q:VP}(k:zZ M A (binaryOp o a b) Q E s):zZ M A (binaryOp o a b) Q E s:=k
theorem id_cmp {o a b} {Q:VP}(k:zZ M A (compareOp o a b) Q E s):zZ M A (compareOp o a b) Q E s:=k
theorem id_nx {r f} {Q:FP}(k:Nx M A r env Q E f s):Nx M A r env Q E f s:=k
theorem id_ite {b:Bool}{X Y:Prop}(k:if b=true then X else Y):if b=true then X else Y:=k
theorem id_asg {e v} {Q:UP}(k:zZ M A (assign e env v) Q E s):zZ M A (assign e env v) Q E s:=k
theorem id_sub {a b c d} {Q:VP}(k:zZ M A (subscriptTail a b c d) Q E s):zZ M A (subscriptTail a b c d) Q E s:=k
end
end
section
section
variable {w:zT}{A:zU}{E:VP}{σ:zX}{h₀ h:Heap}{t:Nat}{L:zV}{m:NM}{news:Led}{env:Env}{Q:FP}
theorem Wk.nil (W:Wk h₀ L h m news):Wk h₀ L h m []:=W.drop (List.nil_sublist _)
theorem for_r1 {target body} {b:Int}{tk':Tok}(J:Nat→(NM)→Led→Prop) (W:Wk h₀ L h m news) (hh:A.handled=none) (hb:-1000≤b∧b≤1000)
 (ht:∀ it v,letOwnedTupleGo target it v=pure ()) (j0:J 0 m news)
 (turn:∀ i v m₁ news₁ own₁ h₁ t₁ tk E',i<b.toNat→v= .int i tk→J i m₁ news₁→Wk h₀ L h₁ m₁ (own₁++news₁)→
  zZ (zW PW w) A (assign target env v) (fun _ s₂=>zZ (zW PW w) A (execs body env) (Tn σ h₀ L own₁ (J (i+1)) Q) E' s₂) E' (S σ h₁ t₁))
 (done:∀ h' t' m' news',J b.toNat m' news'→Wk h₀ L h' m' news'→Q .next (S σ h' t')):
 zZ (zW PW w) A (call (.type "range") [.int b tk']) (fun xv s₁=>zZ (zW PW w) A (pyIter xv) (fun it s₂=>codeAny (zW PW w) A (.forLoop target it body [] env) (FR (zW PW w) A env Q E) s₂) E s₁) E (S σ h t):=by
 refine ri_1 W hb fun I h₁ t₁ W₁ _=>?_;refine for_loop (own:=[(I,riob 0 b.toNat)]) J (stp_range hh I 0 b.toNat) (ht _) (fun _ _ _ _ _ _ _=>trivial) j0 (by simp) W₁ ?_ done;rintro i v m₁ news₁ own₁ h₁ t₁ E' hi ⟨tk,rfl⟩ j W';exact turn i _ m₁ news₁ own₁ h₁ t₁ tk E' hi (by simp) j W'
theorem for_list {target body} {l:zV}{vs:List zY}(J:Nat→(NM)→Led→Prop) (W:Wk h₀ L h m news) (hh:A.handled=none) (hl:Ls h l vs)
 (hs:∀ i m' news' own' h',J i m' news'→Wk h₀ L h' m' (own'++news')→Ls h' l vs)
 (ht:∀ it v,letOwnedTupleGo target it v=pure ()) (j0:J 0 m news)
 (turn:∀ i v m₁ news₁ own₁ h₁ t₁ E',i<vs.length→vs[i]? =some v→J i m₁ news₁→Wk h₀ L h₁ m₁ (own₁++news₁)→
  zZ (zW PW w) A (assign target env v) (fun _ s₂=>zZ (zW PW w) A (execs body env) (Tn σ h₀ L own₁ (J (i+1)) Q) E' s₂) E' (S σ h₁ t₁))
 (done:∀ h' t' m' news',J vs.length m' news'→Wk h₀ L h' m' news'→Q .next (S σ h' t')):
 zZ (zW PW w) A (pyIter (.ref l)) (fun it s₂=>codeAny (zW PW w) A (.forLoop target it body [] env) (FR (zW PW w) A env Q E) s₂) E (S σ h t):=by
 refine p_list W hl fun I o h₁ ho W₁ _=>?_;refine for_loop (own:=[(I,o)]) J (stp_list hh I l vs) (ht _) hs j0 ⟨o,rfl,ho⟩ W₁ ?_ done;rintro i v m₁ news₁ own₁ h₁ t₁ E' hi hv j W';exact turn i _ m₁ news₁ own₁ h₁ t₁ E' hi hv j W'
def Lv (σ:zX) (h₀:Heap) (L:zV) (R:(NM)→Led→Prop):zX→Prop:=fun s=>∃ h' t' m' news',s=S σ h' t'∧Wk h₀ L h' m' news'∧R m' news'
def Tw (σ:zX) (h₀:Heap) (L:zV) (J R:(NM)→Led→Prop) (Q:FP):FP:=fun f s₃=>match f with
 | .ret v=>Q (.ret v) s₃
 | .brk=>Lv σ h₀ L R s₃
 |_=>Lv σ h₀ L J s₃
theorem lv {R} (W:Wk h₀ L h m news) (r:R m news):Lv σ h₀ L R (S σ h t):=⟨h,t,m,news,rfl,W,r⟩
theorem tw_next {J R} (W:Wk h₀ L h m news) (r:J m news):Tw σ h₀ L J R Q .next (S σ h t):=lv W r
theorem x_whl {test body pos} (J:Nat→(NM)→Led→Prop) (R:(NM)→Led→Prop) (n:Nat) (j0:J n m news) (W:Wk h₀ L h m news)
 (turn:∀ c m₁ news₁ h₁ t₁ E',J c m₁ news₁→Wk h₀ L h₁ m₁ news₁→zZ (zW PW w) A (isTrue test env (eval test env)) (fun b s₂=>if b=true then zZ (zW PW w) A (execs body env) (Tw σ h₀ L (fun m' news'=>∃ c',c'<c∧J c' m' news') R Q) E' s₂ else Lv σ h₀ L R s₂) E' (S σ h₁ t₁))
 (done:∀ h' t' m' news',R m' news'→Wk h₀ L h' m' news'→Q .next (S σ h' t')):
 zZ (zW PW w) A (exec (.While test body [] pos) env) Q E (S σ h t):=by
 refine x_while J n j0 W fun c m₁ news₁ h₁ t₁ E' j W₁=>w_m (turn c m₁ news₁ h₁ t₁ E' j W₁) (fun b s₂ h₂=>?_) fun _ _ e=>e
 cases b with
 |false=>obtain ⟨h',t',m',news',rfl,W',r⟩:=h₂;exact done _ _ _ _ r W'
 |true=>
  refine w_m h₂ (fun f s₃ h₃=>?_) fun _ _ e=>e
  cases f with
  |ret v=>exact h₃
  |brk=>obtain ⟨h',t',m',news',rfl,W',r⟩:=h₃;exact done _ _ _ _ r W'
  |next=>obtain ⟨h',t',m',news',rfl,W',r⟩:=h₃;exact ⟨h',t',m',news',rfl,W',r⟩
  |cont=>obtain ⟨h',t',m',news',rfl,W',r⟩:=h₃;exact ⟨h',t',m',news',rfl,W',r⟩
theorem ite_tt {X Y:Prop}(k:X):if true=true then X else Y:=k
theorem ite_ff {X Y:Prop}(k:Y):if false=true then X else Y:=k
end
end
section
theorem setItem_list_neg {prog:Program}{w:zT}{A:zU}{E:VP}{s:zX}{l:zV}{items:Array zY}{k:Int}{t:Tok}{v:zY}{Q:UP}(hl:s.heap.IsList l items)
 (h0:k<0) (h1:-(items.size:Int)≤k) (hfit:-(2 ^ 63)≤k)
 (hQ:∀ h',h'=s.heap.update l (Obj.mapSeq (·.setIfInBounds (k+items.size).toNat v))→Heap.SameBut l s.heap h'→Q () { s with heap:=h' }):
 zZ (zW prog w) A (setItem (.ref l) (.int k t) v) Q E s:=by
 obtain ⟨o,ho,hc,ne,hd⟩:=id hl;unfold setItem
 try with_reducible refine w_h ?_
 first|refine w_b (w_p ?_)|skip
 refine w_b (wpAny_sequenceKey hl.typeIs (by decide) ?_)
 refine w_b (yH (name:=zQ "__setitem__") hl.typeIs slot_list_setitem
  (w_c slot_list_setitem hl.typeIs entry_list_setitem ?_ (args_list_setitem _ _ _)))
 show zZ _ _ (Builtin.List.listSubscript? (.int k t) >>=_) _ _ s
 refine w_b (wpAny_listSubscript_int (fitsIndex_neg h0 hfit) ?_);clear hfit;have hidx:=seqIndex_neg h0 h1;have hj:(k+items.size).toNat<items.size:=by (revert h0 h1;k_in)
 generalize hJ:(k+items.size).toNat=J at hidx hj hQ;have hx:items[J]? =some items[J]:=Array.getElem?_eq_getElem hj
 obtain ⟨j,rfl⟩:∃ j:Nat,k=Int.negSucc j:=by
  cases k with
  |ofNat n=>exact absurd h0 (Int.not_lt.mpr (Int.ofNat_nonneg n))
  |negSucc n=>exact ⟨n,rfl⟩
 show zZ _ _ ((Builtin.List.listItems (.ref l) >>=fun xs=>pure ((seqIndex? (Int.negSucc j) xs.size).bind fun i=>xs[i]?.map (i,·))) >>=_) _ _ s
 refine w_b (w_b ?_);show zZ _ _ (seqItems? (.ref l) >>=_) _ _ s
 refine w_b (wpAny_seqItems ho hd (w_p (w_p ?_)));rw [hidx];simp only [Option.bind_some,hx,Option.map_some];show zZ _ _ (setSeqItemAt l J v >>=_) _ _ s
 refine w_b (wpAny_setSeqItemAt ho hd ?_)
 first
  |exact w_b (w_p (w_p ⟨.none,rfl,w_p (hQ _ rfl (l_u ..))⟩))
  |exact w_p ⟨.none,rfl,w_p (hQ _ rfl (l_u ..))⟩
section
variable {w:zT}{A:zU}{E:VP}{σ:zX}{h₀ h:Heap}{t:Nat}{L:zV}{m:NM}{news:Led}{env:Env}
theorem c_meth {M:Model}{o:Expr}{name:Str}{apos pos:Pos}{args:List Expr}{pl:Sem Bool}{Q:VP}{s:zX}
 (k:zZ M A (eval o env) (fun ov s₁=>zZ M A (getMethod ov name pl) (fun fx s₂=>zZ M A (callWith pos fx.1 fx.2 (backTo pos (zR args env)) []) Q E s₂) E s₁) E s)
 (he:eval (.Call (.Attribute o name apos) args [] pos) env=(do
  let ov ← eval o env
  standAt apos.atName
  let (f,first) ← holding [ov] (getMethod ov name pl)
  callWith pos f first (backTo pos (zR args env)) [])):zZ M A (eval (.Call (.Attribute o name apos) args [] pos) env) Q E s:=MethodCall_ k he
theorem nodict_of {h:Heap}{a:zV}{o:Obj}(e:h.get? a=some o) (hd:o.dict=none):h.NoDictAt (.ref a):=⟨o,e,hd⟩
theorem g_list {name:Str}{id:String}{pl:Sem Bool}{l:zV}{vs:List zY}{n:Nat}{Q:zY×List zY→zX→Prop}(slot:Slot "list" name id)
 (hty:typeOf (.builtin id)=pure (.type "method_descriptor")) (ho:h.get? l=some (lob vs n)) (k:Q (.builtin id,[.ref l]) (S σ h t)):
 zZ (zW PW w) A (getMethod (.ref l) name pl) Q E (S σ h t):=
 getMethod_list_of slot hty (items:=vs.toArray) (s:=S σ h t) ⟨_,ho,rfl,n,rfl⟩ (nodict_of ho rfl) k
theorem g_append {pl:Sem Bool}{l:zV}{vs:List zY}{n:Nat}{Q:zY×List zY→zX→Prop}(W:Wk h₀ L h m news) (hm:(l,lob vs n)∈news) (k:Q (.builtin "list.append",[.ref l]) (S σ h t)):
 zZ (zW PW w) A (getMethod (.ref l) (zQ "append") pl) Q E (S σ h t):=
 Calls.getMethod_list_append (s:=S σ h t) (W.get hm) rfl rfl k
theorem m_append {l:zV}{vs:List zY}{n:Nat}{x:zY}{Q:VP}(W:Wk h₀ L h m ((l,lob vs n)::news)) (hz:vs.length≤1000)
 (k:∀ h' n',Wk h₀ L h' m ((l,lob (vs++[x]) n')::news)→Q .none (S σ h' t)):zZ (zW PW w) A (call (.builtin "list.append") [.ref l,x]) Q E (S σ h t):=by
 refine append_at (s:=S σ h t) (W.get (.head _)) (fun h' hs ho=>k h' (n+1) (W.upd hs (by rw [ho];simp [lob]))) ?_;rw [zI,yF];lia
theorem r_neg {M:Model}{x pos} {Q:VP}{s:zX}(k:zZ M A (eval x env) (fun v s₁=>zZ M A (unaryOp .USub v) Q E s₁) E s):zZ M A (eval (.UnaryOp .USub x pos) env) Q E s:=UnaryOp_ k
theorem o_negE {a ta} {Q:VP}(k:Q (.int (-a) t) (S σ h t.succ)):zZ (zW PW w) A (unaryOp .USub (.int a ta)) Q E (S σ h t):=neg_int k
theorem t_neg {value slice:Expr}{l:zV}{vs:List zY}{i:Int}{u:Tok}{v:zY}{Q:VP}(hl:Ls h l vs) (h0:i<0) (h1:-(vs.length:Int)≤i) (hz:vs.length≤1000) (hx:vs[(i+vs.length).toNat]? =some v) (k:Q v (S σ h t))
 (hs:subscripted slice false (.ref l) (.int i u)=operate [.ref l,.int i u] (getItem (.ref l) (.int i u))):zZ (zW PW w) A (subscriptTail value slice (.ref l) (.int i u)) Q E (S σ h t):=
 have hl':(S σ h t).heap.IsList l vs.toArray:=hl
 tail_any hl'.typeIs slot_list_getitem.lookup (wpAny_getItem_list_neg hl' h0 (by simpa using h1) (by lia) (by simpa using hx) k) hs
theorem x_asub {M:Model}{o i pos' value pos} {Q:FP}{s:zX}
 (k:zZ M A (eval value env) (fun v s₁=>zZ M A (eval o env) (fun ov s₂=>zZ M A (eval i env) (fun iv s₃=>zZ M A (setItem ov iv v) (fun _=>Q .next) E s₃) E s₂) E s₁) E s)
 (hs:swapsWith value (some (.Subscript o i pos')) pos.line env=pure false):zZ M A (exec (.Assign [.Subscript o i pos'] value pos) env) Q E s:=wpAny_Assign_Subscript k hs
theorem m_setneg {l:zV}{vs:List zY}{n:Nat}{i:Int}{u:Tok}{v:zY}{Q:UP}(W:Wk h₀ L h m ((l,lob vs n)::news)) (h0:i<0) (h1:-(vs.length:Int)≤i) (hz:vs.length≤1000)
 (k:∀ h' n',Wk h₀ L h' m ((l,lob (vs.set (i+vs.length).toNat v) n')::news)→Q () (S σ h' t)):zZ (zW PW w) A (setItem (.ref l) (.int i u) v) Q E (S σ h t):=by
 have ho:=W.get (.head _);refine setItem_list_neg (s:=S σ h t) (items:=vs.toArray) ⟨_,ho,rfl,n,rfl⟩ h0 (by simpa using h1) (by lia) fun h' e hs=>k h' n (W.upd hs ?_)
 rw [e];have:=yL (Obj.mapSeq (·.setIfInBounds (i+vs.toArray.size).toNat v)) ho rfl;refine Eq.trans this ?_;simp [lob,Obj.mapSeq]
def SlF (w:zT) (A:zU) (E:VP) (value slice:Expr) (Q:VP) (lo hi:Option zY) (o:zY) (s:zX):Prop:=
 zZ (zW PW w) A (subscriptTail value slice o (.ref s.heap.objs.size)) Q E { s with heap:=s.heap.push { cls:=.type "slice",data:=.fields #[lo.getD .none,hi.getD .none,.none] } }
theorem r_from {value e p pos} {Q:VP}{s:zX}(k:zZ (zW PW w) A (eval value env) (fun o s₁=>zZ (zW PW w) A (eval e env) (fun i s₂=>SlF w A E value (.Slice (some e) none none p) Q (some i) none o s₂) E s₁) E s):
 zZ (zW PW w) A (eval (.Subscript value (.Slice (some e) none none p) pos) env) Q E s:=
 Subscript_ (w_m k (fun o s₁ h₁=>wpAny_Slice (w_m h₁ (fun i s₂ h₂=>w_p (w_p h₂)) fun _ _ x=>x)) fun _ _ x=>x)
theorem r_upto {value e p pos} {Q:VP}{s:zX}(k:zZ (zW PW w) A (eval value env) (fun o s₁=>zZ (zW PW w) A (eval e env) (fun i s₂=>SlF w A E value (.Slice none (some e) none p) Q none (some i) o s₂) E s₁) E s):
 zZ (zW PW w) A (eval (.Subscript value (.Slice none (some e) none p) pos) env) Q E s:=
 Subscript_ (w_m k (fun o s₁ h₁=>wpAny_Slice (w_p (w_m h₁ (fun i s₂ h₂=>w_p h₂) fun _ _ x=>x))) fun _ _ x=>x)
theorem sl_from {value slice:Expr}{l:zV}{vs:List zY}{i:Int}{u:Tok}{Q:VP}(W:Wk h₀ L h m news) (hl:Ls h l vs) (h0:0≤i) (hz:vs.length≤1000)
 (k:∀ a h',Wk h₀ L h' m ((a,lob (vs.drop i.toNat) 0)::news)→Kp h h'→Q (.ref a) (S σ h' t))
 (hs:subscripted slice false (.ref l) (.ref h.objs.size)=operate [.ref h.objs.size,.ref l] (getItem (.ref l) (.ref h.objs.size)))
 (ht:∀ r,letTemporaryGo value (.ref l) r=pure ()):SlF w A E value slice Q (some (.int i u)) none (.ref l) (S σ h t):=by
 have hl':(S σ h t).heap.IsList l vs.toArray:=hl;unfold SlF
 refine subscriptTail_ops (Heap.IsList.typeIs (s:={ S σ h t with heap:=h.push { cls:=.type "slice",data:=.fields #[.int i u,.none,.none] } }) (hl'.push _)) list_getitem_lookup
  (wpAny_getItem_list_slice (hl'.push _) (Heap.IsSliceOf.new ..) (.int i u) .none .none (by simp) ?_ (by rw [zI,yF];lia)) hs ht
 have e:slicePick vs.toArray (some i) none none=(vs.drop i.toNat).toArray:=by
  have ei:i=(i.toNat:Int):=by (revert h0;k_in)
  rw [ei,slicePick_from' vs.toArray i.toNat,← ei]
 have:=k (h.objs.size+1) _ (by
  have W1:=((W.new { cls:=.type "slice",data:=.fields #[.int i u,.none,.none] } rfl).drop (yC ..)).new (lob (vs.drop i.toNat) 0) rfl;rw [Heap.size_push] at W1
  exact W1) ((Kp.push _ _).trans (Kp.push _ _))
 rw [e];show Q (.ref (h.push _).objs.size) _
 rw [Heap.size_push];exact this
theorem sl_upto {value slice:Expr}{l:zV}{vs:List zY}{i:Int}{u:Tok}{Q:VP}(W:Wk h₀ L h m news) (hl:Ls h l vs) (h0:0≤i) (hz:vs.length≤1000)
 (k:∀ a h',Wk h₀ L h' m ((a,lob (vs.take i.toNat) 0)::news)→Kp h h'→Q (.ref a) (S σ h' t))
 (hs:subscripted slice false (.ref l) (.ref h.objs.size)=operate [.ref h.objs.size,.ref l] (getItem (.ref l) (.ref h.objs.size)))
 (ht:∀ r,letTemporaryGo value (.ref l) r=pure ()):SlF w A E value slice Q none (some (.int i u)) (.ref l) (S σ h t):=by
 have hl':(S σ h t).heap.IsList l vs.toArray:=hl;unfold SlF
 refine subscriptTail_ops (Heap.IsList.typeIs (s:={ S σ h t with heap:=h.push { cls:=.type "slice",data:=.fields #[.none,.int i u,.none] } }) (hl'.push _)) list_getitem_lookup
  (wpAny_getItem_list_slice (hl'.push _) (Heap.IsSliceOf.new ..) .none (.int i u) .none (by simp) ?_ (by rw [zI,yF];lia)) hs ht
 have e:slicePick vs.toArray none (some i) none=(vs.take i.toNat).toArray:=by
  have ei:i=(i.toNat:Int):=by (revert h0;k_in)
  rw [ei,slicePick_upto' vs.toArray i.toNat,← ei]
 have:=k (h.objs.size+1) _ (by
  have W1:=((W.new { cls:=.type "slice",data:=.fields #[.none,.int i u,.none] } rfl).drop (yC ..)).new (lob (vs.take i.toNat) 0) rfl;rw [Heap.size_push] at W1
  exact W1) ((Kp.push _ _).trans (Kp.push _ _))
 rw [e];show Q (.ref (h.push _).objs.size) _
 rw [Heap.size_push];exact this
theorem o_addl {l b:zV}{vs ws:List zY}{Q:VP}(W:Wk h₀ L h m news) (hl:Ls h l vs) (hb:Ls h b ws) (hz:vs.length+ws.length≤1000)
 (k:∀ a h',Wk h₀ L h' m ((a,lob (vs++ws) 0)::news)→Kp h h'→Q (.ref a) (S σ h' t)):zZ (zW PW w) A (binaryOp .Add (.ref l) (.ref b)) Q E (S σ h t):=by
 obtain ⟨⟨cls,dd,data,sl⟩,ho,hc,n,hd⟩:=id hl;obtain ⟨⟨cls2,dd2,data2,sl2⟩,ho2,hc2,n2,hd2⟩:=id hb;simp only at hc hd hc2 hd2;subst hc hd hc2 hd2;have e:vs.toArray++ws.toArray=(vs++ws).toArray:=by simp
 refine concat_meets (s:=S σ h t) ⟨_,ho,rfl⟩ ⟨_,ho2,rfl⟩ noFill_list_add seq_list_add PySem.F.slot_list_add PySem.F.entry_list_add (PySem.F.args_list_add_2 _ _) (list_addW l b vs.toArray ws.toArray n n2 dd dd2 sl sl2 (by rw [zI,zI,yF];lia)) ⟨ho,ho2,?_⟩;rw [e];exact k _ _ (W.new (lob (vs++ws) 0) rfl) (Kp.push _ _)
theorem IntsL.take {vs ns} (x:IntsL vs ns) (k:Nat):IntsL (vs.take k) (ns.take k):=by
 refine ⟨by simp [x.1],fun j n e=>?_⟩;by_cases hj:j<k
 · rw [List.getElem?_take_of_lt hj] at e ⊢;exact x.2 j n e
 · rw [List.getElem?_eq_none (by rw [yP];(revert hj;k_in))] at e;cases e
theorem IntsL.drop {vs ns} (x:IntsL vs ns) (k:Nat):IntsL (vs.drop k) (ns.drop k):=by
 refine ⟨by simp [x.1],fun j n e=>?_⟩;rw [List.getElem?_drop] at e ⊢;exact x.2 _ n e
theorem id_unr {M:Model}{s:zX}{o v} {Q:VP}(k:zZ M A (unaryOp o v) Q E s):zZ M A (unaryOp o v) Q E s:=k
theorem id_gm {M:Model}{s:zX}{o n p} {Q:zY×List zY→zX→Prop}(k:zZ M A (getMethod o n p) Q E s):zZ M A (getMethod o n p) Q E s:=k
end
end
section
section
variable {w:zT}{A:zU}{E:VP}{σ:zX}{h₀ h:Heap}{t:Nat}{L:zV}{m:NM}{news:Led}{env:Env}
theorem t_t0 {value slice:Expr}{T:zV}{v0:zY}{r:List zY}{u:Tok}{Q:VP}(hl:Tp h T (v0::r)) (k:Q v0 (S σ h t))
 (hs:subscripted slice false (.ref T) (.int 0 u)=operate [.ref T,.int 0 u] (getItem (.ref T) (.int 0 u))):zZ (zW PW w) A (subscriptTail value slice (.ref T) (.int 0 u)) Q E (S σ h t):=
 t_tup hl (by decide) (by decide) (j:=0) (by unfold seqIndex?;simp) (by rfl) k hs
theorem t_t1 {value slice:Expr}{T:zV}{v0 v1:zY}{r:List zY}{u:Tok}{Q:VP}(hl:Tp h T (v0::v1::r)) (k:Q v1 (S σ h t))
 (hs:subscripted slice false (.ref T) (.int 1 u)=operate [.ref T,.int 1 u] (getItem (.ref T) (.int 1 u))):zZ (zW PW w) A (subscriptTail value slice (.ref T) (.int 1 u)) Q E (S σ h t):=
 t_tup hl (by decide) (by decide) (j:=1) (by unfold seqIndex?;simp;k_in) (by rfl) k hs
theorem t_t2 {value slice:Expr}{T:zV}{v0 v1 v2:zY}{r:List zY}{u:Tok}{Q:VP}(hl:Tp h T (v0::v1::v2::r)) (k:Q v2 (S σ h t))
 (hs:subscripted slice false (.ref T) (.int 2 u)=operate [.ref T,.int 2 u] (getItem (.ref T) (.int 2 u))):zZ (zW PW w) A (subscriptTail value slice (.ref T) (.int 2 u)) Q E (S σ h t):=
 t_tup hl (by decide) (by decide) (j:=2) (by unfold seqIndex?;simp;k_in) (by rfl) k hs
theorem o_nel {a b:zV}{vs ws:List zY}{Q:VP}(hl:Ls h a vs) (hb:Ls h b ws) (hu:A.units<cLine) (hz:vs.length≠ws.length) (k:Q (.bool true) (S σ h t)):
 zZ (zW PW w) A (compareOp .NotEq (.ref a) (.ref b)) Q E (S σ h t):=
 SeqAt.RcNeAt.lists_lengths (s:=S σ h t) (l:=a) (b:=b) hl hb (by simpa using hz) hu PW w E Q k
theorem o_nel0 {a b:zV}{Q:VP}(hl:Ls h a []) (hb:Ls h b []) (hu:A.units<cLine) (k:Q (.bool false) (S σ h t)):
 zZ (zW PW w) A (compareOp .NotEq (.ref a) (.ref b)) Q E (S σ h t):=by
 have:=SeqAt.RcNeAt.lists (A:=A) (s:=S σ h t) (l:=a) (b:=b) (e:=fun _=>true) hl hb rfl hu (by intro j h1;simp at h1) PW w E Q (by simpa using k);exact this
end
end
section
section
variable {w:zT}{A:zU}{E:VP}{σ:zX}{h₀ h:Heap}{t:Nat}{L:zV}{m:NM}{own news:Led}{env:Env}
 {Q:FP}
theorem for_loop2 {target it body} {n:Nat}{Sd:Heap→Prop}{io:Nat→Led→Prop}{val:Nat→zY→Prop}(J:Nat→(NM)→Led→Prop)
 (T:Stp w A it n Sd io val)
 (ht:∀ i v own₁ news₁ h₁ t₁ m₁ (Q':UP) E',val i v→io (i+1) own₁→Wk h₀ L h₁ m₁ (own₁++news₁)→(∀ own₂ h₂,io (i+1) own₂→Wk h₀ L h₂ m₁ (own₂++news₁)→Q' () (S σ h₂ t₁))→zZ (zW PW w) A (letOwnedTupleGo target it v) Q' E' (S σ h₁ t₁))
 (hs:∀ i m' news' own' h',J i m' news'→Wk h₀ L h' m' (own'++news')→Sd h') (j0:J 0 m news) (i0:io 0 own) (W:Wk h₀ L h m (own++news))
 (turn:∀ i v m₁ news₁ own₁ h₁ t₁ E',i<n→val i v→J i m₁ news₁→Wk h₀ L h₁ m₁ (own₁++news₁)→
  zZ (zW PW w) A (assign target env v) (fun _ s₂=>zZ (zW PW w) A (execs body env) (Tn σ h₀ L own₁ (J (i+1)) Q) E' s₂) E' (S σ h₁ t₁))
 (done:∀ h' t' m' news',J n m' news'→Wk h₀ L h' m' news'→Q .next (S σ h' t')):
 codeAny (zW PW w) A (.forLoop target it body [] env) (FR (zW PW w) A env Q E) (S σ h t):=by
 refine codeAny_forLoop_any (fun c s'=>∃ i h' t' m' news' own',s'=S σ h' t'∧i+c=n∧io i own'∧J i m' news'∧Wk h₀ L h' m' (own'++news')) ?_ n ⟨0,h,t,m,news,own,rfl,by k_in,i0,j0,W⟩;rintro c s' ⟨i,h',t',m',news',own',rfl,hc,hio,hJ,W'⟩;by_cases hi:i<n
 · refine T.item hi hio (hs _ _ _ _ _ hJ W') W' fun own₁ v h₁ t₁ hio' hv W₁=>?_;refine ht i v own₁ news' h₁ t₁ m' _ _ hv hio' W₁ fun own₂ h₂ hio₂ W₂=>?_;refine w_m (turn i v m' news' own₂ h₂ t₁ _ hi hv hJ W₂) (fun _ s₂ h₂=>w_m h₂ (fun f s₃ h₃=>?_) fun _ _ e=>e) fun _ _ e=>e
   cases f with
   |ret v=>exact h₃
   |brk=>exact h₃
   |next=>obtain ⟨h₄,t₄,m₄,news₄,e,W₄,j₄⟩:=h₃;exact ⟨c - 1,by revert hc hi;k_in,i+1,h₄,t₄,m₄,news₄,own₂,e,by revert hc hi;k_in,hio₂,j₄,W₄⟩
   |cont=>obtain ⟨h₄,t₄,m₄,news₄,e,W₄,j₄⟩:=h₃;exact ⟨c - 1,by revert hc hi;k_in,i+1,h₄,t₄,m₄,news₄,own₂,e,by revert hc hi;k_in,hio₂,j₄,W₄⟩
 · have hi':i=n:=by (revert hc hi;k_in)
   subst hi';refine T.done hio (hs _ _ _ _ _ hJ W') W' fun h₁ t₁ W₁=>?_;exact wpAny_execs_nil (done h₁ t₁ m' news' hJ W₁)
theorem own_list {elts:List Expr}{x1} {pos:Pos}{I l:zV}{i:Nat}{o:Obj}{v:zY}{Q:UP}(ho:h.get? I=some o) (hit:liob l i o) (hQ:Q () (S σ h t)):
 zZ (zW PW w) A (letOwnedTupleGo (.Tuple elts x1 pos) (.ref I) v) Q E (S σ h t):=by
 cases v
 case ref T=>exact wpAny_letOwnedTupleGo_listiter (s:=S σ h t) (l:=l) (i:=i) ⟨o,ho,hit⟩ hQ
 all_goals exact w_p hQ
theorem for_listT {elts:List Expr}{x1} {pos:Pos}{body} {l:zV}{vs:List zY}(J:Nat→(NM)→Led→Prop) (W:Wk h₀ L h m news) (hh:A.handled=none) (hl:Ls h l vs)
 (hs:∀ i m' news' own' h',J i m' news'→Wk h₀ L h' m' (own'++news')→Ls h' l vs) (j0:J 0 m news)
 (turn:∀ i v m₁ news₁ own₁ h₁ t₁ E',i<vs.length→vs[i]? =some v→J i m₁ news₁→Wk h₀ L h₁ m₁ (own₁++news₁)→
  zZ (zW PW w) A (assign (.Tuple elts x1 pos) env v) (fun _ s₂=>zZ (zW PW w) A (execs body env) (Tn σ h₀ L own₁ (J (i+1)) Q) E' s₂) E' (S σ h₁ t₁))
 (done:∀ h' t' m' news',J vs.length m' news'→Wk h₀ L h' m' news'→Q .next (S σ h' t')):
 zZ (zW PW w) A (pyIter (.ref l)) (fun it s₂=>codeAny (zW PW w) A (.forLoop (.Tuple elts x1 pos) it body [] env) (FR (zW PW w) A env Q E) s₂) E (S σ h t):=by
 refine p_list W hl fun I o h₁ ho W₁ _=>?_;refine for_loop2 (own:=[(I,o)]) J (stp_list hh I l vs) ?_ hs j0 ⟨o,rfl,ho⟩ W₁ ?_ done
 · rintro i v own₁ news₁ h₁ t₁ m₁ Q' E' - ⟨o',rfl,ho'⟩ W' k;exact own_list (W'.get (.head _)) ho' (k _ _ ⟨o',rfl,ho'⟩ W')
 · rintro i v m₁ news₁ own₁ h₁ t₁ E' hi hv j W';exact turn i _ m₁ news₁ own₁ h₁ t₁ E' hi hv j W'
end
end
section
structure EX (cs:Scope) where
 mk::
 (w:zT) (A:zU) (E:VP) (σ:zX) (h₀ h:Heap) (L:zV) (m:NM) (news:Led) (cn:Str) (a:zV) (cd:zY) (cl:List (Str×zV)) (W:Wk h₀ L h m news)
def EV {cs:Scope}(X:EX cs) (t:Nat) (e:Expr) (v:zY) (t':Nat):Prop:=
 ∀ Q:VP,Q v (S X.σ X.h t')→zZ (zW PW X.w) X.A (eval e (envX X.cn cs X.L X.a X.cd X.cl)) Q X.E (S X.σ X.h t)
def EVs {cs:Scope}(X:EX cs) (t:Nat) (es:List Expr) (vs:List zY) (t':Nat):Prop:=
 ∀ (pos:Pos) (Q:List zY→zX→Prop),Q vs (S X.σ X.h t')→zZ (zW PW X.w) X.A (spliced (backTo pos (zR es (envX X.cn cs X.L X.a X.cd X.cl)))) Q X.E (S X.σ X.h t)
set_option backward.match.sparseCases false in
noncomputable def unstar:Expr→Bool
 | .Starred .. =>false
 |_=>true
theorem unstar_each {e:Expr}(h:unstar e=true) (rest:List Expr) (env:Env):zR (e::rest) env=(false,eval e env)::zR rest env:=by
 cases e <;> first|rfl|cases h
section
variable {cs:Scope}{X:EX cs}{t t1 t2:Nat}
theorem ev_name {x pos v} (hv:X.m x=some v) (hx:kx cs x .local=true):EV X t (.Name x pos) v t:=fun _ k=>r_localK X.W hv k hx
theorem ev_int {i kk pos}:EV X t (.Constant (.int i) kk pos) (.int i t) t.succ:=fun _ k=>r_intE k
theorem ev_str {i kk pos}:EV X t (.Constant (.str i) kk pos) (.str i t) t.succ:=fun _ k=>r_strE k
theorem ev_none {kk pos}:EV X t (.Constant .none kk pos) .none t:=fun _ k=>r_none k
theorem ev_bool {i kk pos}:EV X t (.Constant (.bool i) kk pos) (.bool i) t:=fun _ k=>r_bool k
theorem ev_add {l r pos a b ta tb} (hl:EV X t l (.int a ta) t1) (hr:EV X t1 r (.int b tb) t2):EV X t (.BinOp l .Add r pos) (.int (a+b) t2) t2.succ:=fun _ k=>r_bin (hl _ (hr _ (o_addE k)))
theorem ev_sub {l r pos a b ta tb} (hl:EV X t l (.int a ta) t1) (hr:EV X t1 r (.int b tb) t2):EV X t (.BinOp l .Sub r pos) (.int (a - b) t2) t2.succ:=fun _ k=>r_bin (hl _ (hr _ (o_subE k)))
theorem evs_nil:EVs X t [] [] t:=fun _ _ k=>a_nil k
theorem evs_cons {e es v vs} (hn:unstar e=true) (h:EV X t e v t1) (hs:EVs X t1 es vs t2):EVs X t (e::es) (v::vs) t2:=fun pos Q k=>a_cons (unstar_each hn _ _) (h _ (hs pos _ k))
end
section
variable {w:zT}{A:zU}{E:VP}{σ:zX}{h₀ h:Heap}{t t1 t2:Nat}{L:zV}{m:NM}{news:Led}{cn:Str}{cs:Scope}{a:zV}{cd:zY}{cl:List (Str×zV)}
theorem evQ {e v} {Q:VP}(W:Wk h₀ L h m news) (hv:EV (EX.mk (cs:=cs) w A E σ h₀ h L m news cn a cd cl W) t e v t1) (k:Q v (S σ h t1)):zZ (zW PW w) A (eval e (envX cn cs L a cd cl)) Q E (S σ h t):=hv Q k
theorem evsQ {pos es vs} {Q:List zY→zX→Prop}(W:Wk h₀ L h m news) (hv:EVs (EX.mk (cs:=cs) w A E σ h₀ h L m news cn a cd cl W) t es vs t1) (k:Q vs (S σ h t1)):zZ (zW PW w) A (spliced (backTo pos (zR es (envX cn cs L a cd cl)))) Q E (S σ h t):=hv pos Q k
theorem asgV {x pos' value pos v} {Q:FP}(W:Wk h₀ L h m news) (hv:EV (EX.mk (cs:=cs) w A E σ h₀ h L m news cn a cd cl W) t value v t1) (hs:swapsWith value (some (.Name x pos')) pos.line (envX cn cs L a cd cl)=pure false)
 (k:∀ h',Wk h₀ L h' (setm m x v) news→Q .next (S σ h' t1.succ)) (hx:kx cs x .local=true):zZ (zW PW w) A (exec (.Assign [.Name x pos'] value pos) (envX cn cs L a cd cl)) Q E (S σ h t):=x_asg (hv _ (s_localK W k hx)) hs
theorem ct_lt {l r pos whole x y tx ty} {Q:Bool→zX→Prop}(W:Wk h₀ L h m news) (hl:EV (EX.mk (cs:=cs) w A E σ h₀ h L m news cn a cd cl W) t l (.int x tx) t1) (hr:EV (EX.mk (cs:=cs) w A E σ h₀ h L m news cn a cd cl W) t1 r (.int y ty) t2) (hm:behindInMarks .Lt r=false) (k:Q (decide (x<y)) (S σ h t2)):
 zZ (zW PW w) A (isTrue (.Compare l [.Lt] [r] pos) (envX cn cs L a cd cl) whole) Q E (S σ h t):=i_cmp hm (hl _ (hr _ (o_lt (r_tb k))))
theorem ct_gt {l r pos whole x y tx ty} {Q:Bool→zX→Prop}(W:Wk h₀ L h m news) (hl:EV (EX.mk (cs:=cs) w A E σ h₀ h L m news cn a cd cl W) t l (.int x tx) t1) (hr:EV (EX.mk (cs:=cs) w A E σ h₀ h L m news cn a cd cl W) t1 r (.int y ty) t2) (hm:behindInMarks .Gt r=false) (k:Q (decide (y<x)) (S σ h t2)):
 zZ (zW PW w) A (isTrue (.Compare l [.Gt] [r] pos) (envX cn cs L a cd cl) whole) Q E (S σ h t):=i_cmp hm (hl _ (hr _ (o_gt (r_tb k))))
theorem ct_ge {l r pos whole x y tx ty} {Q:Bool→zX→Prop}(W:Wk h₀ L h m news) (hl:EV (EX.mk (cs:=cs) w A E σ h₀ h L m news cn a cd cl W) t l (.int x tx) t1) (hr:EV (EX.mk (cs:=cs) w A E σ h₀ h L m news cn a cd cl W) t1 r (.int y ty) t2) (hm:behindInMarks .GtE r=false) (k:Q (decide (y≤x)) (S σ h t2)):
 zZ (zW PW w) A (isTrue (.Compare l [.GtE] [r] pos) (envX cn cs L a cd cl) whole) Q E (S σ h t):=i_cmp hm (hl _ (hr _ (o_ge (r_tb k))))
theorem ct_eq {l r pos whole x y tx ty} {Q:Bool→zX→Prop}(W:Wk h₀ L h m news) (hl:EV (EX.mk (cs:=cs) w A E σ h₀ h L m news cn a cd cl W) t l (.int x tx) t1) (hr:EV (EX.mk (cs:=cs) w A E σ h₀ h L m news cn a cd cl W) t1 r (.int y ty) t2) (hm:behindInMarks .Eq r=false) (k:Q (decide (x=y)) (S σ h t2)):
 zZ (zW PW w) A (isTrue (.Compare l [.Eq] [r] pos) (envX cn cs L a cd cl) whole) Q E (S σ h t):=i_cmp hm (hl _ (hr _ (o_eq (r_tb k))))
end
def CT {cs:Scope}(X:EX cs) (t:Nat) (e:Expr) (b:Bool) (t':Nat):Prop:=
 ∀ (whole:Sem zY) (Q:Bool→zX→Prop),Q b (S X.σ X.h t')→zZ (zW PW X.w) X.A (isTrue e (envX X.cn cs X.L X.a X.cd X.cl) whole) Q X.E (S X.σ X.h t)
section
variable {cs:Scope}{X:EX cs}{t t1 t2:Nat}{l r:Expr}{pos:Pos}{x y:Int}{tx ty:Tok}
theorem cv_lt (hl:EV X t l (.int x tx) t1) (hr:EV X t1 r (.int y ty) t2) (hm:behindInMarks .Lt r=false):CT X t (.Compare l [.Lt] [r] pos) (decide (x<y)) t2:=fun _ _ k=>i_cmp hm (hl _ (hr _ (o_lt (r_tb k))))
theorem cv_eq (hl:EV X t l (.int x tx) t1) (hr:EV X t1 r (.int y ty) t2) (hm:behindInMarks .Eq r=false):CT X t (.Compare l [.Eq] [r] pos) (decide (x=y)) t2:=fun _ _ k=>i_cmp hm (hl _ (hr _ (o_eq (r_tb k))))
end
section
variable {w:zT}{A:zU}{E:VP}{σ:zX}{h₀ h:Heap}{t t1 t2:Nat}{L:zV}{m:NM}{news:Led}{cn:Str}{cs:Scope}{a:zV}{cd:zY}{cl:List (Str×zV)}
theorem cand {x y pos whole} {p q:Prop}{dp:Decidable p}{dq:Decidable q}{Q:Bool→zX→Prop}(W:Wk h₀ L h m news) (hx:CT (EX.mk (cs:=cs) w A E σ h₀ h L m news cn a cd cl W) t x (decide p) t1) (hy:CT (EX.mk (cs:=cs) w A E σ h₀ h L m news cn a cd cl W) t1 y (decide q) t2)
 (k:∀ t',Q (decide (p∧q)) (S σ h t')):zZ (zW PW w) A (isTrue (.BoolOp .And [x,y] pos) (envX cn cs L a cd cl) whole) Q E (S σ h t):=by
 refine i_and (hx _ _ ?_);by_cases hp:p
 · rw [l_t hp,if_pos rfl];refine i_and1 (hy _ _ ?_);have:=k t2;rwa [show decide (p∧q)=decide q from decide_eq_decide.mpr ⟨And.right,fun h=>⟨hp,h⟩⟩] at this
 · rw [l_f hp,if_neg zA];have:=k t1;rwa [l_f fun h=>hp h.1] at this
end
def Jn (σ:zX) (h₀:Heap) (L:zV) (R:(NM)→Led→Prop):FP:=fun f s=>match f with
 | .next=>Lv σ h₀ L R s
 |_=>False
theorem jn {σ:zX}{h₀ h:Heap}{t:Nat}{L:zV}{m:NM}{news:Led}{R} (W:Wk h₀ L h m news) (r:R m news):Jn σ h₀ L R .next (S σ h t):=lv W r
theorem x_join {M:Model}{A:zU}{E:VP}{σ:zX}{h₀:Heap}{L:zV}{env:Env}{s:zX}{st rest} {Q:FP}(R:(NM)→Led→Prop) (k1:zZ M A (exec st env) (Jn σ h₀ L R) E s)
 (k2:∀ h' t' m' news',R m' news'→Wk h₀ L h' m' news'→zZ M A (execs rest env) Q E (S σ h' t')):zZ M A (execs (st::rest) env) Q E s:=
 x_cons (w_m k1 (fun f s' h=>by
  cases f with
  |next=>obtain ⟨h',t',m',news',e,W,r⟩:=h;subst e;exact k2 _ _ _ _ r W
  |_=>exact h.elim) fun _ _ e=>e)
theorem x_joinM {M:Model}{A:zU}{E:VP}{σ:zX}{h₀ h:Heap}{L:zV}{m:NM}{news:Led}{env:Env}{s:zX}{st rest} {Q:FP}(P:Led→Prop) (W:Wk h₀ L h m news) (k1:zZ M A (exec st env) (Jn σ h₀ L fun m' news'=>m'=m∧P news') E s)
 (k2:∀ h' t' news',P news'→Wk h₀ L h' m news'→zZ M A (execs rest env) Q E (S σ h' t')):zZ M A (execs (st::rest) env) Q E s:=
 x_join _ k1 fun h' t' m' news' r W=>k2 h' t' news' r.2 (by rw [← r.1];exact W)
end
section
open PySem.SeqAt
open AutoSeq1 (wpAny_loadPart')
open MeetsSeq
theorem dict_declines {prog:Program}{w:zT}{A:zU}{E:VP}{s:zX}{d:zV}{x:zY}{T:String}{Q:VP}(hd:s.TypeIs (.ref d) "dict") (hx:s.TypeIs x T)
 (hsub:isSubtype (.type T) (.type "dict")=pure false) (h:Q .notImplemented s):zZ (zW prog w) A (call (.builtin "dict.__eq__") [.ref d,x]) Q E s:=by
 refine w_c PySem.F.slot_dict_eq hd PySem.F.entry_dict_eq ?_ (PySem.F.args_dict_eq_2 _ _);show zZ _ _ (Builtin.Dict.dictSlotArgs "__eq__" ⟨[.ref d,x],[]⟩ >>=_) _ _ s
 refine w_b ?_;unfold Builtin.Dict.dictSlotArgs;refine w_b (wpAny_notOrdered_dict hd ?_);show zZ _ _ (pure (Value.ref d,x)) _ _ s
 refine w_p ?_;refine w_b (wpAny_isInstance hx hsub ?_);simp only [Bool.not_false,if_true];exact w_b (wpAny_rule (w_p ⟨_,rfl,h⟩))
theorem int_declines_dict (b:Int) (u:Tok) (l:zV) (c:zY) (es:Array DictEntry) (n:Nat) (dd:Option zV) (sl:Array (Option zY)):
 Meets (Builtin.«int.__eq__» ⟨[.int b u,.ref l],[]⟩) (fun _ R s=>s.heap.get? l=some { cls:=c,dict:=dd,data:=.dict es n,slots:=sl }∧R (.ok (.ret .notImplemented)) s):=
 .of_wp fun prog w A R s h=>by obtain ⟨hp,g,d,tk,os⟩:=s;obtain ⟨hl,h⟩:=h;wp_walk using wpAny_loadPart' hl,wpAny_load hl;exact ⟨_,rfl,h⟩
theorem bool_declines_dict (b:Bool) (l:zV) (c:zY) (es:Array DictEntry) (n:Nat) (dd:Option zV) (sl:Array (Option zY)):
 Meets (Builtin.«int.__eq__» ⟨[.bool b,.ref l],[]⟩) (fun _ R s=>s.heap.get? l=some { cls:=c,dict:=dd,data:=.dict es n,slots:=sl }∧R (.ok (.ret .notImplemented)) s):=
 .of_wp fun prog w A R s h=>by obtain ⟨hp,g,d,tk,os⟩:=s;obtain ⟨hl,h⟩:=h;wp_walk using wpAny_loadPart' hl,wpAny_load hl;exact ⟨_,rfl,h⟩
theorem str_declines_dict (b:Str) (u:Tok) (l:zV) (c:zY) (es:Array DictEntry) (n:Nat) (dd:Option zV) (sl:Array (Option zY)):
 Meets (Builtin.«str.__eq__» ⟨[.str b u,.ref l],[]⟩) (fun _ R s=>s.heap.get? l=some { cls:=c,dict:=dd,data:=.dict es n,slots:=sl }∧R (.ok (.ret .notImplemented)) s):=
 .of_wp fun prog w A R s h=>by obtain ⟨hp,g,d,tk,os⟩:=s;obtain ⟨hl,h⟩:=h;wp_walk using wpAny_loadPart' hl,wpAny_load hl;exact ⟨_,rfl,h⟩
theorem list_declines_dict (l b:zV) (items:Array zY) (es:Array DictEntry) (n n2:Nat) (dd dd2:Option zV) (sl sl2:Array (Option zY)):
 Meets (Builtin.«list.__eq__» ⟨[.ref l,.ref b],[]⟩) (fun _ R s=>s.heap.get? l=some { cls:=.type "list",dict:=dd,data:=.seq items n,slots:=sl }∧s.heap.get? b=some { cls:=.type "dict",dict:=dd2,data:=.dict es n2,slots:=sl2 }∧R (.ok (.ret .notImplemented)) s):=
 .of_wp fun prog w A R s h=>by obtain ⟨hp,g,d,tk,os⟩:=s;obtain ⟨hl,hb,h⟩:=h;have f1:=F.sub_dict_list;wp_walk using wpAny_loadPart' hl,wpAny_loadPart' hb;exact ⟨_,rfl,h⟩
theorem tuple_declines_dict (l b:zV) (items:Array zY) (es:Array DictEntry) (n n2:Nat) (dd dd2:Option zV) (sl sl2:Array (Option zY)):
 Meets (Builtin.«tuple.__eq__» ⟨[.ref l,.ref b],[]⟩) (fun _ R s=>s.heap.get? l=some { cls:=.type "tuple",dict:=dd,data:=.seq items n,slots:=sl }∧s.heap.get? b=some { cls:=.type "dict",dict:=dd2,data:=.dict es n2,slots:=sl2 }∧R (.ok (.ret .notImplemented)) s):=
 .of_wp fun prog w A R s h=>by obtain ⟨hp,g,d,tk,os⟩:=s;obtain ⟨hl,hb,h⟩:=h;have f1:=F.sub_dict_tuple;wp_walk using wpAny_loadPart' hl,wpAny_loadPart' hb;exact ⟨_,rfl,h⟩
def DictAt (h:Heap) (d:zV):Prop:=∃ dd es n sl,h.get? d=some { cls:=.type "dict",dict:=dd,data:=.dict es n,slots:=sl }
section
variable {A:zU}{s:zX}{d:zV}
theorem DictAt.typeIs (x:DictAt s.heap d):s.TypeIs (.ref d) "dict":=let ⟨_,_,_,_,e⟩:=x;⟨_,e,rfl⟩
theorem eqat_l {a:zV}{y:zY}{k:Bool}(hne:(Value.ref a==y)=false) (h:RcAt A s (.ref a) y k):EqAt A s (.ref a) y k:=fun prog w E Q hq=>by
 unfold eqBool;refine w_h ?_;refine yG (fun hab=>by rw [hne] at hab;cases hab) (fun _=>?_);exact w_b (h prog w E _ (wpAny_truthy_bool hq))
theorem eqat_r {b:zV}{x:zY}{k:Bool}(hne:(x==Value.ref b)=false) (h:RcAt A s x (.ref b) k):EqAt A s x (.ref b) k:=fun prog w E Q hq=>by
 unfold eqBool;refine w_h ?_;refine yG (fun hab=>by rw [hne] at hab;cases hab) (fun _=>?_);cases x <;> exact w_b (h prog w E _ (wpAny_truthy_bool hq))
theorem rc_dict_none (x:DictAt s.heap d) (hu:A.units<cLine):RcAt A s (.ref d) .none false:=fun prog w E Q h=>by
 exact rc_eq_decline_or (k:=false) x.typeIs rfl (by decide) F.sub_NoneType_dict F.slot_dict_eq F.slot_NoneType_eq_refl
  (fun _ hq=>dict_declines x.typeIs rfl F.sub_NoneType_dict hq)
  (fun _ hq=>call_gives F.slot_NoneType_eq_refl rfl F.entry_NoneType_eq (F.args_NoneType_eq_2 _ _) (NoneType___eq___none_ref_0 d) hq)
  (fun _ hq=>yK (rfl:isSame (.ref d) .none=pure false) hq) (.inr hu) h
theorem rc_none_dict (x:DictAt s.heap d) (hu:A.units<cLine):RcAt A s .none (.ref d) false:=fun prog w E Q h=>by
 exact rc_eq_decline_or (k:=false) rfl x.typeIs (by decide) F.sub_dict_NoneType F.slot_NoneType_eq F.slot_dict_eq_refl
  (fun _ hq=>call_gives F.slot_NoneType_eq rfl F.entry_NoneType_eq (F.args_NoneType_eq_2 _ _) (NoneType___eq___none_ref_0 d) hq)
  (fun _ hq=>dict_declines x.typeIs rfl F.sub_NoneType_dict hq)
  (fun _ hq=>yK (rfl:isSame .none (.ref d)=pure false) hq) (.inr hu) h
theorem rc_dict_int (b:Int) (u:Tok) (x:DictAt s.heap d) (hu:A.units<cLine):RcAt A s (.ref d) (.int b u) false:=fun prog w E Q h=>by
 obtain ⟨dd,es,n,sl,ho⟩:=id x
 exact rc_eq_decline_or (k:=false) x.typeIs (typeIs_int _ _ _) (by decide) F.sub_int_dict F.slot_dict_eq F.slot_int_eq_refl
  (fun _ hq=>dict_declines x.typeIs (typeIs_int _ _ _) F.sub_int_dict hq)
  (fun _ hq=>call_meets F.slot_int_eq_refl (typeIs_int _ _ _) F.entry_int_eq (F.args_int_eq_2 _ _) (int_declines_dict b u d _ es n dd sl) ⟨ho,hq⟩)
  (fun _ hq=>yK (rfl:isSame (.ref d) (.int b u)=pure false) hq) (.inr hu) h
theorem rc_int_dict (b:Int) (u:Tok) (x:DictAt s.heap d) (hu:A.units<cLine):RcAt A s (.int b u) (.ref d) false:=fun prog w E Q h=>by
 obtain ⟨dd,es,n,sl,ho⟩:=id x
 exact rc_eq_decline_or (k:=false) (typeIs_int _ _ _) x.typeIs (by decide) F.sub_dict_int F.slot_int_eq F.slot_dict_eq_refl
  (fun _ hq=>call_meets F.slot_int_eq (typeIs_int _ _ _) F.entry_int_eq (F.args_int_eq_2 _ _) (int_declines_dict b u d _ es n dd sl) ⟨ho,hq⟩)
  (fun _ hq=>dict_declines x.typeIs (typeIs_int _ _ _) F.sub_int_dict hq)
  (fun _ hq=>yK (rfl:isSame (.int b u) (.ref d)=pure false) hq) (.inr hu) h
theorem rc_dict_bool (b:Bool) (x:DictAt s.heap d) (hu:A.units<cLine):RcAt A s (.ref d) (.bool b) false:=fun prog w E Q h=>by
 obtain ⟨dd,es,n,sl,ho⟩:=id x
 exact rc_eq_decline_or (k:=false) x.typeIs (PySem.typeIs_bool _ _) (by decide) F.sub_bool_dict F.slot_dict_eq F.slot_bool_eq_refl
  (fun _ hq=>dict_declines x.typeIs (PySem.typeIs_bool _ _) F.sub_bool_dict hq)
  (fun _ hq=>call_meets F.slot_bool_eq_refl (PySem.typeIs_bool _ _) F.entry_int_eq (F.args_int_eq_2 _ _) (bool_declines_dict b d _ es n dd sl) ⟨ho,hq⟩)
  (fun _ hq=>yK (rfl:isSame (.ref d) (.bool b)=pure false) hq) (.inr hu) h
theorem rc_bool_dict (b:Bool) (x:DictAt s.heap d) (hu:A.units<cLine):RcAt A s (.bool b) (.ref d) false:=fun prog w E Q h=>by
 obtain ⟨dd,es,n,sl,ho⟩:=id x
 exact rc_eq_decline_or (k:=false) (PySem.typeIs_bool _ _) x.typeIs (by decide) F.sub_dict_bool F.slot_bool_eq F.slot_dict_eq_refl
  (fun _ hq=>call_meets F.slot_bool_eq (PySem.typeIs_bool _ _) F.entry_int_eq (F.args_int_eq_2 _ _) (bool_declines_dict b d _ es n dd sl) ⟨ho,hq⟩)
  (fun _ hq=>dict_declines x.typeIs (PySem.typeIs_bool _ _) F.sub_bool_dict hq)
  (fun _ hq=>yK (rfl:isSame (.bool b) (.ref d)=pure false) hq) (.inr hu) h
theorem rc_dict_str (b:Str) (u:Tok) (x:DictAt s.heap d) (hu:A.units<cLine):RcAt A s (.ref d) (.str b u) false:=fun prog w E Q h=>by
 obtain ⟨dd,es,n,sl,ho⟩:=id x
 exact rc_eq_decline_or (k:=false) x.typeIs (typeIs_str _ _ _) (by decide) F.sub_str_dict F.slot_dict_eq F.slot_str_eq_refl
  (fun _ hq=>dict_declines x.typeIs (typeIs_str _ _ _) F.sub_str_dict hq)
  (fun _ hq=>call_meets F.slot_str_eq_refl (typeIs_str _ _ _) F.entry_str_eq (F.args_str_eq_2 _ _) (str_declines_dict b u d _ es n dd sl) ⟨ho,hq⟩)
  (fun _ hq=>yK (rfl:isSame (.ref d) (.str b u)=pure false) hq) (.inr hu) h
theorem rc_str_dict (b:Str) (u:Tok) (x:DictAt s.heap d) (hu:A.units<cLine):RcAt A s (.str b u) (.ref d) false:=fun prog w E Q h=>by
 obtain ⟨dd,es,n,sl,ho⟩:=id x
 exact rc_eq_decline_or (k:=false) (typeIs_str _ _ _) x.typeIs (by decide) F.sub_dict_str F.slot_str_eq F.slot_dict_eq_refl
  (fun _ hq=>call_meets F.slot_str_eq (typeIs_str _ _ _) F.entry_str_eq (F.args_str_eq_2 _ _) (str_declines_dict b u d _ es n dd sl) ⟨ho,hq⟩)
  (fun _ hq=>dict_declines x.typeIs (typeIs_str _ _ _) F.sub_str_dict hq)
  (fun _ hq=>yK (rfl:isSame (.str b u) (.ref d)=pure false) hq) (.inr hu) h
theorem dict_ne_seq {l:zV}{c:String}{o:Obj}(hc:o.cls= .type c) (hne:c≠"dict") (ho:s.heap.get? l=some o) (x:DictAt s.heap d):d≠l:=fun e=>by
 subst e;obtain ⟨_,_,_,_,e⟩:=x;rw [ho] at e;cases e;exact hne (by injection hc with hc;exact hc.symm)
theorem rc_dict_list {l:zV}{items:Array zY}(x:DictAt s.heap d) (hl:s.heap.IsList l items) (hu:A.units<cLine):RcAt A s (.ref d) (.ref l) false:=fun prog w E Q h=>by
 obtain ⟨dd,es,n,sl,ho⟩:=id x;obtain ⟨⟨cls,dd2,data2,sl2⟩,ho2,hc2,n2,hd2⟩:=id hl;simp only at hc2 hd2;subst hc2 hd2
 exact rc_eq_decline_or (k:=false) x.typeIs ⟨_,ho2,rfl⟩ (by decide) F.sub_list_dict F.slot_dict_eq F.slot_list_eq_refl
  (fun _ hq=>dict_declines x.typeIs ⟨_,ho2,rfl⟩ F.sub_list_dict hq)
  (fun _ hq=>call_meets F.slot_list_eq_refl ⟨_,ho2,rfl⟩ F.entry_list_eq (F.args_list_eq_2 _ _) (list_declines_dict l d items es n2 n dd2 dd sl2 sl) ⟨ho2,ho,hq⟩)
  (fun _ hq=>wpAny_isSame_ref_other' (dict_ne_seq rfl (by decide) ho2 x) ho ho2 (by simp) hq) (.inr hu) h
theorem rc_list_dict {l:zV}{items:Array zY}(x:DictAt s.heap d) (hl:s.heap.IsList l items) (hu:A.units<cLine):RcAt A s (.ref l) (.ref d) false:=fun prog w E Q h=>by
 obtain ⟨dd,es,n,sl,ho⟩:=id x;obtain ⟨⟨cls,dd2,data2,sl2⟩,ho2,hc2,n2,hd2⟩:=id hl;simp only at hc2 hd2;subst hc2 hd2
 exact rc_eq_decline_or (k:=false) ⟨_,ho2,rfl⟩ x.typeIs (by decide) F.sub_dict_list F.slot_list_eq F.slot_dict_eq_refl
  (fun _ hq=>call_meets F.slot_list_eq ⟨_,ho2,rfl⟩ F.entry_list_eq (F.args_list_eq_2 _ _) (list_declines_dict l d items es n2 n dd2 dd sl2 sl) ⟨ho2,ho,hq⟩)
  (fun _ hq=>dict_declines x.typeIs ⟨_,ho2,rfl⟩ F.sub_list_dict hq)
  (fun _ hq=>wpAny_isSame_ref_other' (dict_ne_seq rfl (by decide) ho2 x).symm ho2 ho (by simp) hq) (.inr hu) h
theorem rc_dict_tuple {l:zV}{items:Array zY}(x:DictAt s.heap d) (hl:s.heap.IsTuple l items) (hu:A.units<cLine):RcAt A s (.ref d) (.ref l) false:=fun prog w E Q h=>by
 obtain ⟨dd,es,n,sl,ho⟩:=id x;obtain ⟨⟨cls,dd2,data2,sl2⟩,ho2,hc2,n2,hd2⟩:=id hl;simp only at hc2 hd2;subst hc2 hd2
 exact rc_eq_decline_or (k:=false) x.typeIs ⟨_,ho2,rfl⟩ (by decide) F.sub_tuple_dict F.slot_dict_eq F.slot_tuple_eq_refl
  (fun _ hq=>dict_declines x.typeIs ⟨_,ho2,rfl⟩ F.sub_tuple_dict hq)
  (fun _ hq=>call_meets F.slot_tuple_eq_refl ⟨_,ho2,rfl⟩ F.entry_tuple_eq (F.args_tuple_eq_2 _ _) (tuple_declines_dict l d items es n2 n dd2 dd sl2 sl) ⟨ho2,ho,hq⟩)
  (fun _ hq=>wpAny_isSame_ref_other (dict_ne_seq rfl (by decide) ho2 x) ho ho2 (by simp) hq) (.inr hu) h
theorem rc_tuple_dict {l:zV}{items:Array zY}(x:DictAt s.heap d) (hl:s.heap.IsTuple l items) (hu:A.units<cLine):RcAt A s (.ref l) (.ref d) false:=fun prog w E Q h=>by
 obtain ⟨dd,es,n,sl,ho⟩:=id x;obtain ⟨⟨cls,dd2,data2,sl2⟩,ho2,hc2,n2,hd2⟩:=id hl;simp only at hc2 hd2;subst hc2 hd2
 exact rc_eq_decline_or (k:=false) ⟨_,ho2,rfl⟩ x.typeIs (by decide) F.sub_dict_tuple F.slot_tuple_eq F.slot_dict_eq_refl
  (fun _ hq=>call_meets F.slot_tuple_eq ⟨_,ho2,rfl⟩ F.entry_tuple_eq (F.args_tuple_eq_2 _ _) (tuple_declines_dict l d items es n2 n dd2 dd sl2 sl) ⟨ho2,ho,hq⟩)
  (fun _ hq=>dict_declines x.typeIs ⟨_,ho2,rfl⟩ F.sub_tuple_dict hq)
  (fun _ hq=>wpAny_isSame_ref_other' (dict_ne_seq rfl (by decide) ho2 x).symm ho2 ho (by simp) hq) (.inr hu) h
end
end
theorem gl_deduplicate {P:Params}:nsIn (KF PW P) mainGlobals (zQ "_deduplicate")=some (some (.ref 29)):=by k_ne
theorem gl_deduplicate_unhashable {P:Params}:nsIn (KF PW P) mainGlobals (zQ "_deduplicate_unhashable")=some (some (.ref 36)):=by k_ne
theorem gl_Match {P:Params}:nsIn (KF PW P) mainGlobals (zQ "Match")=some (some (.ref 150)):=by k_ne
theorem gl_SequenceMatcher {P:Params}:nsIn (KF PW P) mainGlobals (zQ "SequenceMatcher")=some (some (.ref 257)):=by k_ne
theorem gl_law_thing {P:Params}:nsIn (KF PW P) mainGlobals (zQ "_law_thing")=some (some (.ref 268)):=by k_ne
theorem gl_law_kind {P:Params}:nsIn (KF PW P) mainGlobals (zQ "_law_kind")=some (some (.ref 275)):=by k_ne
theorem gl_law_like {P:Params}:nsIn (KF PW P) mainGlobals (zQ "_law_like")=some (some (.ref 282)):=by k_ne
theorem gl_law_match {P:Params}:nsIn (KF PW P) mainGlobals (zQ "_law_match")=some (some (.ref 289)):=by k_ne
theorem gl_law_blocks {P:Params}:nsIn (KF PW P) mainGlobals (zQ "_law_blocks")=some (some (.ref 296)):=by k_ne
theorem gl_law_due {P:Params}:nsIn (KF PW P) mainGlobals (zQ "_law_due")=some (some (.ref 303)):=by k_ne
theorem gl_law_noted {P:Params}:nsIn (KF PW P) mainGlobals (zQ "_law_noted")=some (some (.ref 310)):=by k_ne
theorem gl_law_made {P:Params}:nsIn (KF PW P) mainGlobals (zQ "_law_made")=some (some (.ref 317)):=by k_ne
theorem gl_law_told {P:Params}:nsIn (KF PW P) mainGlobals (zQ "_law_told")=some (some (.ref 322)):=by k_ne
theorem gl_law_firsts {P:Params}:nsIn (KF PW P) mainGlobals (zQ "_law_firsts")=some (some (.ref 329)):=by k_ne
theorem gl_law_same {P:Params}:nsIn (KF PW P) mainGlobals (zQ "_law_same")=some (some (.ref 336)):=by k_ne
theorem gl_len {P:Params}:nsIn (KF PW P) mainGlobals (zQ "len")=some none:=by k_ne
theorem bb_len:bootBuiltins (zQ "len")=some (.builtin "len"):=by k_ne
theorem gl_range {P:Params}:nsIn (KF PW P) mainGlobals (zQ "range")=some none:=by k_ne
theorem bb_range:bootBuiltins (zQ "range")=some (.type "range"):=by k_ne
theorem gl_sum {P:Params}:nsIn (KF PW P) mainGlobals (zQ "sum")=some none:=by k_ne
theorem bb_sum:bootBuiltins (zQ "sum")=some (.builtin "sum"):=by k_ne
theorem gl_max {P:Params}:nsIn (KF PW P) mainGlobals (zQ "max")=some none:=by k_ne
theorem bb_max:bootBuiltins (zQ "max")=some (.builtin "max"):=by k_ne
theorem gl_zip {P:Params}:nsIn (KF PW P) mainGlobals (zQ "zip")=some none:=by k_ne
theorem bb_zip:bootBuiltins (zQ "zip")=some (.type "zip"):=by k_ne
theorem gl_type {P:Params}:nsIn (KF PW P) mainGlobals (zQ "type")=some none:=by k_ne
theorem bb_type:bootBuiltins (zQ "type")=some (.type "type"):=by k_ne
theorem gl_list {P:Params}:nsIn (KF PW P) mainGlobals (zQ "list")=some none:=by k_ne
theorem bb_list:bootBuiltins (zQ "list")=some (.type "list"):=by k_ne
theorem gl_dict {P:Params}:nsIn (KF PW P) mainGlobals (zQ "dict")=some none:=by k_ne
theorem bb_dict:bootBuiltins (zQ "dict")=some (.type "dict"):=by k_ne
theorem gl_set {P:Params}:nsIn (KF PW P) mainGlobals (zQ "set")=some none:=by k_ne
theorem bb_set:bootBuiltins (zQ "set")=some (.type "set"):=by k_ne
theorem gl_map {P:Params}:nsIn (KF PW P) mainGlobals (zQ "map")=some none:=by k_ne
theorem bb_map:bootBuiltins (zQ "map")=some (.type "map"):=by k_ne
theorem gl_enumerate {P:Params}:nsIn (KF PW P) mainGlobals (zQ "enumerate")=some none:=by k_ne
theorem bb_enumerate:bootBuiltins (zQ "enumerate")=some (.type "enumerate"):=by k_ne
theorem gl_tuple {P:Params}:nsIn (KF PW P) mainGlobals (zQ "tuple")=some none:=by k_ne
theorem bb_tuple:bootBuiltins (zQ "tuple")=some (.type "tuple"):=by k_ne
theorem gl_TypeError {P:Params}:nsIn (KF PW P) mainGlobals (zQ "TypeError")=some none:=by k_ne
theorem bb_TypeError:bootBuiltins (zQ "TypeError")=some (.type "TypeError"):=by k_ne
section
open PySem.SeqAt
open AutoSeq1 (wpAny_loadPart')
open MeetsSeq MeetsSeq2 MeetsSeq3 SeqRoads2
def EqW (w:zT) (A:zU) (s:zX) (y x:zY) (b:Bool):Prop:=∀ (E:VP) (Q:Bool→zX→Prop),Q b s→zZ (zW PW w) A (eqBool y x) Q E s
theorem EqW.of {w:zT}{A:zU}{s:zX}{y x:zY}{b:Bool}(h:EqAt A s y x b):EqW w A s y x b:=fun E Q hq=>h PW w E Q hq
theorem has_loop (w:zT) (l:zV) (items:Array zY) (n:Nat) (dd:Option zV) (sl:Array (Option zY)) (x:zY) (e:Nat→Bool) (k:Nat):
 ∀ i:Nat,items.size - i=k→MeetsIn PW w (Builtin.«list.__contains__.loop» ⟨[.ref l,x,rawInt i],[]⟩)
  (fun A R s=>s.heap.get? l=some { cls:=.type "list",dict:=dd,data:=.seq items n,slots:=sl }∧(∀ j (h:j<items.size),EqW w A.in1 s items[j] x (e j))∧R (.ok (.ret (.bool (((xY items.size).drop i).any e)))) s):=by
 induction k with
 |zero=>
  intro i hk A R s h;obtain ⟨hp,g,d,tk,os⟩:=s;obtain ⟨hl,he,h⟩:=h
  wp_walk using wpAny_loadPart' hl
  have hi:items[((i:Nat):Int).toNat]? =none:=by simp;(revert hk;k_in)
  have hd:(xY items.size).drop i=[]:=by simp;(revert hk;k_in)
  rw [hd] at h;rw [hi]
  wp_walk
  exact h
 |succ k ih=>
  intro i hk A R s h;obtain ⟨hp,g,d,tk,os⟩:=s;obtain ⟨hl,he,h⟩:=h
  wp_walk using wpAny_loadPart' hl
  have hlt:i<items.size:=by (revert hk;k_in)
  have hi:items[((i:Nat):Int).toNat]? =some items[i]:=by simp [hlt]
  have hd:(xY items.size).drop i=i::(xY items.size).drop (i+1):=by
   rw [List.drop_eq_getElem_cons (by simpa using hlt)];simp
  rw [hd,List.any_cons] at h;rw [hi];refine w_b (he i hlt _ _ ?_);cases hb:e i with
  |true=>
   rw [hb] at h
   wp_walk
   exact h
  |false=>
   rw [hb] at h;have hc:((i:Int)+1)=((i+1:Nat):Int):=by push_cast;rfl
   wp_walk
   rw [hc]
   exact ⟨plainId_quiet plain_contains_loop _,codeAny_builtin entry_contains_loop (by
    rw [Around.under_plainId plain_contains_loop _]
    exact ih (i+1) (by (have q:=hlt;revert hk q;k_in)) A R _ ⟨hl,he,by simpa using h⟩)⟩
theorem list_has (w:zT) (l:zV) (items:Array zY) (n:Nat) (dd:Option zV) (sl:Array (Option zY)) (x:zY) (e:Nat→Bool):
 MeetsIn PW w (Builtin.«list.__contains__» ⟨[.ref l,x],[]⟩)
  (fun A R s=>s.heap.get? l=some { cls:=.type "list",dict:=dd,data:=.seq items n,slots:=sl }∧(∀ j (h:j<items.size),EqW w A.in1 s items[j] x (e j))∧R (.ok (.ret (.bool ((xY items.size).any e)))) s):=by
 intro A R s h;obtain ⟨hp,g,d,tk,os⟩:=s;obtain ⟨hl,he,h⟩:=h
 wp_walk using wpAny_loadPart' hl
 exact ⟨plainId_quiet plain_contains_loop _,codeAny_builtin entry_contains_loop (by
  rw [Around.under_plainId plain_contains_loop _]
  exact has_loop w l items n dd sl x e _ 0 rfl A R _ ⟨hl,he,by simpa using h⟩)⟩
theorem idx_loop (w:zT) (l:zV) (items:Array zY) (n:Nat) (dd:Option zV) (sl:Array (Option zY)) (x:zY) (e:Nat→Bool) (upto:Int) (j:Nat) (hj:j<items.size) (hupto:(j:Int)<upto)
 (hit:e j=true) (k:Nat):
 ∀ i:Nat,j - i=k→i≤j→(∀ m,m<items.size→i≤m→m<j→e m=false)→MeetsIn PW w (Builtin.«list.index.loop» ⟨[.ref l,x,rawInt i,rawInt upto],[]⟩)
  (fun A R s=>s.heap.get? l=some { cls:=.type "list",dict:=dd,data:=.seq items n,slots:=sl }∧(∀ j (h:j<items.size),EqW w A.in1 s items[j] x (e j))∧R (.ok (.ret (.int j s.toks))) { s with toks:=s.toks+1 }):=by
 induction k with
 |zero=>
  intro i hk hij hno A R s h;obtain ⟨hp,g,d,tk,os⟩:=s;obtain ⟨hl,he,h⟩:=h;have hij':i=j:=by (revert hk hij;k_in)
  subst hij'
  wp_walk using wpAny_loadPart' hl
  have hi:(if (i:Int)<upto then items[((i:Nat):Int).toNat]? else none)=some items[i]:=by simp [hupto,hj]
  rw [hi];refine w_b (he i hj _ _ ?_);rw [hit]
  wp_walk
  exact h
 |succ k ih=>
  intro i hk hij hno A R s h;obtain ⟨hp,g,d,tk,os⟩:=s;obtain ⟨hl,he,h⟩:=h;have hlt:i<items.size:=by (revert hj hij;k_in)
  have hst:(i:Int)<upto:=by (revert hupto hij;k_in)
  wp_walk using wpAny_loadPart' hl
  have hi:(if (i:Int)<upto then items[((i:Nat):Int).toNat]? else none)=some items[i]:=by simp [hst,hlt]
  have hc:((i:Int)+1)=((i+1:Nat):Int):=by push_cast;rfl
  rw [hi];refine w_b (he i hlt _ _ ?_);rw [hno i hlt (yX _) (by revert hk hij;k_in)]
  wp_walk
  rw [hc]
  exact ⟨plainId_quiet plain_index_loop _,codeAny_builtin entry_index_loop (by
   rw [Around.under_plainId plain_index_loop _]
   exact ih (i+1) (by revert hk hij;k_in) (by revert hk hij;k_in) (fun m hm h1 h2=>hno m hm (by lia) h2) A R _ ⟨hl,he,h⟩)⟩
theorem list_idx (w:zT) (l:zV) (items:Array zY) (n:Nat) (dd:Option zV) (sl:Array (Option zY)) (x:zY) (e:Nat→Bool) (j:Nat) (hj:j<items.size) (hsmall:(j:Int)<2 ^ 63 - 1)
 (hit:e j=true) (hno:∀ m,m<items.size→m<j→e m=false):
 MeetsIn PW w (Builtin.«list.index» ⟨[.ref l,x],[]⟩)
  (fun A R s=>s.heap.get? l=some { cls:=.type "list",dict:=dd,data:=.seq items n,slots:=sl }∧(∀ j (h:j<items.size),EqW w A.in1 s items[j] x (e j))∧R (.ok (.ret (.int j s.toks))) { s with toks:=s.toks+1 }):=by
 intro A R s h;obtain ⟨hp,g,d,tk,os⟩:=s;obtain ⟨hl,he,h⟩:=h
 wp_walk using wpAny_loadPart' hl
 have a1:((fun i:Int=>if i<0 then max 0 (i+(items.size:Int)) else i) ((none:Option Int).getD 0))=((0:Nat):Int):=by simp
 have a2:((fun i:Int=>if i<0 then max 0 (i+(items.size:Int)) else i) ((none:Option Int).getD (2 ^ 63 - 1)))=2 ^ 63 - 1:=by simp
 rw [a1,a2]
 exact ⟨plainId_quiet plain_index_loop _,codeAny_builtin entry_index_loop (by
  rw [Around.under_plainId plain_index_loop _]
  exact idx_loop w l items n dd sl x e (2 ^ 63 - 1) j hj hsmall hit _ 0 rfl (Nat.zero_le _) (fun m hm _ h2=>hno m hm h2) A R _ ⟨hl,he,h⟩)⟩
section
variable {w:zT}{A:zU}{E:VP}{σ:zX}{h:Heap}{t:Nat}
theorem o_notin {l:zV}{vs:List zY}{x:zY}{Q:VP}(e:Nat→Bool) (hl:Ls h l vs) (he:∀ j (hj:j<vs.length),EqW w A.in1 (S σ h t) vs[j] x (e j)) (k:Q (.bool (!(xY vs.length).any e)) (S σ h t)):
 zZ (zW PW w) A (compareOp .NotIn x (.ref l)) Q E (S σ h t):=by
 obtain ⟨⟨cls,dd,data,sl⟩,ho,hc,n,hd⟩:=id hl;simp only at hc hd;subst hc hd;show zZ _ A (do return .bool (!(← contains (.ref l) x))) Q E _
 refine w_b (wpAny_contains_slot ⟨_,ho,rfl⟩ F.slot_list_contains (w_m (call_meetsIn (Q:=fun v s'=>∃ b,v= .bool b∧Q (.bool (!b)) s') F.slot_list_contains ⟨_,ho,rfl⟩ F.entry_list_contains (F.args_list_contains_2 _ _) (list_has w l vs.toArray n dd sl x e) ⟨ho,by simpa using he,_,rfl,by simpa using k⟩) (fun v s' hv=>?_) fun _ _ e=>e));obtain ⟨b,rfl,hq⟩:=hv;exact wpAny_truthy_bool (w_p hq)
theorem m_index {l:zV}{vs:List zY}{x:zY}{Q:VP}(e:Nat→Bool) (j:Nat) (hz:vs.length≤1000) (hl:Ls h l vs) (he:∀ j (hj:j<vs.length),EqW w A.in1 (S σ h t) vs[j] x (e j))
 (hj:j<vs.length) (hit:e j=true) (hno:∀ m,m<j→e m=false) (k:∀ tk t',Q (.int j tk) (S σ h t')):
 zZ (zW PW w) A (call (.builtin "list.index") [.ref l,x]) Q E (S σ h t):=by
 obtain ⟨⟨cls,dd,data,sl⟩,ho,hc,n,hd⟩:=id hl;simp only at hc hd;subst hc hd;exact call_meetsIn F.slot_list_index ⟨_,ho,rfl⟩ F.entry_list_index (F.args_list_index_2 _ _) (list_idx w l vs.toArray n dd sl x e j (by simpa using hj) (by lia) hit (fun m _ h=>hno m h)) ⟨ho,by simpa using he,k _ _⟩
end
end
section
open PySem.SeqAt
noncomputable def kindN (k:Nat):Nat:=[0,0,2,2,4,5,6,6,8,9,10,10,12,13,14,15].getD k 0
noncomputable def datK (k:Nat):PyData:=[.int 0,.bool false,.int 1,.bool true,.str (zQ "a"),.none,.tuple [.int 1],.tuple [.bool true],.str (zQ ""),.int 2,
 .list [.int 1],.list [.bool true],.none,.tuple [.list []],.list [],.none].getD k .none
def wdatK (k:Nat):WData:=ofPy (datK k)
theorem all10 {p:Nat→Bool}{n k:Nat}(h:(xY n).all p=true) (hk:k<n):p k=true:=List.all_eq_true.mp h k (List.mem_range.mpr hk)
def RI (h:Heap) (v:zY):PyData→Prop
 | .none=>v= .none
 | .bool b=>v= .bool b
 | .int i=>∃ t,v= .int i t
 | .str x=>∃ t,v= .str x t
 | .list _=>∃ a o,v= .ref a∧h.get? a=some o∧o.cls= .type "list"
 | .tuple xs=>∃ a o vs n as,v= .ref a∧h.get? a=some o∧o.cls= .type "tuple"∧o.data= .seq vs n∧ReadsAll h vs.toList xs as
 | .dict _=>True
theorem reads_inv {h:Heap}{v:zY}{d:PyData}{as:List zV}(r:Reads h v d as):RI h v d:=by
 induction r using Reads.casesOn with
 |none=>exact rfl
 |bool=>exact rfl
 |int=>exact ⟨_,rfl⟩
 |str=>exact ⟨_,rfl⟩
 |list ho hc hd _=>exact ⟨_,_,rfl,ho,hc⟩
 |tuple ho hc hd hr=>exact ⟨_,_,_,_,_,rfl,ho,hc,hd,hr⟩
 |dict=>trivial
def RC (P:Params) (v:zY) (d:PyData):Prop:=v.scannable=true∧carriedByValue v=true∧∀ h:Heap,Well P h v (ofPy d)
theorem reads_flat {P:Params}{h:Heap}{v:zY}{d:PyData}{as:List zV}(r:Reads h v d as) (hf:flatData d=true):RC P v d:=by
 induction r using Reads.casesOn with
 |none=>exact ⟨rfl,rfl,fun _=>.none⟩
 |bool b=>exact ⟨rfl,rfl,fun _=>.bool b⟩
 |int i t=>exact ⟨rfl,rfl,fun _=>.int i t⟩
 |str x t=>exact ⟨rfl,rfl,fun _=>.str x t⟩
 |_=>exact absurd hf zA
def WK (d:WData):Prop:=∃ p,d=ofPy p∧flatData p=true
theorem wk_flat {k:Nat}(hk:k<10) (h:¬ (k=6∨k=7)):WK (wdatK k):=by
 have:=all10 (p:=fun k=>k==6||k==7||flatData (datK k)) (n:=10) (by k_ne) hk;simp only [Bool.or_eq_true,beq_iff_eq] at this;exact ⟨datK k,rfl,this.resolve_left h⟩
theorem wk_tup {k:Nat}(h:k=6∨k=7):∃ d,wdatK k= .tuple [d]∧(d= .int 1∨d= .bool true):=by
 rcases h with rfl|rfl
 · exact ⟨_,rfl,.inl rfl⟩
 · exact ⟨_,rfl,.inr rfl⟩
def WF (P:Params) (v:zY) (d:WData):Prop:=v.scannable=true∧carriedByValue v=true∧∀ h:Heap,Well P h v d
theorem w_flat {P:Params}{h:Heap}{v:zY}{d:WData}(hf:WK d) (r:Well P h v d):WF P v d:=by
 obtain ⟨p,e,hp⟩:=hf;subst e;exact reads_flat (flat_of_well hp r h) hp
def WT (P:Params) (h:Heap) (v:zY) (xs:List WData):Prop:=∃ a vs,v= .ref a∧h.get? a=some { cls:=.type "tuple",data:=.seq (List.toArray vs) }∧WellAll P h vs xs
set_option backward.match.sparseCases false in
def WQ (P:Params) (h:Heap) (v:zY):WData→Prop
 | .tuple xs=>WT P h v xs
 |_=>True
theorem w_tup1 {P:Params}{h:Heap}{v:zY}{d:WData}(r:Well P h v d):WQ P h v d:=by
 induction r using Well.casesOn with
 |tuple hg hw=>exact ⟨_,_,rfl,hg,hw⟩
 |_=>trivial
theorem w_tup0 {P:Params}{h:Heap}{v:zY}{xs:List WData}(r:Well P h v (.tuple xs)):WT P h v xs:=w_tup1 r
theorem w_nil {P:Params}{h:Heap}{vs:List zY}(r:WellAll P h vs []):vs=[]:=by cases r;rfl
theorem w_tup {P:Params}{h:Heap}{v:zY}{d:WData}(hf:d= .int 1∨d= .bool true) (r:Well P h v (.tuple [d])):
 ∃ a u,v= .ref a∧h.get? a=some { cls:=.type "tuple",data:=.seq [u].toArray }∧carriedByValue u=true∧u.scannable=true∧plainKind u=true∧∀ h':Heap,h'.get? a=h.get? a→Well P h' v (.tuple [d]):=by
 obtain ⟨a,vs,e,hg,hw⟩:=w_tup0 r;obtain ⟨u,vs',e1,hu,hn⟩:=wellAll_cons_inv hw;have e2:=w_nil hn;subst e2 e1 e
 have hd:WK d:=by
  rcases hf with rfl|rfl
  · exact ⟨.int 1,rfl,rfl⟩
  · exact ⟨.bool true,rfl,rfl⟩
 obtain ⟨c1,c2,c3⟩:=w_flat hd hu
 have hk:plainKind u=true:=by
  rcases hf with rfl|rfl
  · obtain ⟨t,rfl⟩:RI h u (.int 1):=reads_inv (flat_of_well (d:=.int 1) rfl hu h);rfl
  · obtain rfl:RI h u (.bool true):=reads_inv (flat_of_well (d:=.bool true) rfl hu h);rfl
 exact ⟨a,u,rfl,hg,c2,c1,hk,fun h' e=>.tuple (e.trans hg) (.cons (c3 h') .nil)⟩
theorem wdat_kp {P:Params}{h h':Heap}{v:zY}{k:Nat}(hk:k<10) (x:Well P h v (wdatK k)) (K:∀ b o,h.get? b=some o→h'.get? b=some o):Well P h' v (wdatK k):=by
 by_cases e:k=6∨k=7
 · obtain ⟨d,e,hd⟩:=wk_tup e;rw [e] at x ⊢;obtain ⟨a,u,_,hg,_,_,_,c⟩:=w_tup hd x;exact c _ ((K _ _ hg).trans hg.symm)
 · exact (w_flat (wk_flat hk e) x).2.2 h'
def El (w:zT) (h:Heap) (v:zY) (k:Nat):Prop:=
 if k=12 then ∃ T u,v= .ref T∧T≠1∧h.DictOf (strKind PW w) T [(zQ "k",.int 1 u)] else
 if k=15 then ∃ T,v= .ref T∧T≠1∧h.DictOf (strKind PW w) T [] else k<16∧(∃ as,Reads h v (datK k) as)∧(k<10→Well w.params h v (wdatK k))∧(∀ x t,v= .str x t→k=4→t≠0)
theorem dictOf_kp {w:zT}{h h':Heap}{T kvs} (x:h.DictOf (strKind PW w) T kvs) (K:Kp h h'):h'.DictOf (strKind PW w) T kvs:=let ⟨o,es,ep,ho,r⟩:=x;⟨o,es,ep,K _ _ ho,r⟩
theorem El.kp {w h h' v k} (x:El w h v k) (K:Kp h h'):El w h' v k:=by
 unfold El at*;split
 · rename_i e;rw [if_pos e] at x;obtain ⟨T,u,e1,e2,e3⟩:=x;exact ⟨T,u,e1,e2,dictOf_kp e3 K⟩
 · rename_i e;rw [if_neg e] at x;split
   · rename_i e';rw [if_pos e'] at x;obtain ⟨T,e1,e2,e3⟩:=x;exact ⟨T,e1,e2,dictOf_kp e3 K⟩
   · rename_i e';rw [if_neg e'] at x;obtain ⟨h1,⟨as,r⟩,r2,r3⟩:=x;exact ⟨h1,⟨as,Reads.keeps K r⟩,fun hk=>wdat_kp hk (r2 hk) K,r3⟩
theorem El.lt {w h v k} (x:El w h v k):k<16:=by
 unfold El at x;split at x
 · (rename_i z0;revert z0;k_in)
 · split at x
   · (rename_i z0;revert z0;k_in)
   · exact x.1
theorem datK_lay:∀ k<16,k≠12→k≠15→(datK k).canLay0=true∧(datK k).depth≤64:=by
 intro k hk h1 h2;have:=all10 (p:=fun k=>k==12||k==15||((datK k).canLay0&&decide ((datK k).depth≤64))) (n:=16) (by k_ne) hk;simp only [Bool.or_eq_true,beq_iff_eq,yT,decide_eq_true_eq] at this;exact this.resolve_left (fun h=>h.elim h1 h2)
theorem datK_eqv:∀ k<16,∀ l<16,k≠12→k≠15→l≠12→l≠15→PyData.eqv (datK k) (datK l)=decide (kindN k=kindN l):=by
 intro k hk l hl h1 h2 h3 h4;have:((xY 16).all fun k=>(xY 16).all fun l=>k==12||k==15||l==12||l==15||PyData.eqv (datK k) (datK l)==decide (kindN k=kindN l))=true:=by k_ne
 rw [List.all_eq_true] at this;have:=this k (by simpa using hk);rw [List.all_eq_true] at this;have:=this l (by simpa using hl);simp only [Bool.or_eq_true,beq_iff_eq] at this;rcases this with (((h|h)|h)|h)|h
 · exact absurd h h1
 · exact absurd h h2
 · exact absurd h h3
 · exact absurd h h4
 · exact h
theorem dictAt_of {w:zT}{h:Heap}{T kvs} (x:h.DictOf (strKind PW w) T kvs):DictAt h T:=by
 obtain ⟨⟨c,d,dat,sl⟩,es,ep,ho,⟨h1,h2⟩,hd,_⟩:=x;simp only at h1 hd;subst h1 hd;exact ⟨_,_,_,_,ho⟩
theorem El.dict {w h v k} (x:El w h v k) (hk:k=12∨k=15):∃ T,v= .ref T∧DictAt h T:=by
 unfold El at x;rcases hk with rfl|rfl
 · rw [if_pos rfl] at x;obtain ⟨T,u,e1,e2,e3⟩:=x;exact ⟨T,e1,dictAt_of e3⟩
 · rw [if_neg (by decide),if_pos rfl] at x;obtain ⟨T,e1,e2,e3⟩:=x;exact ⟨T,e1,dictAt_of e3⟩
theorem El.plain {w h v k} (x:El w h v k) (h1:k≠12) (h2:k≠15):k<16∧∃ as,Reads h v (datK k) as:=by
 unfold El at x;rw [if_neg h1,if_neg h2] at x;exact ⟨x.1,x.2.1⟩
theorem El.well {w h v k} (x:El w h v k) (hk:k<10):Well w.params h v (wdatK k):=by
 unfold El at x;rw [if_neg (by revert hk;k_in),if_neg (by revert hk;k_in)] at x;exact x.2.2.1 hk
theorem El.tok {w h x t} (e:El w h (.str x t) 4):t≠0:=by
 unfold El at e;rw [if_neg (by decide),if_neg (by decide)] at e;exact e.2.2.2 x t rfl rfl
theorem dict_other {A:zU}{s:zX}{T:zV}{v:zY}{d:PyData}{as:List zV}(x:DictAt s.heap T) (r:Reads s.heap v d as) (hl:d.canLay0=true) (hu:A.units<cLine):EqAt A s (.ref T) v false∧EqAt A s v (.ref T) false:=by
 induction r using Reads.casesOn with
 |none=>exact ⟨eqat_l rfl (rc_dict_none x hu),eqat_r rfl (rc_none_dict x hu)⟩
 |bool b=>exact ⟨eqat_l rfl (rc_dict_bool b x hu),eqat_r rfl (rc_bool_dict b x hu)⟩
 |int i t=>exact ⟨eqat_l rfl (rc_dict_int i t x hu),eqat_r rfl (rc_int_dict i t x hu)⟩
 |str y t=>exact ⟨eqat_l rfl (rc_dict_str y t x hu),eqat_r rfl (rc_str_dict y t x hu)⟩
 |@list a o vs n xs as ho hc hd _=>
  have hne:=dict_ne_seq hc (by decide) ho x;have hl:s.heap.IsList a vs:=⟨o,ho,hc,n,hd⟩;exact ⟨.of_refs hne (rc_dict_list x hl hu),.of_refs hne.symm (rc_list_dict x hl hu)⟩
 |@tuple a o vs n xs as ho hc hd _=>
  have hne:=dict_ne_seq hc (by decide) ho x;have hl:s.heap.IsTuple a vs:=⟨o,ho,hc,n,hd⟩;exact ⟨.of_refs hne (rc_dict_tuple x hl hu),.of_refs hne.symm (rc_tuple_dict x hl hu)⟩
 |dict=>simp [PyData.canLay0] at hl
theorem eqw_refs {w:zT}{A:zU}{s:zX}{l b:zV}{k:Bool}(h:l≠b→∀ (E:VP) (Q:VP),Q (.bool k) s→zZ (zW PW w) A (richCompare .Eq (.ref l) (.ref b)) Q E s) (he:l=b→k=true):EqW w A s (.ref l) (.ref b) k:=fun E Q hq=>by
 by_cases hne:l=b
 · have:=he hne;subst hne this;exact EqAt.same (.ref l) PW w E Q hq
 · unfold eqBool;refine w_h ?_;refine yG (fun hab=>absurd (by have:=eq_of_beq hab;injection this) hne) (fun _=>?_);exact w_b (h hne E _ (wpAny_truthy_bool hq))
theorem dict_len {w:zT}{h:Heap}{T:zV}{kvs kvs':List (Str×zY)}(d1:h.DictOf (strKind PW w) T kvs) (d2:h.DictOf (strKind PW w) T kvs'):kvs.length=kvs'.length:=by
 obtain ⟨o,es,ep,ho,_,hd,_,hp,_⟩:=d1;obtain ⟨o',es',ep',ho',_,hd',_,hp',_⟩:=d2;have e:=l_j (ho.symm.trans ho');rw [← e,hd] at hd';injection hd' with e1;rw [← e1] at hp'
 first|exact hp.length.symm.trans hp'.length|exact hp.length.trans hp'.length.symm
theorem el_dd {w:zT}{A:zU}{s:zX}{x y:zY}{k l:Nat}(hx:El w s.heap x k) (hy:El w s.heap y l) (hk:k=12∨k=15) (hl:l=12∨l=15) (hu:A.units+70<cLine):EqW w A s x y (decide (k=l)):=by
 have cs:(1:zV)=sysModules:=rfl;unfold El at hx hy;rcases hk with rfl|rfl <;> rcases hl with rfl|rfl
 · rw [if_pos rfl] at hx hy;obtain ⟨T,u,rfl,hT,d1⟩:=hx;obtain ⟨T',u',rfl,hT',d2⟩:=hy;refine eqw_refs (fun hne E Q hq=>?_) fun _=>rfl
   exact keq_eq (by simpa [← cs] using hT) (by simpa [← cs] using hT') d1 d2 (by lia) (fun _=>KeqHits.hit (e:=true) (b:=true) (y:=.int 1 u') (by simp [valueAt]) (fun prog w E Q h=>keq_flat (.int 1 u) (.int 1 u') prog w E Q h) .nil) hq
 · rw [if_pos rfl] at hx;rw [if_neg (by decide),if_pos rfl] at hy;obtain ⟨T,u,rfl,hT,d1⟩:=hx;obtain ⟨T',rfl,hT',d2⟩:=hy;refine eqw_refs (fun hne E Q hq=>?_) fun e=>?_
   · exact keq_eq (r:=true) (by simpa [← cs] using hT) (by simpa [← cs] using hT') d1 d2 (by lia) (fun e=>by simp at e) (by simpa using hq)
   · rw [e] at d1
     first|exact absurd (dict_len d1 d2) (Nat.succ_ne_zero 0)|exact absurd (dict_len d1 d2).symm (Nat.succ_ne_zero 0)
 · rw [if_neg (by decide),if_pos rfl] at hx;rw [if_pos rfl] at hy;obtain ⟨T,rfl,hT,d1⟩:=hx;obtain ⟨T',u',rfl,hT',d2⟩:=hy;refine eqw_refs (fun hne E Q hq=>?_) fun e=>?_
   · exact keq_eq (r:=true) (by simpa [← cs] using hT) (by simpa [← cs] using hT') d1 d2 (by lia) (fun e=>by simp at e) (by simpa using hq)
   · rw [e] at d1
     first|exact absurd (dict_len d1 d2) (Nat.succ_ne_zero 0)|exact absurd (dict_len d1 d2).symm (Nat.succ_ne_zero 0)
 · rw [if_neg (by decide),if_pos rfl] at hx hy;obtain ⟨T,rfl,hT,d1⟩:=hx;obtain ⟨T',rfl,hT',d2⟩:=hy;refine eqw_refs (fun hne E Q hq=>?_) fun _=>rfl
   exact keq_eq (r:=true) (by simpa [← cs] using hT) (by simpa [← cs] using hT') d1 d2 (by lia) (fun _=>.nil) (by simpa using hq)
theorem kindN_dict {k l:Nat}(hk:k=12∨k=15) (h1:l<16):decide (kindN k=kindN l)=decide (k=l):=by
 have:((xY 16).all fun l=>(decide (kindN 12=kindN l)==decide (12=l))&&(decide (kindN 15=kindN l)==decide (15=l)))=true:=by k_ne
 rw [List.all_eq_true] at this;have:=this l (by simpa using h1);simp only [yT,beq_iff_eq] at this;rcases hk with rfl|rfl
 · exact this.1
 · exact this.2
theorem el_eq {w:zT}{A:zU}{s:zX}{x y:zY}{k l:Nat}(hx:El w s.heap x k) (hy:El w s.heap y l) (hu:A.units+70<cLine):EqW w A s x y (decide (kindN k=kindN l)):=by
 by_cases hk:k=12∨k=15
 · rw [kindN_dict hk hy.lt];by_cases hl:l=12∨l=15
   · exact el_dd hx hy hk hl hu
   · obtain ⟨T,rfl,hT⟩:=hx.dict hk;obtain ⟨h1,as,r⟩:=hy.plain (by revert hl;k_in) (by revert hl;k_in);rw [l_f (by revert hk hl h1;k_in)];exact .of (dict_other hT r (datK_lay l h1 (by revert hl;k_in) (by revert hl h1;k_in)).1 (by lia)).1
 · by_cases hl:l=12∨l=15
   · have e:decide (kindN k=kindN l)=decide (l=k):=by rw [← kindN_dict hl hx.lt];exact decide_eq_decide.mpr ⟨Eq.symm,Eq.symm⟩
     rw [e];obtain ⟨T,rfl,hT⟩:=hy.dict hl;obtain ⟨h1,as,r⟩:=hx.plain (by revert hk;k_in) (by revert hk;k_in);rw [l_f (by revert hk hl h1;k_in)];exact .of (dict_other hT r (datK_lay k h1 (by revert hk;k_in) (by revert hk h1;k_in)).1 (by lia)).2
   · obtain ⟨h1,as,r⟩:=hx.plain (by revert hk;k_in) (by revert hk;k_in);obtain ⟨h2,bs,r'⟩:=hy.plain (by revert hl;k_in) (by revert hl;k_in);have a:=datK_lay k h1 (by revert hk;k_in) (by revert hk h1;k_in);have b:=datK_lay l h2 (by revert hl;k_in) (by revert hl h2;k_in);rw [← datK_eqv k h1 l h2 (by revert hk;k_in) (by revert hk h1;k_in) (by revert hl;k_in) (by revert hl h2;k_in)];exact .of (eqAt_reads _ _ A s x y as bs r r' a.1 b.1 (by have:=Nat.min_le_left (datK k).depth (datK l).depth;lia))
end
theorem like_body {w A L' g h t σ} {one other:zV}{xs ys:List zY}{ns ks:List Int}{p q:Int}{tp tq:Tok}{f:zV}{m} {Q:FP}{E:VP}
 (Z:Site w A L' g) (W:Wk g L' h m []) (h1:Ls g one xs) (h2:Ls g other ys) (i1:IntsL xs ns) (i2:IntsL ys ks) (z1:ns.length≤100) (z2:ks.length≤100)
 (e1:m (zQ "one")=some (.ref one)) (e2:m (zQ "other")=some (.ref other)) (e3:m (zQ "p")=some (.int p tp)) (e4:m (zQ "q")=some (.int q tq))
 (k:∀ h' t' b,Wk g L' h' m []→b=(decide (0≤p∧p<ns.length∧0≤q∧q<ks.length∧ns[p.toNat]? =ks[q.toNat]?))→Q (.ret (.bool b)) (S σ h' t')):
 zZ (zW PW w) A (execs (dB (st PW 12)) (envX n147 (dS (st PW 12)) L' f (.ref 281) [])) Q E (S σ h t):=by
 with_unfolding_all refine x_cons ?_
 kd_p
 · refine k _ _ _ W ?_;rename_i n tn e5 n' tn' e6;simp only [e5,e6,Option.some.injEq];congr 1;simp only [eq_iff_iff];constructor
   · intro hh;exact ⟨by lia,by lia,by lia,by lia,hh⟩
   · intro hh;exact hh.2.2.2.2
 all_goals (refine k _ _ _ W ?_;(rw [l_f (by lia),l_f (by lia)]))
theorem like_spec {w A L h₀ h t σ m news} {one other:zV}{xs ys:List zY}{ns ks:List Int}{p q:Int}{tp tq:Tok}{Q E:VP}
 (Z:Site w A L h₀) (W:Wk h₀ L h m news) (room:A.depth<zS) (h1:Ls h one xs) (h2:Ls h other ys) (i1:IntsL xs ns) (i2:IntsL ys ks) (z1:ns.length≤100) (z2:ks.length≤100)
 (k:∀ h' t' b,Wk h₀ L h' m news→Kp h h'→b=(decide (0≤p∧p<ns.length∧0≤q∧q<ks.length∧ns[p.toNat]? =ks[q.toNat]?))→Q (.bool b) (S σ h' t')):
 zZ (zW PW w) A (call (.ref 282) [.ref one,.ref other,.int p tp,.int q tq]) Q E (S σ h t):=
 fn_gen (mu:=[]) (rest:=news) (binds:=[(zQ "one",.ref one),(zQ "other",.ref other),(zQ "p",.int p tp),(zQ "q",.int q tq)]) Z W room (by rfl) (by k_ne) (BindsTo.of_eq (by k_ne)) (locs (by k_ne)) (by decide) (by k_ne) (by k_ne) (by k_ne) fun L' h₁ t₁ Z' W'=>
  like_body (one:=one) (other:=other) (p:=p) (q:=q) (tp:=tp) (tq:=tq) Z' W' h1 h2 i1 i2 z1 z2 (by k_ne) (by k_ne) (by k_ne) (by k_ne) fun h' t' b W₂ hb=>⟨h',t',_,[],rfl,W₂,fun W₃=>k h' t' b W₃ W₂.kp hb⟩
theorem like_sp {w A L h₀ h t σ m news} {one other:zV}{xs ys:List zY}{ns ks:List Int}{p q:Int}{tp tq:Tok}{Q E:VP}
 (Z:Site w A L h₀) (W:Wk h₀ L h m news) (room:A.depth<zS) (h1:Ls h one xs) (h2:Ls h other ys) (i1:IntsL xs ns) (i2:IntsL ys ks) (z1:ns.length≤100) (z2:ks.length≤100)
 (k1:∀ h' t',Wk h₀ L h' m news→Kp h h'→Like ns ks p q→Q (.bool true) (S σ h' t')) (k2:∀ h' t',Wk h₀ L h' m news→Kp h h'→¬ Like ns ks p q→Q (.bool false) (S σ h' t')):
 zZ (zW PW w) A (call (.ref 282) [.ref one,.ref other,.int p tp,.int q tq]) Q E (S σ h t):=
 like_spec Z W room h1 h2 i1 i2 z1 z2 fun h' t' b W' K hb=>by
  cases b
  · exact k2 _ _ W' K (by unfold Like;exact of_decide_eq_false hb.symm)
  · exact k1 _ _ W' K (by unfold Like;exact of_decide_eq_true hb.symm)
section
open PySem.SeqAt
structure Kd (w:zT) where
 is:Heap→zY→Int→Prop
 ok:Int→Prop
 hash:Int→Int
 keeps:∀ {h h':Heap}{v:zY}{c:Int},is h v c→Kp h h'→is h' v c
 inj:∀ {h:Heap}{v:zY}{c d:Int},is h v c→is h v d→c=d
 eqv:∀ {A:zU}{s:zX}{x y:zY}{c d:Int},is s.heap x c→is s.heap y d→A.units+70<cLine→EqW w A s x y (decide (c=d))
 pyHash:∀ {A:zU}{E:VP}{s:zX}{v:zY}{c:Int}{Q:Int→zX→Prop},is s.heap v c→ok c→A.units+70<cLine→(∀ tk,Q (hash c) { s with toks:=tk })→zZ (zW PW w) A (PySem.pyHash v) Q E s
 quiet:∀ {A:zU}{E:VP}{s:zX}{v:zY}{c:Int}{Q:Bool→zX→Prop},is s.heap v c→ok c→Q true s→zZ (zW PW w) A (eqIsQuiet 8 v) Q E s
 self:∀ {A:zU}{E:VP}{s:zX}{x y:zY}{c d:Int}{Q:Bool→zX→Prop},is s.heap y c→ok c→is s.heap x d→ok d→hash c=hash d→(x.scannable&&y.scannable)=false→Q true s→zZ (zW PW w) A (isSame y y) Q E s
 plainH:∀ {A:zU}{E:VP}{s:zX}{v:zY}{c:Int}{Q:Bool→zX→Prop},is s.heap v c→ok c→(∀ b,Q b s)→zZ (zW PW w) A (hashByValue 8 v) Q E s
 own:∀ {A:zU}{E:VP}{s:zX}{v:zY}{c:Int}{Q:Bool→zX→Prop},is s.heap v c→ok c→Q false s→zZ (zW PW w) A (ofAClassStatement 8 v) Q E s
 txt:∀ {h:Heap}{x y:Str}{t u:Tok}{c d:Int},is h (.str x t) c→is h (.str y u) d→(x==y)=decide (c=d)
theorem quiet_tup {w:zT}{A:zU}{E:VP}{s:zX}{a:zV}{o:Obj}{items:Array zY}{n:Nat}{Q:Bool→zX→Prop}(ho:s.heap.get? a=some o) (hc:o.cls= .type "tuple") (hd:o.data= .seq items n)
 (hi:∀ v∈items.toList,carriedByValue v=true) (h:Q true s):zZ (zW PW w) A (eqIsQuiet 8 (.ref a)) Q E s:=by
 have hT:s.TypeIs (.ref a) "tuple":=⟨o,ho,hc⟩;unfold eqIsQuiet;refine w_b (wpAny_specialOf hT PySem.F.slot_tuple_eq.lookup ?_);show zZ _ _ (isInstance (.ref a) (.type "tuple") >>=_) _ _ s
 refine w_b (wpAny_isInstance hT isSubtype_tuple_tuple ?_);simp -iota only [Bool.not_true,yZ,if_false];refine w_b (wpAny_seqItems ho hd ?_);refine w_b ?_;show zZ _ _ (forIn items _ _) _ _ s
 rw [← Array.forIn_toList];refine wpAny_forIn_list _ (fun rest r s'=>r.1=none∧s'=s∧∀ v∈rest,carriedByValue v=true) _ ?_ ?_ _ _ ⟨rfl,rfl,hi⟩
 · rintro v rest r s' ⟨hr,rfl,hall⟩;rw [eqIsQuiet_byValue _ (hall v List.mem_cons_self)];refine w_b (w_p ?_);simp -iota only [Bool.not_true,yZ,if_false];exact w_p ⟨rfl,rfl,fun u hu'=>hall u (List.mem_cons_of_mem _ hu')⟩
 · rintro ⟨r1,r2⟩ s' ⟨hr,rfl,_⟩;simp -iota only at hr;subst hr;exact w_p h
noncomputable def intKd (w:zT):Kd w where
 is:=fun _ v c=>∃ t,v= .int c t
 ok:=fun _=>True
 hash:=hashInt
 keeps:=fun x _=>x
 inj:=by
  rintro h v c d ⟨t,rfl⟩ ⟨u,e⟩;injection e
 eqv:=by
  rintro A s x y c d ⟨t,rfl⟩ ⟨u,rfl⟩ hu;have:=keq_flat (A:=A) (s:=s) (PyProof.V.Flat.int c t) (.int d u);rw [show PyData.eqv (.int c) (.int d)=decide (c=d) by simp only [PyData.eqv];by_cases h:c=d <;> simp [h]] at this;exact .of this
 pyHash:=by
  rintro A E s v c Q ⟨t,rfl⟩ _ _ k;exact wpAny_pyHash_int (k _)
 quiet:=by
  rintro A E s v c Q ⟨t,rfl⟩ _ k;rw [eqIsQuiet_byValue _ rfl];exact w_p k
 self:=by
  rintro A E s x y c d Q ⟨t,rfl⟩ _ ⟨u,rfl⟩ _ _ e _;cases e
 plainH:=by
  rintro A E s v c Q ⟨t,rfl⟩ _ k;exact w_p (k _)
 own:=by
  rintro A E s v c Q ⟨t,rfl⟩ _ k;exact w_p k
 txt:=by
  rintro h x y t u c d ⟨_,e⟩ _;cases e
theorem byv_tup {w:zT}{A:zU}{E:VP}{s:zX}{a:zV}{o:Obj}{items:Array zY}{n:Nat}{Q:Bool→zX→Prop}(ho:s.heap.get? a=some o) (hc:o.cls= .type "tuple") (hd:o.data= .seq items n)
 (hi:∀ v∈items.toList,∀ n,hashByValue n v=pure true) (h:Q true s):zZ (zW PW w) A (hashByValue 8 (.ref a)) Q E s:=by
 have hT:s.TypeIs (.ref a) "tuple":=⟨o,ho,hc⟩;unfold hashByValue;refine w_b (wpAny_specialOf hT PySem.F.slot_tuple_hash.lookup ?_);show zZ _ _ (seqItems? (.ref a) >>=_) _ _ s
 refine w_b (wpAny_seqItems ho hd ?_);refine w_b ?_;show zZ _ _ (forIn items _ _) _ _ s
 rw [← Array.forIn_toList];refine wpAny_forIn_list _ (fun rest r s'=>r.1=none∧s'=s∧∀ v∈rest,∀ n,hashByValue n v=pure true) _ ?_ ?_ _ _ ⟨rfl,rfl,hi⟩
 · rintro v rest r s' ⟨hr,rfl,hall⟩;rw [hall v List.mem_cons_self];refine w_b (w_p ?_);simp -iota only [Bool.not_true,yZ,if_false];exact w_p ⟨rfl,rfl,fun u hu'=>hall u (List.mem_cons_of_mem _ hu')⟩
 · rintro ⟨r1,r2⟩ s' ⟨hr,rfl,_⟩;simp -iota only at hr;subst hr;exact w_p h
theorem ofA (a:zV):ofAClassStatement 8 (.ref a)=(do
 match ← typeOf (.ref a) with
 | .type t=>
  let u ← if t=="tuple" then pure true else isSubtype (.type t) (.type "tuple")
  if !u then return false
  let some items ← seqItems? (.ref a)|return true
  for y in items do
   if ← ofAClassStatement 7 y then return true
  return false
 |_=>return true):=by k_ne
theorem own_tup {w:zT}{A:zU}{E:VP}{s:zX}{a:zV}{o:Obj}{items:Array zY}{n:Nat}{Q:Bool→zX→Prop}(ho:s.heap.get? a=some o) (hc:o.cls= .type "tuple") (hd:o.data= .seq items n)
 (hi:∀ v∈items.toList,∀ n,ofAClassStatement n v=pure false) (h:Q false s):zZ (zW PW w) A (ofAClassStatement 8 (.ref a)) Q E s:=by
 have hT:s.TypeIs (.ref a) "tuple":=⟨o,ho,hc⟩;rw [ofA];refine w_b (wpAny_typeOf hT ?_);dsimp only;rw [if_pos (by decide)];refine w_b (w_p ?_);simp -iota only [Bool.not_true,yZ,if_false];refine w_b (wpAny_seqItems ho hd ?_);dsimp only;refine w_b ?_;rw [← Array.forIn_toList];refine wpAny_forIn_list _ (fun rest r s'=>r.1=none∧s'=s∧∀ v∈rest,∀ n,ofAClassStatement n v=pure false) _ ?_ ?_ _ _ ⟨rfl,rfl,hi⟩
 · rintro v rest r s' ⟨hr,rfl,hall⟩;rw [hall v List.mem_cons_self];refine w_b (w_p ?_);simp -iota only [yZ,if_false];exact w_p ⟨rfl,rfl,fun u hu'=>hall u (List.mem_cons_of_mem _ hu')⟩
 · rintro ⟨r1,r2⟩ s' ⟨hr,rfl,_⟩;simp -iota only at hr;subst hr;exact w_p h
theorem hash_kind (P:Params) {k l:Nat}(hk:k<10) (hl:l<10) (e:kindN k=kindN l):hashW P (wdatK k)=hashW P (wdatK l):=by
 have:=all10 (all10 (p:=fun k=>(xY 10).all fun l=>k==l||(k==0&&l==1)||(k==1&&l==0)||(k==2&&l==3)||(k==3&&l==2)||(k==6&&l==7)||(k==7&&l==6)||!(kindN k==kindN l)) (n:=10) (by k_ne) hk) hl;simp -iota only [Bool.or_eq_true,yT,beq_iff_eq,Bool.not_eq_true',beq_eq_false_iff_ne] at this;rcases this with ((((((h|⟨h,q⟩)|⟨h,q⟩)|⟨h,q⟩)|⟨h,q⟩)|⟨h,q⟩)|⟨h,q⟩)|h <;> first|exact absurd e h|(subst h;first|rfl|(subst q;rfl))
theorem ten {k:Nat}(hk:k<10):k=0∨k=1∨k=2∨k=3∨k=4∨k=5∨k=6∨k=7∨k=8∨k=9:=by (revert hk;k_in)
theorem no_own {v:zY}(h:v.scannable=true) (n:Nat):ofAClassStatement n v=pure false:=by
 cases v <;> first|(cases n <;> rfl)|cases h
theorem El.look {w:zT}{h:Heap}{v:zY}{k:Nat}(x:El w h v k) (hk:k<10):
 (v.scannable=true∧k≠6∧k≠7∧(∀ n,∃ b,hashByValue n v=pure b)∧(∀ n,ofAClassStatement n v=pure false))∨
 ((k=6∨k=7)∧∃ a o items n,v= .ref a∧h.get? a=some o∧o.cls= .type "tuple"∧o.data= .seq items n∧(∀ v∈items.toList,∀ n,hashByValue n v=pure true)∧∀ v∈items.toList,∀ n,ofAClassStatement n v=pure false):=by
 have r:=x.well hk;by_cases e:k=6∨k=7
 · obtain ⟨d,e',hd⟩:=wk_tup e;rw [e'] at r;obtain ⟨a,u,rfl,hg,_,c,hp,_⟩:=w_tup hd r;refine .inr ⟨e,_,_,_,_,rfl,hg,rfl,rfl,fun v hv n=>?_,fun v hv n=>?_⟩
   · rw [zH.mp hv,hashByValue_scannable n c,hp]
   · rw [zH.mp hv];exact no_own c n
 · have c:=w_flat (wk_flat hk e) r;exact .inl ⟨c.1,fun h=>e (.inl h),fun h=>e (.inr h),fun n=>⟨_,hashByValue_scannable n c.1⟩,no_own c.1⟩
theorem El.quiet {w:zT}{A:zU}{E:VP}{s:zX}{v:zY}{k:Nat}{Q:Bool→zX→Prop}(x:El w s.heap v k) (hk:k<10) (q:Q true s):zZ (zW PW w) A (eqIsQuiet 8 v) Q E s:=by
 have r:=x.well hk;by_cases e:k=6∨k=7
 · obtain ⟨d,e',hd⟩:=wk_tup e;rw [e'] at r;obtain ⟨a,u,rfl,hg,c,_⟩:=w_tup hd r;exact quiet_tup hg rfl rfl (fun v hv=>by rw [zH.mp hv];exact c) q
 · rw [eqIsQuiet_byValue _ (w_flat (wk_flat hk e) r).2.1];exact w_p q
theorem hash_six (P:Params) {k:Nat}(hk:k<10) (h4:k≠4) (h6:k≠6) (h7:k≠7):hashW P (wdatK k)≠hashW P (wdatK 6):=by
 have e6:hashW P (wdatK 6)=reduceHash (Builtin.Tuple.tupleHashOf [1]):=by rfl
 rw [e6];have key:∀ i:Int,(i==reduceHash (Builtin.Tuple.tupleHashOf [1]))=false→i≠reduceHash (Builtin.Tuple.tupleHashOf [1]):=fun i h=>by simpa using h
 rcases ten hk with rfl|rfl|rfl|rfl|rfl|rfl|rfl|rfl|rfl|rfl
 · exact key 0 (by decide+kernel)
 · exact key 0 (by decide+kernel)
 · exact key 1 (by decide+kernel)
 · exact key 1 (by decide+kernel)
 · exact absurd rfl h4
 · exact key 0xFCA86420 (by decide+kernel)
 · exact absurd rfl h6
 · exact absurd rfl h7
 · exact key 0 (by decide+kernel)
 · exact key 2 (by decide+kernel)
theorem reads_str {h:Heap}{v:zY}{x:Str}{t:Tok}{d:PyData}{as:List zV}(r:Reads h v d as) (e:v= .str x t):d= .str x:=by
 induction r using Reads.casesOn with
 |str y u=>injection e with e _;rw [e]
 |_=>exact absurd e nofun
theorem El.str {w:zT}{h:Heap}{x:Str}{t:Tok}{k:Nat}(e:El w h (.str x t) k):datK k= .str x:=by
 have hk:=e.lt;by_cases h1:k=12∨k=15
 · obtain ⟨T,e,_⟩:=e.dict h1;cases e
 · obtain ⟨_,as,r⟩:=e.plain (by revert h1;k_in) (by revert hk h1;k_in);exact reads_str r rfl
theorem dict_ne_heap {h:Heap}{d l:zV}{c:String}{o:Obj}(hc:o.cls= .type c) (hne:c≠"dict") (ho:h.get? l=some o) (x:DictAt h d):d≠l:=fun e=>by
 subst e;obtain ⟨_,_,_,_,e⟩:=x;rw [ho] at e;cases e;exact hne (by injection hc with hc;exact hc.symm)
theorem reads_ref {h:Heap}{v:zY}{T:zV}{d:PyData}{as:List zV}(r:Reads h v d as) (e:v= .ref T) (hT:DictAt h T) (hl:d.canLay0=true):False:=by
 induction r using Reads.casesOn with
 |list ho hc hd _=>injection e with e;rw [← e] at hT;exact dict_ne_heap hc (by decide) ho hT rfl
 |tuple ho hc hd _=>injection e with e;rw [← e] at hT;exact dict_ne_heap hc (by decide) ho hT rfl
 |dict=>simp -iota [PyData.canLay0] at hl
 |_=>cases e
theorem El.inj {w:zT}{h:Heap}{v:zY}{k l:Nat}(x:El w h v k) (y:El w h v l):kindN k=kindN l:=by
 have other:∀ {a b:Nat},El w h v a→El w h v b→(a=12∨a=15)→¬ (b=12∨b=15)→False:=by
  intro a b x y ha hb;obtain ⟨T,rfl,hT⟩:=x.dict ha;obtain ⟨h1,as,r⟩:=y.plain (by revert hb;k_in) (by revert hb;k_in);exact reads_ref r rfl hT (datK_lay b h1 (by revert hb;k_in) (by revert hb h1;k_in)).1
 by_cases hk:k=12∨k=15
 · by_cases hl:l=12∨l=15
   · unfold El at x y;rcases hk with rfl|rfl <;> rcases hl with rfl|rfl
     · rfl
     · rw [if_pos rfl] at x;rw [if_neg (by decide),if_pos rfl] at y;obtain ⟨T,u,rfl,hT,d1⟩:=x;obtain ⟨T',e,hT',d2⟩:=y;injection e with e;rw [e] at d1
       first|exact absurd (dict_len d1 d2) (Nat.succ_ne_zero 0)|exact absurd (dict_len d1 d2).symm (Nat.succ_ne_zero 0)
     · rw [if_pos rfl] at y;rw [if_neg (by decide),if_pos rfl] at x;obtain ⟨T,u,rfl,hT,d1⟩:=y;obtain ⟨T',e,hT',d2⟩:=x;injection e with e;rw [e] at d1
       first|exact absurd (dict_len d1 d2) (Nat.succ_ne_zero 0)|exact absurd (dict_len d1 d2).symm (Nat.succ_ne_zero 0)
     · rfl
   · exact (other x y hk hl).elim
 · by_cases hl:l=12∨l=15
   · exact (other y x hl hk).elim
   · obtain ⟨h1,as,r⟩:=x.plain (by revert hk;k_in) (by revert hk;k_in);obtain ⟨h2,bs,r'⟩:=y.plain (by revert hl;k_in) (by revert hl;k_in);have a:=datK_lay k h1 (by revert hk;k_in) (by revert hk h1;k_in);have e:=Reads.unique _ _ _ _ _ a.1 r r';have q:=datK_eqv k h1 l h2 (by revert hk;k_in) (by revert hk h1;k_in) (by revert hl;k_in) (by revert hl h2;k_in);rw [← e,eqv_refl _ a.1] at q;exact of_decide_eq_true q.symm
theorem kind_lt {k l:Nat}(hk:k<10) (hl:l<16) (e:kindN k=kindN l):l<10:=by
 have:((xY 10).all fun a=>(xY 16).all fun b=>decide (kindN a=kindN b→b<10))=true:=by k_ne
 rw [List.all_eq_true] at this;have:=this k (by simpa using hk);rw [List.all_eq_true] at this;have:=this l (by simpa using hl);simp -iota only [decide_eq_true_eq] at this;exact this e
noncomputable def hashN (w:zT) (num:Nat→Int) (c:Int):Int:=by
 classical
 exact if h:∃ k,k<10∧num k=c then hashW w.params (wdatK h.choose) else 0
theorem hash_num {w:zT}{num:Nat→Int}{k:Nat}(hkk:k<10) (hnum:∀ k l,k<16→l<16→(num k=num l↔kindN k=kindN l)):hashN w num (num k)=hashW w.params (wdatK k):=by
 have hex:∃ l,l<10∧num l=num k:=⟨k,hkk,rfl⟩;unfold hashN;rw [dif_pos hex];have hc:=hex.choose_spec;exact hash_kind w.params hc.1 hkk ((hnum _ _ (Nat.lt_trans hc.1 (by decide)) (Nat.lt_trans hkk (by decide))).mp hc.2)
noncomputable def elKd (w:zT) (num:Nat→Int) (hnum:∀ k l,k<16→l<16→(num k=num l↔kindN k=kindN l)):Kd w where
 is:=fun h v c=>∃ k,El w h v k∧num k=c
 ok:=fun c=>∃ k,k<10∧num k=c
 hash:=hashN w num
 keeps:=by
  rintro h h' v c ⟨k,x,e⟩ K;exact ⟨k,x.kp K,e⟩
 inj:=by
  rintro h v c d ⟨k,x,rfl⟩ ⟨l,y,rfl⟩;rw [hnum k l x.lt y.lt];exact x.inj y
 eqv:=by
  rintro A s x y c d ⟨k,hx,rfl⟩ ⟨l,hy,rfl⟩ hu;have:=el_eq hx hy hu;rwa [show decide (kindN k=kindN l)=decide (num k=num l) from decide_eq_decide.mpr (hnum k l hx.lt hy.lt).symm] at this
 pyHash:=by
  rintro A E s v c Q ⟨k,hx,rfl⟩ ⟨k',hk',e⟩ hu q;have hkk:k<10:=kind_lt hk' hx.lt ((hnum k' k (Nat.lt_trans hk' (by decide)) hx.lt).mp e)
  refine pyHash_laid (wdatK k) v A s Q (by
   have:((xY 10).all fun a=>(wdatK a).isDKey)=true:=by k_ne
   rw [List.all_eq_true] at this;exact this k (by simpa using hkk)) (hx.well hkk) (by
   have:((xY 10).all fun a=>decide ((wdatK a).depth≤70))=true:=by k_ne
   rw [List.all_eq_true] at this;have:=this k (by simpa using hkk);simp -iota only [decide_eq_true_eq] at this
   (revert hu this;k_in)) fun tk=>?_
  have:=q tk;rw [hash_num hkk hnum] at this;exact this
 quiet:=by
  rintro A E s v c Q ⟨k,hx,rfl⟩ ⟨k',hk',e⟩ q;exact hx.quiet (kind_lt hk' hx.lt ((hnum k' k (Nat.lt_trans hk' (by decide)) hx.lt).mp e)) q
 self:=by
  rintro A E s x y c d Q ⟨k,hy,rfl⟩ ⟨k',hk',e⟩ ⟨l,hx,rfl⟩ ⟨l',hl',e'⟩ hh hs q;have hkk:k<10:=kind_lt hk' hy.lt ((hnum k' k (Nat.lt_trans hk' (by decide)) hy.lt).mp e);have hll:l<10:=kind_lt hl' hx.lt ((hnum l' l (Nat.lt_trans hl' (by decide)) hx.lt).mp e');rw [hash_num hkk hnum,hash_num hll hnum] at hh;refine (hy.look hkk).elim (fun p=>?_) fun p=>?_
  · obtain ⟨s1,n6,n7,-⟩:=p;refine (hx.look hll).elim (fun p=>?_) fun p=>?_
    · rw [s1,p.1] at hs;cases hs
    · obtain ⟨h67,-⟩:=p
      have hh':hashW w.params (wdatK k)=hashW w.params (wdatK 6):=by
       rw [hh];rcases h67 with rfl|rfl
       · rfl
       · exact hash_kind w.params (by decide) (by decide) (by decide)
      by_cases h4:k=4
      · have r:Well w.params s.heap y (.str (zQ "a")):=by have r:=hy.well hkk;rw [h4] at r;exact r
        rw [h4] at hy;obtain ⟨t,rfl⟩:RI s.heap y (.str (zQ "a")):=reads_inv (flat_of_well (d:=.str (zQ "a")) rfl r s.heap)
        · have ht:=hy.tok;show zZ _ _ (isSame.created _ t t) _ _ _
          unfold isSame.created;rw [if_neg (by simpa using ht),if_pos (by simp)];exact w_p q
      · exact absurd hh' (hash_six w.params hkk h4 n6 n7)
  · obtain ⟨-,a,o,items,n,rfl,-⟩:=p;exact wpAny_isSame_ref_self q
 plainH:=by
  rintro A E s v c Q ⟨k,hx,rfl⟩ ⟨k',hk',e⟩ q;have hkk:k<10:=kind_lt hk' hx.lt ((hnum k' k (Nat.lt_trans hk' (by decide)) hx.lt).mp e);rcases hx.look hkk with ⟨_,_,_,hb,_⟩|⟨_,a,o,items,n,rfl,ho,hc,hd,hi,_⟩
  · obtain ⟨b,hb⟩:=hb 8;exact yK hb (q b)
  · exact byv_tup ho hc hd hi (q _)
 own:=by
  rintro A E s v c Q ⟨k,hx,rfl⟩ ⟨k',hk',e⟩ q;have hkk:k<10:=kind_lt hk' hx.lt ((hnum k' k (Nat.lt_trans hk' (by decide)) hx.lt).mp e);rcases hx.look hkk with ⟨_,_,_,_,hb⟩|⟨_,a,o,items,n,rfl,ho,hc,hd,_,hi⟩
  · exact yK (hb 8) q
  · exact own_tup ho hc hd hi q
 txt:=by
  rintro h x y t u c d ⟨k,hx,rfl⟩ ⟨l,hy,rfl⟩;have a:=hx.str;have b:=hy.str;have hk:=hx.lt;have hl:=hy.lt;have n1:k≠12:=by rintro rfl;cases a
  have n2:k≠15:=by rintro rfl;cases a
  have n3:l≠12:=by rintro rfl;cases b
  have n4:l≠15:=by rintro rfl;cases b
  have:=datK_eqv k hk l hl n1 n2 n3 n4;rw [a,b] at this;rw [show decide (num k=num l)=decide (kindN k=kindN l) from decide_eq_decide.mpr (hnum k l hk hl),← this];rfl
end
structure FM (one other:zV) (odd:Int) (todd:Tok) (m:NM):Prop where
 mk::
 (x1:m (zQ "one")=some (.ref one))
 (x2:m (zQ "other")=some (.ref other))
 (x3:m (zQ "odd")=some (.int odd todd))
inductive PQm (b:Nat×Nat×Nat) (m:NM):Prop
 |mk (a1 a2 a3:Int) (t1 t2 t3:Tok) (x1:m (zQ "p")=some (.int a1 t1)) (x2:m (zQ "q")=some (.int a2 t2)) (x3:m (zQ "size")=some (.int a3 t3)) (x4:a1=b.1) (x5:a2=b.2.1) (x6:a3=b.2.2)
noncomputable def B1 (odd:Int) (ns ks:List Int) (i:Nat):=(xY i).foldl (bestIn odd ns ks) (0,0,0)
noncomputable def B2 (odd:Int) (ns ks:List Int) (i j:Nat):=(xY j).foldl (better odd ns ks i) (B1 odd ns ks i)
theorem B2_succ {odd ns ks i j}:B2 odd ns ks i (j+1)=better odd ns ks i (B2 odd ns ks i j) j:=by unfold B2;rw [List.range_succ,List.foldl_append];rfl
theorem B1_succ {odd ns ks i}:B1 odd ns ks (i+1)=B2 odd ns ks i ks.length:=by unfold B2;rw [B1,List.range_succ,List.foldl_append];rfl
theorem better_gt {odd ns ks i b j} (h:runAt odd ns ks i j > b.2.2):better odd ns ks i b j=(i,j,runAt odd ns ks i j):=if_pos h
theorem better_le {odd ns ks i b j} (h:¬ runAt odd ns ks i j > b.2.2):better odd ns ks i b j=b:=if_neg h
inductive MA (one other:zV) (odd:Int) (todd:Tok) (ns ks:List Int) (i:Nat) (m':NM) (news':Led):Prop
 |mk (x1:news'=[]) (x2:FM one other odd todd m') (x3:PQm (B1 odd ns ks i) m')
inductive MB2 (one other:zV) (odd:Int) (todd:Tok) (ns ks:List Int) (own₁:Led) (i:Nat) (tk:Tok) (j:Nat) (m':NM) (news':Led):Prop
 |mk (x1:news'=own₁) (x2:FM one other odd todd m') (x3:PQm (B2 odd ns ks i j) m') (x4:m' (zQ "start")=some (.int i tk))
inductive MC (one other:zV) (odd:Int) (todd:Tok) (ns ks:List Int) (tl:Led) (b1 b2 b3:Int) (t1 t2 t3 tk tk2:Tok) (i j:Nat) (c:Nat) (m':NM) (news':Led):Prop
 |mk (x1:news'=tl) (x2:FM one other odd todd m') (x3:(m' (zQ "p")=some (.int b1 t1)∧m' (zQ "q")=some (.int b2 t2)∧m' (zQ "size")=some (.int b3 t3))) (x4:m' (zQ "start")=some (.int i tk)) (x5:m' (zQ "place")=some (.int j tk2)) (k:Nat) (a:Int) (tk3:Tok) (x7:m' (zQ "more")=some (.int a tk3)) (x8:a=k) (x9:k+c=runAt odd ns ks i j)
inductive MD (one other:zV) (odd:Int) (todd:Tok) (ns ks:List Int) (tl:Led) (b1 b2 b3:Int) (t1 t2 t3 tk tk2:Tok) (i j:Nat) (m':NM) (news':Led):Prop
 |mk (x1:news'=tl) (x2:FM one other odd todd m') (x3:(m' (zQ "p")=some (.int b1 t1)∧m' (zQ "q")=some (.int b2 t2)∧m' (zQ "size")=some (.int b3 t3))) (x4:m' (zQ "start")=some (.int i tk)) (x5:m' (zQ "place")=some (.int j tk2)) (tk3:Tok) (x7:m' (zQ "more")=some (.int (runAt odd ns ks i j) tk3))
inductive ME (one other:zV) (odd:Int) (todd:Tok) (ns ks:List Int) (p q z:Nat) (c:Nat) (m':NM) (news':Led):Prop
 |mk (x1:news'=[]) (x2:FM one other odd todd m') (j:Nat) (a1 a2 a3:Int) (t1 t2 t3:Tok) (x4:m' (zQ "p")=some (.int a1 t1)) (x5:m' (zQ "q")=some (.int a2 t2)) (x6:m' (zQ "size")=some (.int a3 t3)) (x7:a1=((p - j:Nat):Int)) (x8:a2=((q - j:Nat):Int)) (x9:a3=((z+j:Nat):Int)) (x10:j+c=backN odd ns ks p q)
inductive MF (one other:zV) (odd:Int) (todd:Tok) (ns ks:List Int) (p q z:Nat) (m':NM) (news':Led):Prop
 |mk (x1:news'=[]) (x2:FM one other odd todd m') (a1 a2 a3:Int) (t1 t2 t3:Tok) (x4:m' (zQ "p")=some (.int a1 t1)) (x5:m' (zQ "q")=some (.int a2 t2)) (x6:m' (zQ "size")=some (.int a3 t3)) (x7:a1=((p - backN odd ns ks p q:Nat):Int)) (x8:a2=((q - backN odd ns ks p q:Nat):Int)) (x9:a3=((z+backN odd ns ks p q:Nat):Int))
inductive MG (one other:zV) (odd:Int) (todd:Tok) (ns ks:List Int) (p q z bk:Nat) (a1 a2:Int) (t1 t2:Tok) (c:Nat) (m':NM) (news':Led):Prop
 |mk (x1:news'=[]) (x2:FM one other odd todd m') (j:Nat) (a3:Int) (t3:Tok) (x4:m' (zQ "p")=some (.int a1 t1)) (x5:m' (zQ "q")=some (.int a2 t2)) (x6:m' (zQ "size")=some (.int a3 t3)) (x7:a3=((z+bk+j:Nat):Int)) (x8:j+c=frontN odd (ns.drop (p+z)) (ks.drop (q+z)))
inductive MH (one other:zV) (odd:Int) (todd:Tok) (ns ks:List Int) (p q z bk:Nat) (a1 a2:Int) (t1 t2:Tok) (m':NM) (news':Led):Prop
 |mk (x1:news'=[]) (x2:FM one other odd todd m') (a3:Int) (t3:Tok) (x4:m' (zQ "p")=some (.int a1 t1)) (x5:m' (zQ "q")=some (.int a2 t2)) (x6:m' (zQ "size")=some (.int a3 t3)) (x7:a3=((z+bk+frontN odd (ns.drop (p+z)) (ks.drop (q+z)):Nat):Int))
theorem match_body {w A L' g h t σ} {one other:zV}{xs ys:List zY}{ns ks:List Int}{odd:Int}{todd:Tok}{f:zV}{m} {Q:FP}{E:VP}
 (Z:Site w A L' g) (W:Wk g L' h m []) (room:A.depth<zS) (h1:Ls g one xs) (h2:Ls g other ys) (i1:IntsL xs ns) (i2:IntsL ys ks) (z1:ns.length≤100) (z2:ks.length≤100)
 (e1:m (zQ "one")=some (.ref one)) (e2:m (zQ "other")=some (.ref other)) (e3:m (zQ "odd")=some (.int odd todd))
 (k:∀ h' t' m' T t1 t2 t3 n,Wk g L' h' m' [(T,tob [.int (matchP odd ns ks).1 t1,.int (matchP odd ns ks).2.1 t2,.int (matchP odd ns ks).2.2 t3] n)]→Q (.ret (.ref T)) (S σ h' t')):
 zZ (zW PW w) A (execs (dB (st PW 13)) (envX n148 (dS (st PW 13)) L' f (.ref 288) [])) Q E (S σ h t):=by
 with_unfolding_all refine x_cons ?_
 kd_p;refine x_for ?_ (by intro _;rfl);kd_p;replace W:=W.nil
 refine for_r1 (MA one other odd todd ns ks ) W Z.hh (by revert z1;k_in) (by intro _ _;rfl)
  ⟨rfl,⟨by k_is,by k_is,by k_is⟩,⟨_,_,_,_,_,_,by k_is,by k_is,by k_is,by rfl,by rfl,by rfl⟩⟩ ?_ ?_
 · clear W;intro i v m₁ news₁ own₁ h₂ t₂ tk E' hi j10 j11 W;refine hid fun QQ hQ=>?_;obtain rfl:=j10;obtain ⟨rfl,⟨f1,f2,f3⟩,a1,a2,a3,t1,t2,t3,g1,g2,g3,q1,q2,q3⟩:=j11;kd_p;refine x_for ?_ (by intro _;rfl);kd_p
   refine for_r1 (MB2 one other odd todd ns ks own₁ i tk) W Z.hh (by revert z2;k_in) (by intro _ _;rfl)
    ⟨by simp,⟨by k_is,by k_is,by k_is⟩,⟨_,_,_,_,_,_,by k_is,by k_is,by k_is,by exact q1,by exact q2,by exact q3⟩,by k_is⟩ ?_ ?_
   · clear W;intro j v m₂ news₂ own₂ h₃ t₃ tk2 E2 hj j10 j11 W;refine hid fun QQ hQ=>?_;obtain rfl:=j10;obtain ⟨rfl,⟨f1,f2,f3⟩,⟨b1,b2,b3,t1,t2,t3,g1,g2,g3,q1,q2,q3⟩,g4⟩:=j11;kd_p;have hr:=runL_le odd (ns.drop i) (ks.drop j);simp only [xW] at hr
     refine x_whl (MC one other odd todd ns ks (own₂++news₂) b1 b2 b3 t1 t2 t3 tk tk2 i j)
      (MD one other odd todd ns ks (own₂++news₂) b1 b2 b3 t1 t2 t3 tk tk2 i j) (runAt odd ns ks i j)
      ⟨rfl,⟨by k_is,by k_is,by k_is⟩,⟨by k_is,by k_is,by k_is⟩,by k_is,by k_is,0,_,_,by k_is,by rfl,by k_in⟩ W ?_ ?_
     · clear W;intro c m₁ news₁ h₁ t₁ E3 j6 W;refine hidw fun QQ RR hQ hR=>?_;obtain ⟨rfl,⟨f1,f2,f3⟩,⟨g1,g2,g3⟩,g4,g5,k',a,tk3,g6,rfl,hc⟩:=j6;kd_p;have hn:=run_like (odd:=odd) (ns:=ns) (ks:=ks) (i:=i) (j:=j) (k:=k') (by revert hc;k_in);refine like_sp Z W room (by wtm_at "s") (by wtm_at "s") i1 i2 z1 z2 (fun h' t' W' _ hb=>?_) (fun h' t' W' _ hb=>?_)
       · wtm_at "w";obtain ⟨q1,q2,q3,q4,q5⟩:=id hb;kd_p
         · have e:=‹ns[((i:Int)+(k':Int)).toNat]? =some _›;have:k'<runAt odd ns ks i j:=hn.mpr ⟨hb,fun x=>absurd (l_j (e.symm.trans x)) ‹_›⟩;refine hQ _ _ (tw_next W ⟨c - 1,by revert hc this;k_in,rfl,⟨by k_is,by k_is,by k_is⟩,⟨by k_is,by k_is,by k_is⟩,by k_is,by k_is,k'+1,_,_,by k_is,by k_in,by revert hc this;k_in⟩)
         · have e:=‹ns[((i:Int)+(k':Int)).toNat]? =some _›;have hne:=‹¬ ¬ _=odd›;have:¬ k'<runAt odd ns ks i j:=fun x=>hne fun y=>(hn.mp x).2 (by rw [e,y])
           have:k'=runAt odd ns ks i j:=by (revert this hc;k_in)
           refine hR _ (lv W ⟨rfl,⟨by k_is,by k_is,by k_is⟩,⟨by k_is,by k_is,by k_is⟩,by k_is,by k_is,_,by rw [← this];k_is⟩)
       · wtm_at "w";kd_p;have:¬ k'<runAt odd ns ks i j:=fun x=>hb (hn.mp x).1
         have:k'=runAt odd ns ks i j:=by (revert this hc;k_in)
         refine hR _ (lv W ⟨rfl,⟨by k_is,by k_is,by k_is⟩,⟨by k_is,by k_is,by k_is⟩,by k_is,by k_is,_,by rw [← this];k_is⟩)
     · clear W;rintro h' t' m' news' ⟨rfl,⟨f1,f2,f3⟩,⟨g1,g2,g3⟩,g4,g5,tk3,g6⟩ W;kd_p
       · have:(runAt odd ns ks i j) > (B2 odd ns ks i j).2.2:=by (rename_i z6 _ _ _ _ _ _;revert q3 z6;k_in)
         refine hQ _ _ (tn_next W ⟨rfl,⟨by k_is,by k_is,by k_is⟩,⟨_,_,_,_,_,_,by k_is,by k_is,by k_is,by rw [B2_succ,better_gt this],by rw [B2_succ,better_gt this],by rw [B2_succ,better_gt this]⟩,by k_is⟩)
       · have:¬ (runAt odd ns ks i j) > (B2 odd ns ks i j).2.2:=by (rename_i z0;revert q3 z0;k_in)
         refine hQ _ _ (tn_next W ⟨rfl,⟨by k_is,by k_is,by k_is⟩,⟨_,_,_,_,_,_,by k_is,by k_is,by k_is,by rw [B2_succ,better_le this];exact q1,by rw [B2_succ,better_le this];exact q2,by rw [B2_succ,better_le this];exact q3⟩,by k_is⟩)
   · clear W;rintro h' t' m' news' ⟨rfl,⟨f1,f2,f3⟩,⟨b1,b2,b3,t1,t2,t3,g1,g2,g3,q1,q2,q3⟩,g4⟩ W;kd_p;rw [yV,← B1_succ] at q1 q2 q3;refine hQ _ _ (tn_next (news:=[]) (by simpa using W) ⟨rfl,⟨by k_is,by k_is,by k_is⟩,⟨_,_,_,_,_,_,by k_is,by k_is,by k_is,q1,q2,q3⟩⟩)
 · clear W;rintro h' t' m' news' ⟨rfl,⟨f1,f2,f3⟩,⟨b1,b2,b3,t1,t2,t3,g1,g2,g3,q1,q2,q3⟩⟩ W;rw [yV] at q1 q2 q3;have hl:Lies ns ks (B1 odd ns ks ns.length):=best_lies _ (yX _)
   have hm:matchP odd ns ks=(let (p,q,z):=B1 odd ns ks ns.length
    let b:=backN odd ns ks p q
    (p - b,q - b,z+b+frontN odd (ns.drop (p+z)) (ks.drop (q+z)))):=rfl
   generalize B1 odd ns ks ns.length=pqz at hm hl q1 q2 q3;obtain ⟨p,q,z⟩:=pqz;dsimp only [Lies] at hm hl q1 q2 q3;have hb:=backN_le odd ns ks p q;have hf:=frontN_le odd (ns.drop (p+z)) (ks.drop (q+z));simp only [xW] at hf;kd_p
   refine x_whl (ME one other odd todd ns ks p q z)
    (MF one other odd todd ns ks p q z)
    (backN odd ns ks p q)
    ⟨rfl,⟨by k_is,by k_is,by k_is⟩,0,_,_,_,_,_,_,by k_is,by k_is,by k_is,by revert q1;k_in,by revert q2;k_in,by revert q3;k_in,by k_in⟩ W ?_ ?_
   · clear W;intro c m₁ news₁ h₁ t₁ E3 j6 W;refine hidw fun QQ RR hQ hR=>?_;obtain ⟨rfl,⟨f1,f2,f3⟩,j,a1,a2,a3,t1,t2,t3,g1,g2,g3,y1,y2,y3,hj⟩:=j6;kd_p;have hs:=backN_step odd ns ks j p q (by revert hj;k_in);have hn:=back_like (odd:=odd) (ns:=ns) (ks:=ks) (p:=p - j) (q:=q - j);rw [← y1,← y2] at hn;refine like_sp Z W room (by wtm_at "s") (by wtm_at "s") i1 i2 z1 z2 (fun h' t' W' _ hb=>?_) (fun h' t' W' _ hb=>?_)
     · wtm_at "w";obtain ⟨u1,u2,u3,u4,u5⟩:=id hb;kd_p
       · have e:=‹ns[(a1 - 1).toNat]? =some _›;have he:=‹_=odd›;have:0<backN odd ns ks (p - j) (q - j):=hn.mpr ⟨hb,by rw [e,he]⟩;refine hQ _ _ (tw_next W ⟨c - 1,by revert hj hs this;k_in,rfl,⟨by k_is,by k_is,by k_is⟩,j+1,_,_,_,_,_,_,by k_is,by k_is,by k_is,by revert y1 u1 u3;k_in,by revert y2 u1 u3;k_in,by revert y3;k_in,by revert hj hs this;k_in⟩)
       · have e:=‹ns[(a1 - 1).toNat]? =some _›;have he:=‹¬ _=odd›;have:¬ 0<backN odd ns ks (p - j) (q - j):=fun x=>he (l_j (e.symm.trans (hn.mp x).2))
         have e':j=backN odd ns ks p q:=by (revert hs this;k_in)
         refine hR _ (lv W ⟨rfl,⟨by k_is,by k_is,by k_is⟩,_,_,_,_,_,_,by k_is,by k_is,by k_is,by rw [← e'];exact y1,by rw [← e'];exact y2,by rw [← e'];exact y3⟩)
     · wtm_at "w";kd_p;have:¬ 0<backN odd ns ks (p - j) (q - j):=fun x=>hb (hn.mp x).1
       have e':j=backN odd ns ks p q:=by (revert hj hs this;k_in)
       refine hR _ (lv W ⟨rfl,⟨by k_is,by k_is,by k_is⟩,_,_,_,_,_,_,by k_is,by k_is,by k_is,by rw [← e'];exact y1,by rw [← e'];exact y2,by rw [← e'];exact y3⟩)
   · clear W;rintro h' t' m' news' ⟨rfl,⟨f1,f2,f3⟩,a1,a2,a3,t1,t2,t3,g1,g2,g3,y1,y2,y3⟩ W;generalize backN odd ns ks p q=bk at*;kd_p
     refine x_whl (MG one other odd todd ns ks p q z bk a1 a2 t1 t2)
      (MH one other odd todd ns ks p q z bk a1 a2 t1 t2)
      (frontN odd (ns.drop (p+z)) (ks.drop (q+z)))
      ⟨rfl,⟨by k_is,by k_is,by k_is⟩,0,_,_,by k_is,by k_is,by k_is,by revert y3;k_in,by k_in⟩ W ?_ ?_
     · clear W;intro c m₁ news₁ h₁ t₁ E3 j6 W;refine hidw fun QQ RR hQ hR=>?_;obtain ⟨rfl,⟨f1,f2,f3⟩,j,a3,t3,g1,g2,g3,y3,hj⟩:=j6;kd_p;have hs:=frontN_step odd j (ns.drop (p+z)) (ks.drop (q+z)) (by revert hj;k_in);rw [List.drop_drop,List.drop_drop] at hs;have hn:=front_like (odd:=odd) (ns:=ns) (ks:=ks) (p:=p+z+j) (q:=q+z+j);rw [show ((p+z+j:Nat):Int)=a1+a3 by revert y1 y3 hb;k_in,show ((q+z+j:Nat):Int)=a2+a3 by revert y2 y3 hb;k_in] at hn;refine like_sp Z W room (by wtm_at "s") (by wtm_at "s") i1 i2 z1 z2 (fun h' t' W' _ hb=>?_) (fun h' t' W' _ hb=>?_)
       · wtm_at "w";obtain ⟨u1,u2,u3,u4,u5⟩:=id hb;kd_p
         · have e:=‹ns[(a1+a3).toNat]? =some _›;have he:=‹_=odd›;have:=hn.mpr ⟨hb,by rw [e,he]⟩;refine hQ _ _ (tw_next W ⟨c - 1,by revert hj hs this;k_in,rfl,⟨by k_is,by k_is,by k_is⟩,j+1,_,_,by k_is,by k_is,by k_is,by revert y3;k_in,by revert hj hs this;k_in⟩)
         · have e:=‹ns[(a1+a3).toNat]? =some _›;have he:=‹¬ _=odd›;have:¬ 0<frontN odd (ns.drop (p+z+j)) (ks.drop (q+z+j)):=fun x=>he (l_j (e.symm.trans (hn.mp x).2))
           have e':j=frontN odd (ns.drop (p+z)) (ks.drop (q+z)):=by (revert hs this;k_in)
           refine hR _ (lv W ⟨rfl,⟨by k_is,by k_is,by k_is⟩,_,_,by k_is,by k_is,by k_is,by rw [← e'];exact y3⟩)
       · wtm_at "w";kd_p;have:¬ 0<frontN odd (ns.drop (p+z+j)) (ks.drop (q+z+j)):=fun x=>hb (hn.mp x).1
         have e':j=frontN odd (ns.drop (p+z)) (ks.drop (q+z)):=by (revert hj hs this;k_in)
         refine hR _ (lv W ⟨rfl,⟨by k_is,by k_is,by k_is⟩,_,_,by k_is,by k_is,by k_is,by rw [← e'];exact y3⟩)
     · clear W;rintro h' t' m' news' ⟨rfl,⟨f1,f2,f3⟩,a3,t3,g1,g2,g3,y3⟩ W;kd_p;subst y1 y2 y3;exact k _ _ _ _ t1 t2 t3 _ (by rw [hm];exact W)
theorem match_spec {w A L h₀ h t σ m news} {one other:zV}{xs ys:List zY}{ns ks:List Int}{odd:Int}{todd:Tok}{Q E:VP}
 (Z:Site w A L h₀) (W:Wk h₀ L h m news) (room:A.depth+1<zS) (h1:Ls h one xs) (h2:Ls h other ys) (i1:IntsL xs ns) (i2:IntsL ys ks) (z1:ns.length≤100) (z2:ks.length≤100)
 (k:∀ h' t' T t1 t2 t3 n,Wk h₀ L h' m ((T,tob [.int (matchP odd ns ks).1 t1,.int (matchP odd ns ks).2.1 t2,.int (matchP odd ns ks).2.2 t3] n)::news)→Kp h h'→Q (.ref T) (S σ h' t')):
 zZ (zW PW w) A (call (.ref 289) [.ref one,.ref other,.int odd todd]) Q E (S σ h t):=
 fn_gen (mu:=[]) (rest:=news) (binds:=[(zQ "one",.ref one),(zQ "other",.ref other),(zQ "odd",.int odd todd)]) Z W (by lia) (by rfl) (by k_ne) (BindsTo.of_eq (by k_ne)) (locs (by k_ne)) (by decide) (by k_ne) (by k_ne) (by k_ne) fun L' h₁ t₁ Z' W'=>
  match_body (one:=one) (other:=other) (odd:=odd) (todd:=todd) (xs:=xs) (ys:=ys) Z' W' (by show A.depth+1<_;lia) h1 h2 i1 i2 z1 z2 (by k_ne) (by k_ne) (by k_ne) fun h' t' m' T t1 t2 t3 n W₂=>⟨h',t',_,_,rfl,W₂,fun W₃=>k h' t' T t1 t2 t3 n W₃ W₂.kp⟩
section
open PySem.SeqAt
abbrev Rw:=Int×zY×zY
noncomputable def ent {w:zT}(K:Kd w) (x:Rw):DictEntry:=⟨K.hash x.1,x.2.1,x.2.2⟩
noncomputable def ents {w:zT}(K:Kd w) (xs:List Rw):Array DictEntry:=(xs.map (ent K)).toArray
noncomputable def dob {w:zT}(K:Kd w) (xs:List Rw) (ep:Nat):Obj:={ cls:=.type "dict",data:=.dict (ents K xs) ep }
def Keyed {w:zT}(K:Kd w) (h:Heap) (xs:List Rw):Prop:=(∀ x∈xs,K.is h x.2.1 x.1∧K.ok x.1)∧(xs.map (·.1)).Nodup
theorem Keyed.kp {w:zT}{K:Kd w}{h h':Heap}{xs} (x:Keyed K h xs) (k:Kp h h'):Keyed K h' xs:=⟨fun y hy=>⟨K.keeps (x.1 y hy).1 k,(x.1 y hy).2⟩,x.2⟩
theorem ents_get {w:zT}(K:Kd w) (xs:List Rw) (j:Nat):(ents K xs)[j]? =xs[j]?.map (ent K):=by simp -iota [ents]
theorem ents_size {w:zT}(K:Kd w) (xs:List Rw):(ents K xs).size=xs.length:=by simp -iota [ents]
theorem key_unique {xs:List Rw}(hn:(xs.map (·.1)).Nodup) {i j:Nat}{x y:Rw}(hi:xs[i]? =some x) (hj:xs[j]? =some y) (e:x.1=y.1):i=j:=by
 have hi':(xs.map (·.1))[i]? =some x.1:=by rw [zF,hi];rfl
 have hj':(xs.map (·.1))[j]? =some x.1:=by rw [zF,hj,e];rfl
 exact (List.getElem?_inj (l_i.mp hi').1 hn).mp (hi'.trans hj'.symm)
section
variable {w:zT}{K:Kd w}{A:zU}{E:VP}{s:zX}
theorem tells_not {key:zY}{c:Int}{stored:List zY}{Q:Bool→zX→Prop}(hk:K.is s.heap key c) (ho:K.ok c) (hst:∀ v∈stored,∃ d,K.is s.heap v d∧K.ok d) (h:Q false s):
 zZ (zW PW w) A (tableMayTell key stored) Q E s:=by
 unfold tableMayTell;split
 · exact w_p h
 · refine w_b (K.quiet hk ho ?_);simp -iota only [Bool.not_true,yZ,if_false];refine w_b ?_;refine wpAny_forIn_list _ (fun rest r s'=>s'=s∧r=(none,())∧∀ v∈rest,∃ d,K.is s.heap v d∧K.ok d) _ ?_ ?_ _ _ ⟨rfl,rfl,hst⟩
   · rintro x rest r s' ⟨rfl,rfl,hr⟩;obtain ⟨d,hd,hd'⟩:=hr x List.mem_cons_self;refine w_b (K.quiet hd hd' ?_);simp -iota only [Bool.not_true,yZ,if_false];exact w_p ⟨rfl,rfl,fun v hv=>hr v (List.mem_cons_of_mem _ hv)⟩
   · rintro r s' ⟨rfl,rfl,_⟩;exact w_p h
theorem share {X G:Prop}(f:X→G) (k:X):G:=f k
def FSt {α β γ:Type}(mk:γ→β) (I:List α→γ→Prop) (s:zX) (rest:List α) (Q:β→zX→Prop):ForInStep β→zX→Prop:=fun r s'=>match r with
 | .yield b=>s'=s∧∃ g,b=mk g∧I rest g
 | .done b=>Q b s'
theorem for_st {α β γ:Type}{M:Model}{f:α→β→Sem (ForInStep β)}{Q:β→zX→Prop}(mk:γ→β) (I:List α→γ→Prop) (turn:∀ x rest g,I (x::rest) g→zZ M A (f x (mk g)) (FSt mk I s rest Q) E s)
 (fin:∀ g,I [] g→Q (mk g) s) {l:List α}{g:γ}(h:I l g):zZ M A (forIn l (mk g) f) Q E s:=by
 refine wpAny_forIn_list f (fun l b s'=>s'=s∧∃ g,b=mk g∧I l g) Q (fun x rest b s' h=>?_) (fun b s' h=>?_) l _ ⟨rfl,g,rfl,h⟩
 · obtain ⟨e,g,e2,i⟩:=h;subst e e2;refine w_m (turn x rest g i) (fun r s'' h=>?_) fun _ _ e=>e
   cases r <;> exact h
 · obtain ⟨e,g,e2,i⟩:=h;subst e e2;exact fin g i
noncomputable def PL (K:Kd w) (xs:List Rw) (c:Int) (i:Nat):List Nat:=(List.range' i ((ents K xs).size - i)).filter (fun i=>((ents K xs)[i]?.map (·.hash))==some (K.hash c))
def No (xs:List Rw) (c:Int) (i:Nat):Prop:=∀ (j:Nat) (x:Rw),j<i→xs[j]? =some x→x.1≠c
def PI (K:Kd w) (xs:List Rw) (c:Int) (rest:List Nat):Prop:=∃ i,rest=PL K xs c i∧i≤xs.length∧No xs c i
def PH (K:Kd w) (xs:List Rw) (c:Int) (rest:List Nat) (hit:Option Nat):Prop:=∃ i,rest=PL K xs c i∧i≤xs.length∧((hit=none∧No xs c i)∨∃ j x,hit=some j∧j<i∧xs[j]? =some x∧x.1=c)
theorem has_key {xs:List Rw}{c:Int}{j:Nat}{x:Rw}(hj:xs[j]? =some x) (e:x.1=c):(((ents K xs)[j]?.map (·.hash))==some (K.hash c))=true:=by
 rw [ents_get,hj,← e];exact beq_self_eq_true _
theorem PL_cons {xs:List Rw}{c:Int}{i x:Nat}{rest:List Nat}(h:x::rest=PL K xs c i):∃ y,xs[x]? =some y∧i≤x∧x<xs.length∧rest=PL K xs c (x+1)∧(No xs c i→No xs c x):=by
 obtain ⟨hix,hxn,hpx,hskip,hrest⟩:=filter_range'_cons _ _ _ _ _ h.symm;have hsz:=ents_size K xs;have hlt:x<xs.length:=by (rw [hsz] at hxn;revert hix hxn;k_in)
 refine ⟨xs[x]'hlt,l_e _,hix,hlt,?_,fun hno j z hjx hz e=>?_⟩
 · rw [hrest];unfold PL;rw [hsz];congr 2;rw [hsz] at hxn;(revert hix hxn hlt;k_in)
 · rcases Nat.lt_or_ge j i with h|h
   · exact hno j z h hz e
   · have a:=hskip j h hjx;rw [has_key hz e] at a;exact Bool.noConfusion a
theorem No.succ {xs:List Rw}{c:Int}{x:Nat}{y:Rw}(h:No xs c x) (hy:xs[x]? =some y) (hne:y.1≠c):No xs c (x+1):=fun j z hj hz e=>by
 rcases Nat.lt_or_ge j x with l|l
 · exact h j z l hz e
 · rw [Nat.le_antisymm (Nat.le_of_lt_succ hj) l,hy] at hz;exact hne (by rw [l_j hz];exact e)
theorem No.all {xs:List Rw}{c:Int}{i:Nat}(h:[]=PL K xs c i) (hno:No xs c i) (j:Nat) (x:Rw) (hx:xs[j]? =some x):x.1≠c:=fun e=>by
 rcases Nat.lt_or_ge j i with l|l
 · exact hno j x l hx e
 · have hjl:=(l_i.mp hx).1;have hsz:=ents_size K xs;exact List.filter_eq_nil_iff.mp h.symm j (List.mem_range'_1.mpr ⟨l,by (rw [hsz];revert l hjl;k_in)⟩) (has_key hx e)
theorem PI.step {xs:List Rw}{c:Int}{x:Nat}{rest:List Nat}(h:PI K xs c (x::rest)):∃ y,xs[x]? =some y∧(y.1≠c→PI K xs c rest):=by
 obtain ⟨i,h,hi,hno⟩:=h;obtain ⟨y,hy,hix,hlt,hr,hn⟩:=PL_cons h;exact ⟨y,hy,fun hne=>⟨x+1,hr,hlt,(hn hno).succ hy hne⟩⟩
theorem PH.step {xs:List Rw}{c:Int}{x:Nat}{rest:List Nat}{hit:Option Nat}(nd:(xs.map (·.1)).Nodup) (h:PH K xs c (x::rest) hit):∃ y,xs[x]? =some y∧(y.1≠c→PH K xs c rest hit)∧(y.1=c→hit=none∧PH K xs c rest (some x)):=by
 obtain ⟨i,h,hi,hH⟩:=h;obtain ⟨y,hy,hix,hlt,hr,hn⟩:=PL_cons h;refine ⟨y,hy,fun hne=>⟨x+1,hr,hlt,?_⟩,fun e=>?_⟩
 · rcases hH with ⟨h0,hno⟩|⟨j,z,h1,hji,hj⟩
   · exact .inl ⟨h0,(hn hno).succ hy hne⟩
   · exact .inr ⟨j,z,h1,by revert hji hix;k_in,hj⟩
 · rcases hH with ⟨h0,hno⟩|⟨j,z,h1,hji,hj,hz⟩
   · exact ⟨h0,x+1,hr,hlt,.inr ⟨x,y,rfl,Nat.lt_succ_self x,hy,e⟩⟩
   · exact absurd (key_unique nd hj hy (hz.trans e.symm)) (Nat.ne_of_lt (Nat.lt_of_lt_of_le hji hix))
theorem PL_0 {xs:List Rw}{c:Int}:placesWithHash (ents K xs).size (fun i=>(ents K xs)[i]?.map (·.hash)) (K.hash c)=PL K xs c 0:=by
 unfold PL;rw [placesWithHash,List.range_eq_range',Nat.sub_zero]
theorem exact_str {v:zY}(h:isExactStrKey v=true):∃ x t,v= .str x t:=by
 cases v <;> first|exact ⟨_,_,rfl⟩|exact Bool.noConfusion h
theorem is_str {x:Str}{v:zY}(h:v.isStr x=true):∃ y t,v= .str y t∧(y==x)=true:=by
 cases v <;> first|exact ⟨_,_,rfl,h⟩|exact Bool.noConfusion h
theorem ep_same {α:Type}{ep:Nat}{a b:Sem α}{Q:α→zX→Prop}(k:zZ (zW PW w) A b Q E s):zZ (zW PW w) A (if (ep !=ep)=true then a else b) Q E s:=wpAny_ite_false (by rw [bne_self_eq_false];rfl) k
section
variable {d:zV}{o:Obj}{ep:Nat}{key:zY}{c:Int}{xs:List Rw}{Q:Option Nat→zX→Prop}
theorem walk_plain (hu:A.units+70<cLine) (hkey:K.is s.heap key c) (hok:K.ok c) (ho:s.heap.get? d=some o) (hd:o.data= .dict (ents K xs) ep) (hX:Keyed K s.heap xs)
 (hnone:(∀ (j:Nat) (x:Rw),xs[j]? =some x→x.1≠c)→Q none s) (hsome:∀ (j:Nat) (x:Rw),xs[j]? =some x→x.1=c→Q (some j) s):
 zZ (zW PW w) A (dictWalkPlain d key (K.hash c) (ents K xs) (placesWithHash (ents K xs).size (fun i=>(ents K xs)[i]?.map (·.hash)) (K.hash c))) Q E s:=by
 rw [PL_0];unfold dictWalkPlain;refine w_b (for_st (fun _:Unit=>(none,())) (fun l _=>PI K xs c l) (fun x rest _ h=>?_) (fun _ h=>?_) (g:=()) ⟨0,rfl,Nat.zero_le _,fun _ _ h=>absurd h (Nat.not_lt_zero _)⟩)
 · obtain ⟨y,hy,hnext⟩:=h.step;have hiy:=hX.1 y (l_m hy);rw [show (ents K xs)[x]? =some (ent K y) by rw [ents_get,hy];rfl];refine yG (fun _=>?_) fun hh=>w_p ⟨rfl,(),rfl,hnext fun e=>hh (by rw [← e];exact beq_self_eq_true _)⟩
   refine w_b (wpAny_dictEpoch ho hd (w_b (K.eqv (c:=y.1) (d:=c) hiy.1 hkey hu _ _ (w_b (wpAny_dictEpoch ho hd (ep_same ?_))))));by_cases hkk:y.1=c
   · rw [l_t hkk];exact w_b (wpAny_rule (w_p (w_p (hsome x y hy hkk))))
   · rw [l_f hkk];exact w_b (wpAny_rule (w_p ⟨rfl,(),rfl,hnext hkk⟩))
 · obtain ⟨i,hr,_,hno⟩:=h;exact w_p (hnone (No.all hr hno))
theorem dict_find (hu:A.units+70<cLine) (hkey:K.is s.heap key c) (hok:K.ok c) (ho:s.heap.get? d=some o)
 (hd:o.data= .dict (ents K xs) ep) (hX:Keyed K s.heap xs) (hnone:(∀ (j:Nat) (x:Rw),xs[j]? =some x→x.1≠c)→Q none s) (hsome:∀ (j:Nat) (x:Rw),xs[j]? =some x→x.1=c→Q (some j) s):
 zZ (zW PW w) A (dictFind d key (K.hash c)) Q E s:=by
 have hplain:=walk_plain (E:=E) (Q:=Q) hu hkey hok ho hd hX hnone hsome;obtain ⟨his,hn⟩:=hX
 have hmem:∀ e∈ents K xs,∃ x∈xs,e=ent K x:=by
  intro e hin;have:e∈xs.map (ent K):=by simpa [ents] using hin
  obtain ⟨x,hx,e⟩:=zN.mp this;exact ⟨x,hx,e.symm⟩
 have hst:∀ v∈(placesWithHash (ents K xs).size (fun i=>(ents K xs)[i]?.map (·.hash)) (K.hash c)).filterMap (fun i=>(ents K xs)[i]?.map (·.key)),∃ d,K.is s.heap v d∧K.ok d:=by
  intro v hv;obtain ⟨i,_,hi⟩:=List.mem_filterMap.mp hv;obtain ⟨e,he,ev⟩:=Option.map_eq_some_iff.mp hi;obtain ⟨x,hx,e2⟩:=hmem e (Array.mem_of_getElem? he);exact ⟨x.1,by rw [← ev,e2];exact his x hx⟩
 have hany:¬ ((ents K xs).any fun e=>e.key==key&&e.hash !=K.hash c)=true:=by
  rw [← Array.any_toList,List.any_eq_true];intro h;obtain ⟨e,hin,hc⟩:=h;obtain ⟨x,hx,e2⟩:=hmem e (Array.mem_toList_iff.mp hin);rw [e2] at hc;simp -iota only [ent,yT,beq_iff_eq,bne_iff_ne,ne_eq] at hc;obtain ⟨hxa,hne⟩:=hc;have:=(his x hx).1;rw [hxa] at this;exact hne (by rw [K.inj this hkey])
 have hget:∀ {i:Nat}{y:Rw},xs[i]? =some y→(ents K xs)[i]? =some (ent K y):=fun hy=>by rw [ents_get,hy];rfl
 have hback:∀ {i:Nat}{e:DictEntry},(ents K xs)[i]? =some e→∃ y,xs[i]? =some y∧e=ent K y:=fun he=>by
  rw [ents_get] at he;obtain ⟨y,hy,e⟩:=Option.map_eq_some_iff.mp he;exact ⟨y,hy,e.symm⟩
 unfold dictFind
 try with_reducible refine w_h ?_
 refine w_b (wpAny_dictEntries ho hd ?_);dsimp only;generalize hes:ents K xs=es at hd hmem hst hany hget hback hplain ⊢;refine' share (fun K1=>?rest) ?kk
 case rest=>
  generalize hkeq:key=k2;split;case' h_1 x t=>by_cases hstrs:(es.all fun e=>isExactStrKey e.key)=true
  case pos=>
   rw [hkeq] at hkey;refine wpAny_ite_true (l_t hstrs) ?_;unfold foundByValue;cases hf:es.findIdx? (fun e=>e.key.isStr x) with
   |none=>
    refine w_p (hnone fun j y hy e=>?_);have hmj:=Array.mem_of_getElem? (hget hy);have h1:=Array.findIdx?_eq_none_iff.mp hf _ hmj;obtain ⟨z,u,e2⟩:=exact_str (Array.all_eq_true_iff_forall_mem.mp hstrs _ hmj);have e2:y.2.1= .str z u:=e2;have e1:=(his y (l_m hy)).1;have h1:Value.isStr y.2.1 x=false:=h1;rw [e2] at e1 h1;have e3:=K.txt e1 hkey;have h1:(z==x)=false:=h1;rw [h1] at e3;exact absurd e (of_decide_eq_false e3.symm)
   |some i=>
    obtain ⟨hlt,hi,_⟩:=Array.findIdx?_eq_some_iff_getElem.mp hf;obtain ⟨y,hy,hye⟩:=hback (Array.getElem?_eq_getElem hlt);have hiy:=his y (l_m hy)
    have hyc:y.1=c:=by
     rw [hye] at hi;obtain ⟨z,u,e2,e3⟩:=is_str hi;have e2:y.2.1= .str z u:=e2;have e1:=hiy.1;rw [e2] at e1;have e4:=K.txt e1 hkey;rw [e3] at e4;exact of_decide_eq_true e4.symm
    dsimp only;rw [hget hy];refine w_b (wpAny_dictEpoch ho hd (w_b (K.eqv (c:=y.1) (d:=c) hiy.1 hkey hu _ _ (w_b (wpAny_dictEpoch ho hd (ep_same ?_))))));rw [l_t hyc];exact w_b (wpAny_rule (w_p (hsome i y hy hyc)))
  case' neg=>refine wpAny_ite_false (l_f hstrs) ?_
  all_goals refine yG (fun _=>by rw [← hkeq];exact hplain) (fun _=>?_)
  all_goals try dsimp only
  case' h_2=>split
  case' h_1=>refine yG (fun hc=>by rw [← hkeq] at hc;exact absurd hc hany) (fun _=>?_)
  all_goals rw [← hkeq]
  all_goals (
   refine yG (fun _=>w_b (w_p ?_)) (fun _=>w_b (tells_not hkey hok hst ?_)))
  all_goals exact wpAny_ite_false rfl (w_b K1)
 case kk=>
  rw [← hes,PL_0];refine for_st (fun hit:Option Nat=>(none,hit)) (PH K xs c) (fun x rest hit h=>?_) (fun hit h=>?_) (g:=none) ⟨0,rfl,Nat.zero_le _,.inl ⟨rfl,fun _ _ h=>absurd h (Nat.not_lt_zero _)⟩⟩
  · obtain ⟨y,hy,hstay,hhit⟩:=PH.step hn h;have hiy:=his y (l_m hy);rw [show (ents K xs)[x]? =some (ent K y) by rw [hes];exact hget hy];rw [← hes] at hd;refine yG (fun _=>?_) fun hh=>w_p ⟨rfl,hit,rfl,hstay fun e=>hh (by rw [← e];exact beq_self_eq_true _)⟩
    refine w_b (wpAny_dictEpoch ho hd (w_b (K.eqv (c:=y.1) (d:=c) hiy.1 hkey hu _ _ (w_b (wpAny_dictEpoch ho hd (ep_same ?_))))));by_cases hkk:y.1=c
    · obtain ⟨h0,hp⟩:=hhit hkk;subst h0;rw [l_t hkk]
      first|rw [if_pos rfl]|skip
      simp -iota only [Option.isSome_none,yZ,if_false]
      first|refine w_b (w_p ?_)|skip
      refine w_b (wpAny_rule ?_);refine yG (fun _=>w_p (w_p (hsome x y hy hkk))) (fun _=>?_);exact w_p ⟨rfl,some x,rfl,hp⟩
    · rw [l_f hkk];simp -iota only [yZ,if_false];refine w_b (wpAny_rule ?_)
      first|rw [if_neg (by simp)]|skip
      first
       |exact w_p ⟨rfl,hit,rfl,hstay hkk⟩
       |exact w_b (w_p (w_p ⟨rfl,hit,rfl,hstay hkk⟩))
  · obtain ⟨i,hr,hi,hH⟩:=h;rcases hH with ⟨h0,hno⟩|⟨j,z,h0,_,hj,hz⟩
    · subst h0;exact w_p (hnone (No.all hr hno))
    · subst h0;exact w_p (hsome j z hj hz)
end
end
end
noncomputable def blocksF (odd:Int):Nat→List Int→List Int→Nat→Nat→List (Nat×Nat×Nat)
 |0,_,_,_,_=>[]
 |n+1,ns,ks,i,j=>
  if (matchP odd ns ks).2.2=0 then [] else
  blocksF odd n (ns.take (matchP odd ns ks).1) (ks.take (matchP odd ns ks).2.1) i j++(i+(matchP odd ns ks).1,j+(matchP odd ns ks).2.1,(matchP odd ns ks).2.2)::
   blocksF odd n (ns.drop ((matchP odd ns ks).1+(matchP odd ns ks).2.2)) (ks.drop ((matchP odd ns ks).2.1+(matchP odd ns ks).2.2)) (i+(matchP odd ns ks).1+(matchP odd ns ks).2.2) (j+(matchP odd ns ks).2.1+(matchP odd ns ks).2.2)
def TrN (tups:Led) (vs:List zY) (ts:List (Nat×Nat×Nat)):Prop:=
 vs.length=ts.length∧∀ (k:Nat) (t:Nat×Nat×Nat),ts[k]? =some t→∃ T t1 t2 t3 n,vs[k]? =some (.ref T)∧(T,tob [.int t.1 t1,.int t.2.1 t2,.int t.2.2 t3] n)∈tups
theorem TrN.nil {tups}:TrN tups [] []:=⟨rfl,fun k t e=>by simp at e⟩
theorem TrN.app {tups vs ts ws us} (x:TrN tups vs ts) (y:TrN tups ws us):TrN tups (vs++ws) (ts++us):=by
 refine ⟨by simp [x.1,y.1],fun k t e=>?_⟩;by_cases hk:k<ts.length
 · rw [yD hk] at e;rw [yD (by rw [x.1];exact hk)];exact x.2 k t e
 · rw [yE (by lia)] at e;rw [yE (by rw [x.1];lia),x.1];exact y.2 _ t e
theorem TrN.sub {tups tups' vs ts} (x:TrN tups vs ts) (h:∀ p∈tups,p∈tups'):TrN tups' vs ts:=
 ⟨x.1,fun k t e=>by obtain ⟨T,t1,t2,t3,n,h1,h2⟩:=x.2 k t e;exact ⟨T,t1,t2,t3,n,h1,h _ h2⟩⟩
theorem TrN.one {tups T a b c t1 t2 t3 n} (hm:(T,tob [.int a t1,.int b t2,.int c t3] n)∈tups) {x y z:Nat}(ha:a=x) (hb:b=y) (hc:c=z):TrN tups [.ref T] [(x,y,z)]:=
 ⟨rfl,fun k t e=>by
  cases k with
  |zero=>simp at e;subst e ha hb hc;exact ⟨T,t1,t2,t3,n,rfl,hm⟩
  |succ k=>simp at e⟩
theorem matchP_lies (odd:Int) (ns ks:List Int):Lies ns ks (matchP odd ns ks):=by
 have hl:Lies ns ks (best odd ns ks):=best_lies _ (yX _);unfold matchP;generalize best odd ns ks=b at hl ⊢;obtain ⟨p,q,z⟩:=b;have hb:=backN_le odd ns ks p q;have hf:=frontN_le odd (ns.drop (p+z)) (ks.drop (q+z));simp only [xW] at hf;dsimp only [Lies] at hl ⊢
 (revert hl hb hf;k_in)
def BlocksAt (w:zT) (N:Nat):Prop:=∀ {A:zU}{L:zV}{h₀ h:Heap}{t:Nat}{σ:zX}{m:NM}{news:Led}{one other:zV}{xs ys:List zY}{ns ks:List Int}{odd:Int}{todd ti tj:Tok}{i j:Nat}{ai aj:Int}
 {Q E:VP}(Z:Site w A L h₀) (W:Wk h₀ L h m news) (room:A.depth+N+1<zS) (h1:Ls h one xs) (h2:Ls h other ys) (i1:IntsL xs ns) (i2:IntsL ys ks) (z1:ns.length≤100) (z2:ks.length≤100) (hN:ns.length<N) (q4:ai=i) (q5:aj=j)
 (k:∀ h' t' l vs n tups,Wk h₀ L h' m ((l,lob vs n)::(tups++news))→Kp h h'→TrN tups vs (blocksF odd N ns ks i j)→Q (.ref l) (S σ h' t')),
 zZ (zW PW w) A (call (.ref 296) [.ref one,.ref other,.int odd todd,.int ai ti,.int aj tj]) Q E (S σ h t)
theorem blocks_len (odd:Int):∀ (N:Nat) (ns ks:List Int) (i j:Nat),(blocksF odd N ns ks i j).length≤ns.length
 |0,_,_,_,_=>by (dsimp only [blocksF];try simp)
 |N+1,ns,ks,i,j=>by
  dsimp only [blocksF];split
  · simp
  · rename_i hz;have hl:=(matchP_lies odd ns ks).1;have a:=blocks_len odd N (ns.take (matchP odd ns ks).1) (ks.take (matchP odd ns ks).2.1) i j;have b:=blocks_len odd N (ns.drop ((matchP odd ns ks).1+(matchP odd ns ks).2.2)) (ks.drop ((matchP odd ns ks).2.1+(matchP odd ns ks).2.2)) (i+(matchP odd ns ks).1+(matchP odd ns ks).2.2) (j+(matchP odd ns ks).2.1+(matchP odd ns ks).2.2);rw [yP] at a;rw [xW] at b;rw [zD,yU]
    (revert hz hl a b;k_in)
theorem blocks_body {w A L' g h t σ} {one other:zV}{xs ys:List zY}{ns ks:List Int}{odd:Int}{todd ti tj:Tok}{i j:Nat}{ai aj:Int}{f:zV}{m} {Q:FP}{E:VP}{N:Nat}(ih:BlocksAt w N)
 (Z:Site w A L' g) (W:Wk g L' h m []) (room:A.depth+N+1<zS) (h1:Ls g one xs) (h2:Ls g other ys) (i1:IntsL xs ns) (i2:IntsL ys ks) (z1:ns.length≤100) (z2:ks.length≤100) (hN:ns.length<N+1)
 (e1:m (zQ "one")=some (.ref one)) (e2:m (zQ "other")=some (.ref other)) (e3:m (zQ "odd")=some (.int odd todd)) (e4:m (zQ "i")=some (.int ai ti)) (e5:m (zQ "j")=some (.int aj tj)) (q4:ai=i) (q5:aj=j)
 (k:∀ h' t' m' l vs n tups,Wk g L' h' m' ((l,lob vs n)::tups)→TrN tups vs (blocksF odd (N+1) ns ks i j)→Q (.ret (.ref l)) (S σ h' t')):
 zZ (zW PW w) A (execs (dB (st PW 14)) (envX n149 (dS (st PW 14)) L' f (.ref 295) [])) Q E (S σ h t):=by
 with_unfolding_all refine x_cons ?_
 kd_p;refine match_spec Z W (by revert room;k_in) (by wtm_at "s") (by wtm_at "s") i1 i2 z1 z2 fun h' t' T t1 t2 t3 n W' _=>?_;wtm_at "w";have hl:=matchP_lies odd ns ks
 have hF:blocksF odd (N+1) ns ks i j=if (matchP odd ns ks).2.2=0 then [] else
  blocksF odd N (ns.take (matchP odd ns ks).1) (ks.take (matchP odd ns ks).2.1) i j++(i+(matchP odd ns ks).1,j+(matchP odd ns ks).2.1,(matchP odd ns ks).2.2)::
   blocksF odd N (ns.drop ((matchP odd ns ks).1+(matchP odd ns ks).2.2)) (ks.drop ((matchP odd ns ks).2.1+(matchP odd ns ks).2.2)) (i+(matchP odd ns ks).1+(matchP odd ns ks).2.2) (j+(matchP odd ns ks).2.1+(matchP odd ns ks).2.2):=by dsimp only [blocksF]
 generalize matchP odd ns ks=pqz at hl hF W;obtain ⟨p,q,z⟩:=pqz;dsimp only [Lies] at hl hF W;kd_p
 · refine m_list W (by simp) fun a h' W' _ _=>?_;wtm_at "w";kd_p;exact k _ _ _ _ _ _ _ W (by rw [hF,if_pos (by rename_i z2 _ _;revert z2;k_in)];exact .nil)
 · have i1l:=i1.1;have i2l:=i2.1;refine sl_upto W (by wtm_at "s") (by k_in) (by revert z1 i1l;k_in) (fun a1 h' W' _=>?_) (by wtm_at "u") (by intro _;wtm_at "u");wtm_at "w";kd_p;refine sl_upto W (by wtm_at "s") (by k_in) (by revert z2 i2l;k_in) (fun a2 h' W' _=>?_) (by wtm_at "u") (by intro _;wtm_at "u");wtm_at "w";kd_p;have n1:=IntsL.take i1 (p:Int).toNat;have n2:=IntsL.take i2 (q:Int).toNat;have hz:z≠0:=by (rename_i z3 _ _ _;revert z3;k_in)
   refine ih Z W (by revert room;k_in) (Wk.ls (vs:=xs.take (p:Int).toNat) W (by wtm_at "m")) (Wk.ls (vs:=ys.take (q:Int).toNat) W (by wtm_at "m")) n1 n2 (by simp;(rename_i z3 _ _ _;revert z1 hl z3;k_in)) (by simp;(rename_i z3 _ _ _;revert z2 hl z3;k_in)) (by simp;(rename_i z3 _ _ _;revert hN hl z3;k_in)) q4 q5 fun h' t' l1 vs1 m1 tups1 W' _ tr1=>?_;wtm_at "w";kd_p;refine sl_from W (by wtm_at "s") (by rename_i z6 _ _ _ _ _ _;revert z6;k_in) (by revert z1 i1l;k_in) (fun a3 h' W' _=>?_) (by wtm_at "u") (by intro _;wtm_at "u");wtm_at "w";kd_p;refine sl_from W (by wtm_at "s") (by rename_i z8 _ _ _ _ _ _ _ _;revert z8;k_in) (by revert z2 i2l;k_in) (fun a4 h' W' _=>?_) (by wtm_at "u") (by intro _;wtm_at "u");wtm_at "w";kd_p;have n3:=IntsL.drop i1 ((p:Int)+z).toNat;have n4:=IntsL.drop i2 ((q:Int)+z).toNat;refine ih (i:=i+p+z) (j:=j+q+z) Z W (by revert room;k_in) (Wk.ls (vs:=xs.drop ((p:Int)+z).toNat) W (by wtm_at "m")) (Wk.ls (vs:=ys.drop ((q:Int)+z).toNat) W (by wtm_at "m")) n3 n4 (by simp;(revert z1;k_in)) (by simp;(revert z2;k_in)) (by simp;(revert hN hl hz;k_in)) (by revert q4;k_in) (by revert q5;k_in) fun h' t' l2 vs2 m2 tups2 W' _ tr2=>?_;wtm_at "w";kd_p;refine m_list W (by simp) fun a h' W' _ _=>?_;wtm_at "w";have len1:=tr1.1;have len2:=tr2.1;have b1:=blocks_len odd N (List.take (p:Int).toNat ns) (List.take (q:Int).toNat ks) i j;have b2:=blocks_len odd N (List.drop ((p:Int)+z).toNat ns) (List.drop ((q:Int)+z).toNat ks) (i+p+z) (j+q+z);rw [yP] at b1;rw [xW] at b2;refine o_addl W (Wk.ls (vs:=vs1) W (by wtm_at "m")) (Wk.ls W (List.Mem.head _)) (by simp;(revert len1 b1 z1;k_in)) fun a5 h' W' _=>?_;wtm_at "w";kd_p;refine o_addl W (Wk.ls W (List.Mem.head _)) (Wk.ls (vs:=vs2) W (by wtm_at "m")) (by simp;(revert len1 len2 b1 b2 z1;k_in)) fun a6 h' W' _=>?_;wtm_at "w";kd_p;refine k _ _ _ _ _ _ _ W ?_;rw [hF,if_neg hz,List.append_assoc];have e1:((p:Int)+z).toNat=p+z:=by k_in
   have e2:((q:Int)+z).toNat=q+z:=by k_in
   rw [e1,e2] at tr2;rw [yV,yV] at tr1;refine TrN.app (tr1.sub (by intro p hp;simp [hp])) (TrN.app (ws:=vs2) (us:=_) (TrN.one (n:=0) (by wtm_at "m") (by revert q4;k_in) (by revert q5;k_in) (by k_in)) (tr2.sub (by intro p hp;simp [hp])))
theorem blocks_spec (w:zT) (N:Nat):BlocksAt w N:=by
 induction N with
 |zero=>
  unfold BlocksAt;intro A L h₀ h t σ m news one other xs ys ns ks odd todd ti tj i j ai aj Q E Z W room h1 h2 i1 i2 z1 z2 hN q4 q5 k;exact absurd hN (Nat.not_lt_zero _)
 |succ N ih=>
  unfold BlocksAt;intro A L h₀ h t σ m news one other xs ys ns ks odd todd ti tj i j ai aj Q E Z W room h1 h2 i1 i2 z1 z2 hN q4 q5 k
  exact fn_gen (mu:=[]) (rest:=news) (binds:=[(zQ "one",.ref one),(zQ "other",.ref other),(zQ "odd",.int odd todd),(zQ "i",.int ai ti),(zQ "j",.int aj tj)]) Z W (by revert room;k_in) (by rfl) (by k_ne) (BindsTo.of_eq (by k_ne)) (locs (by k_ne)) (by decide) (by k_ne) (by k_ne) (by k_ne) fun L' h₁ t₁ Z' W'=>
   blocks_body ih (ti:=ti) (tj:=tj) (one:=one) (other:=other) (odd:=odd) (todd:=todd) (xs:=xs) (ys:=ys) Z' W' (by show A.depth+1+N+1<_;(revert room;k_in)) h1 h2 i1 i2 z1 z2 hN (by k_ne) (by k_ne) (by k_ne) (by k_ne) (by k_ne) q4 q5 fun h' t' m' l vs n tups W₂ tr=>⟨h',t',_,_,rfl,W₂,fun W₃=>k h' t' l vs n tups W₃ W₂.kp tr⟩
section
open PySem.SeqAt
noncomputable def atX (xs:List Rw) (c:Int):Option zY:=(xs.find? fun x=>decide (x.1=c)).map (·.2.2)
noncomputable def setX (xs:List Rw) (c:Int) (key v:zY):List Rw:=if xs.any (fun x=>decide (x.1=c)) then xs.map (fun x=>if x.1=c then (x.1,x.2.1,v) else x) else xs++[(c,key,v)]
theorem atX_none {xs:List Rw}{c:Int}(h:∀ (j:Nat) (x:Rw),xs[j]? =some x→x.1≠c):atX xs c=none:=by
 have:(xs.find? fun x=>decide (x.1=c))=none:=by
  rw [List.find?_eq_none];intro x hx hk;obtain ⟨j,hj⟩:=yB.mp hx;exact h j x hj (of_decide_eq_true hk)
 simp [atX,this]
theorem atX_some:∀ {xs:List Rw}{c:Int}{j:Nat}{x:Rw},(xs.map (·.1)).Nodup→xs[j]? =some x→x.1=c→atX xs c=some x.2.2
 |[],_,_,_,_,h,_=>by simp at h
 |y::ys,c,j,x,hn,h,e=>by
  rw [zM,zJ] at hn;cases j with
  |zero=>simp at h;subst h;simp [atX,e]
  |succ j=>
   simp only [List.getElem?_cons_succ] at h;have hne:¬ y.1=c:=fun q=>hn.1 (by rw [q,← e];exact zN.mpr ⟨x,l_m h,rfl⟩)
   have:=atX_some hn.2 h e;simpa [atX,xX,hne] using this
theorem upd_map {β:Type}(f:Rw→β) (g:β→β) (c:Int) (v:zY) (hg:∀ k v₀,g (f (c,k,v₀))=f (c,k,v)):
 ∀ {xs:List Rw}{j:Nat}{x:Rw},(xs.map (·.1)).Nodup→xs[j]? =some x→x.1=c→(xs.map f).modify j g=(xs.map (fun x=>if x.1=c then (x.1,x.2.1,v) else x)).map f
 |[],j,x,_,h,_=>by simp at h
 |y::ys,j,x,hn,h,e=>by
  rw [zM,zJ] at hn
  have hrest:∀ {zs:List Rw},c∉zs.map (·.1)→zs.map (fun x=>if x.1=c then (x.1,x.2.1,v) else x)=zs:=by
   intro zs hz;refine (List.map_congr_left (g:=id) fun z hz'=>?_).trans (List.map_id _);rw [if_neg (fun q=>hz (zN.mpr ⟨z,hz',q⟩))];rfl
  cases j with
  |zero=>
   simp at h;subst h;have:c∉ys.map (·.1):=e ▸ hn.1;rw [zM,zM,hrest this,if_pos e,zM];show g (f y)::ys.map f=_
   obtain ⟨y1,y2,y3⟩:=y;simp only at e;subst e;rw [hg]
  |succ j=>
   simp only [List.getElem?_cons_succ] at h;have hne:¬ y.1=c:=fun q=>hn.1 (by rw [q,← e];exact zN.mpr ⟨x,l_m h,rfl⟩)
   rw [zM,zM,if_neg hne,zM];show f y::(ys.map f).modify j g=_
   rw [upd_map f g c v hg hn.2 h e]
theorem setX_new {xs:List Rw}{c key v} (h:∀ (j:Nat) (x:Rw),xs[j]? =some x→x.1≠c):setX xs c key v=xs++[(c,key,v)]:=by
 unfold setX;rw [if_neg];rw [List.any_eq_true];rintro ⟨x,hx,hc⟩;obtain ⟨j,hj⟩:=yB.mp hx;exact h j x hj (of_decide_eq_true hc)
theorem setX_old {xs:List Rw}{c:Int}{key v:zY}{j:Nat}{x:Rw}(h:xs[j]? =some x) (e:x.1=c):setX xs c key v=xs.map (fun x=>if x.1=c then (x.1,x.2.1,v) else x):=by
 unfold setX;rw [if_pos];rw [List.any_eq_true];exact ⟨x,l_m h,l_t e⟩
section
variable {w:zT}{K:Kd w}{A:zU}{E:VP}{σ:zX}{h₀ h:Heap}{t:Nat}{L:zV}{m:NM}{news:Led}{d:zV}{xs:List Rw}{ep:Nat}{key:zY}{c:Int}
theorem dob_type (ho:h.get? d=some (dob K xs ep)):(S σ h t).TypeIs (.ref d) "dict":=⟨_,ho,rfl⟩
theorem d_get {Q:Option zY→zX→Prop}(hu:A.units+70<cLine) (ho:h.get? d=some (dob K xs ep)) (hX:Keyed K h xs) (hkey:K.is h key c) (hok:K.ok c) (k:∀ t',Q (atX xs c) (S σ h t')):
 zZ (zW PW w) A (dictGet d key) Q E (S σ h t):=by
 unfold dictGet
 try with_reducible refine w_h ?_
 refine w_b (K.pyHash (s:=S σ h t) hkey hok hu fun tk=>w_b (dict_find (K:=K) (s:=S σ h tk) (xs:=xs) (ep:=ep) hu hkey hok ho rfl hX ?_ ?_))
 · intro hno;have:=k tk;rw [atX_none hno] at this;exact w_p this
 · intro j x hj e;have:=k tk;rw [atX_some hX.2 hj e] at this;refine w_b (wpAny_dictEntries (s:=S σ h tk) ho rfl ?_);rw [ents_get K xs j,hj];exact w_p this
theorem m_dget2 {dflt:zY}{Q:VP}(h1:d≠1) (hu:A.units+80<cLine) (ho:h.get? d=some (dob K xs ep)) (hX:Keyed K h xs) (hkey:K.is h key c) (hok:K.ok c) (k:∀ t',Q ((atX xs c).getD dflt) (S σ h t')):
 zZ (zW PW w) A (call (.builtin "dict.get") [.ref d,key,dflt]) Q E (S σ h t):=by
 refine w_c PySem.F.slot_dict_get (dob_type ho) PySem.F.entry_dict_get ?_ (PySem.F.args_dict_get_3 _ _ _);show zZ _ _ (dictGet d key >>=_) _ _ _
 refine w_b (d_get (K:=K) (by rw [yN];lia) ho hX hkey hok fun t'=>?_);have:=k t';cases hf:atX xs c with
 |some v=>rw [hf] at this;exact w_p ⟨v,rfl,this⟩
 |none=>
  rw [hf] at this;show zZ _ _ (Builtin.Dict.missed d key >>=_) _ _ _
  exact w_b (wpAny_missed_other (by simpa [sysModules] using h1) (w_p ⟨dflt,rfl,this⟩))
theorem dob_push (ho:h.get? d=some (dob K xs ep)) (c:Int) (key v:zY):(h.update d (Obj.mapDictKeys (·.push ⟨K.hash c,key,v⟩))).get? d=some (dob K (xs++[(c,key,v)]) (ep+1)):=by
 refine (yL _ ho rfl).trans ?_;dsimp only [dob,Obj.mapDictKeys,ents];simp [ent]
theorem d_set {v:zY}{Q:UP}(hu:A.units+70<cLine) (W:Wk h₀ L h m ((d,dob K xs ep)::news)) (hX:Keyed K h xs) (hkey:K.is h key c) (hok:K.ok c) (hz:xs.length≤1000)
 (k:∀ h' t' ep',Wk h₀ L h' m ((d,dob K (setX xs c key v) ep')::news)→Q () (S σ h' t')):zZ (zW PW w) A (dictSet d key v) Q E (S σ h t):=by
 have ho:=W.get (.head _);unfold dictSet
 try with_reducible refine w_h ?_
 refine w_b (K.pyHash (s:=S σ h t) hkey hok hu fun tk=>?_);unfold dictSetHashed
 try with_reducible refine w_h ?_
 refine w_b (dict_find (K:=K) (s:=S σ h tk) (xs:=xs) (ep:=ep) hu hkey hok ho rfl hX ?_ ?_)
 · intro hno;refine w_b (wpAny_rule (wpAny_updateDictKeys (s:=S σ h tk) ho rfl (k _ _ (ep+1) (W.upd (l_u ..) ?_)) (by rw [ents_size,yF];lia) (by simp)));rw [setX_new hno];exact dob_push ho c key v
 · intro j x hj e
   have hr:(h.update d (Obj.mapDict (·.modify j fun e=>{ e with val:=v }))).get? d=some (dob K (setX xs c key v) ep):=by
    refine (yL _ ho rfl).trans ?_;rw [setX_old hj e];have:=upd_map (ent K) (fun e=>{ e with val:=v }) c v (by intro _ _;rfl) hX.2 hj e;dsimp only [dob,Obj.mapDict,ents];simp only [List.modify_toArray,this]
   refine w_b (wpAny_rule (w_b (wpAny_updateDict (s:=S σ h tk) ho rfl ?_ (by simp))))
   first
    |exact wpAny_point (k _ _ ep (W.upd (l_u ..) hr))
    |exact fun _ _ _=>k _ _ ep (W.upd (l_u ..) hr)
theorem m_setdefault {dflt:zY}{Q:VP}(h1:d≠1) (hu:A.units+80<cLine) (W:Wk h₀ L h m ((d,dob K xs ep)::news)) (hX:Keyed K h xs) (hkey:K.is h key c) (hok:K.ok c) (hz:xs.length≤1000)
 (k1:∀ t' v,atX xs c=some v→Q v (S σ h t')) (k2:∀ h' t' ep',atX xs c=none→Wk h₀ L h' m ((d,dob K (xs++[(c,key,dflt)]) ep')::news)→Q dflt (S σ h' t')):
 zZ (zW PW w) A (call (.builtin "dict.setdefault") [.ref d,key,dflt]) Q E (S σ h t):=by
 have ho:=W.get (.head _);refine w_c PySem.F.slot_dict_setdefault (dob_type ho) PySem.F.entry_dict_setdefault ?_ (PySem.F.args_dict_setdefault_3 _ _ _);unfold Builtin.«dict.setdefault»;refine w_b ?_;unfold Builtin.Dict.keyAndDefault;refine w_b (wpAny_notOrdered_dict (dob_type ho) ?_);show zZ _ _ (pure (d,key,some dflt)) _ _ _
 refine w_p ?_;show zZ _ _ (if (d==sysModules)=true then _ else (dictSetDefault d key dflt >>=_)) _ _ _
 rw [if_neg (by simpa [sysModules] using h1)];refine w_b ?_;unfold dictSetDefault
 try with_reducible refine w_h ?_
 refine w_b (K.pyHash (s:=S σ h t) hkey hok (by rw [yN];lia) fun tk=>?_);refine w_b (dict_find (K:=K) (s:=S σ h tk) (xs:=xs) (ep:=ep) (by rw [yN];lia) hkey hok ho rfl hX ?_ ?_)
 · intro hno;refine w_b (wpAny_rule (w_b (wpAny_updateDictKeys (s:=S σ h tk) ho rfl (w_p (w_p ⟨dflt,rfl,k2 _ _ (ep+1) (atX_none hno) (W.upd (l_u ..) (dob_push ho c key dflt))⟩)) (by rw [ents_size,yF];lia) (by simp))))
 · intro j x hj e;refine w_b (wpAny_dictEntries (s:=S σ h tk) ho rfl ?_);rw [ents_get K xs j,hj];exact w_b (wpAny_rule (w_p (w_p ⟨_,rfl,k1 tk _ (atX_some hX.2 hj e)⟩)))
theorem m_dset {v:zY}{Q:UP}(hu:A.units+80<cLine) (W:Wk h₀ L h m ((d,dob K xs ep)::news)) (hX:Keyed K h xs) (hkey:K.is h key c) (hok:K.ok c) (hz:xs.length≤1000)
 (k:∀ h' t' ep',Wk h₀ L h' m ((d,dob K (setX xs c key v) ep')::news)→Q () (S σ h' t')):zZ (zW PW w) A (setItem (.ref d) key v) Q E (S σ h t):=by
 have ho:=W.get (.head _);have hT:=dob_type (σ:=σ) (t:=t) ho;unfold setItem
 try with_reducible refine w_h ?_
 first|refine w_b (w_p ?_)|skip
 refine w_b (wpAny_sequenceKey hT (by decide) ?_)
 refine w_b (yH (name:=zQ "__setitem__") hT PySem.F.slot_dict_setitem
  (w_c PySem.F.slot_dict_setitem hT PySem.F.entry_dict_setitem ?_ (PySem.F.args_dict_setitem_3 _ _ _)))
 show zZ _ _ (Builtin.Dict.notOrdered "__setitem__" ⟨[.ref d,key,v],[]⟩ >>=_) _ _ _
 refine w_b (wpAny_notOrdered_dict hT ?_);show zZ _ _ (dictSet d key v >>=_) _ _ _
 exact w_b (d_set (K:=K) (by rw [yN];lia) W hX hkey hok hz fun h' t' ep' W'=>w_p ⟨.none,rfl,w_p (k h' t' ep' W')⟩)
theorem erase_map {α β:Type}(f:α→β):∀ (xs:List α) (j:Nat),(xs.map f).eraseIdx j=(xs.eraseIdx j).map f
 |[],j=>by simp
 |x::xs,0=>by simp
 |x::xs,j+1=>by simp [erase_map f xs j]
theorem dob_erase (ho:h.get? d=some (dob K xs ep)) (j:Nat):(h.update d (Obj.mapDictKeys (·.eraseIdxIfInBounds j))).get? d=some (dob K (xs.eraseIdx j) (ep+1)):=by
 refine (yL _ ho rfl).trans ?_;dsimp only [dob,Obj.mapDictKeys,ents];simp only [List.eraseIdxIfInBounds_toArray,erase_map]
theorem erase_filter:∀ {xs:List Rw}{j:Nat}{x:Rw},(xs.map (·.1)).Nodup→xs[j]? =some x→x.1=c→xs.eraseIdx j=xs.filter fun x=>decide (x.1≠c)
 |[],j,x,_,h,_=>by simp at h
 |y::ys,j,x,hn,h,e=>by
  rw [zM,zJ] at hn;cases j with
  |zero=>
   simp at h;subst h;rw [List.eraseIdx_zero,List.tail_cons,List.filter_cons_of_neg (by simp [e])]
   symm
   rw [List.filter_eq_self];intro z hz;simp only [decide_eq_true_eq];exact fun q=>hn.1 (by rw [e,← q];exact zN.mpr ⟨z,hz,rfl⟩)
  |succ j=>
   simp only [List.getElem?_cons_succ] at h;have hne:¬ y.1=c:=fun q=>hn.1 (by rw [q,← e];exact zN.mpr ⟨x,l_m h,rfl⟩)
   rw [List.eraseIdx_cons_succ,List.filter_cons_of_pos (by simp [hne]),erase_filter hn.2 h e]
theorem m_ddel {Q:UP}(hu:A.units+80<cLine) (W:Wk h₀ L h m ((d,dob K xs ep)::news)) (hX:Keyed K h xs) (hkey:K.is h key c) (hok:K.ok c) (hz:xs.length≤1000) (hin:∃ x∈xs,x.1=c)
 (k:∀ h' t' ep',Wk h₀ L h' m ((d,dob K (xs.filter fun x=>decide (x.1≠c)) ep')::news)→Q () (S σ h' t')):zZ (zW PW w) A (delItem (.ref d) key) Q E (S σ h t):=by
 have ho:=W.get (.head _);have hT:=dob_type (σ:=σ) (t:=t) ho;unfold delItem
 try with_reducible refine w_h ?_
 refine w_b (wpAny_sequenceKey hT (by decide) ?_)
 refine w_b (yH (name:=zQ "__delitem__") hT PySem.F.slot_dict_delitem
  (w_c PySem.F.slot_dict_delitem hT PySem.F.entry_dict_delitem ?_ (PySem.F.args_dict_delitem_2 _ _)))
 unfold Builtin.«dict.__delitem__»;refine w_b ?_;unfold Builtin.Dict.dictSlotArgs;refine w_b (wpAny_notOrdered_dict hT ?_);show zZ _ _ (pure (Value.ref d,key)) _ _ _
 refine w_p ?_;show zZ _ _ (Builtin.Dict.takeOut d key >>=_) _ _ _
 refine w_b ?_;unfold Builtin.Dict.takeOut
 try with_reducible refine w_h ?_
 refine w_b (K.pyHash (s:=S σ h t) hkey hok (by rw [yN];lia) fun tk=>?_);refine w_b (dict_find (K:=K) (s:=S σ h tk) (xs:=xs) (ep:=ep) (by rw [yN];lia) hkey hok ho rfl hX ?_ ?_)
 · intro hno;obtain ⟨x,hx,e⟩:=hin;obtain ⟨j,hj⟩:=yB.mp hx;exact absurd e (hno j x hj)
 · intro j x hj e;refine w_b (wpAny_dictEntries (s:=S σ h tk) ho rfl ?_);rw [ents_get K xs j,hj];refine w_b (wpAny_updateDictKeys (s:=S σ h tk) ho rfl (w_p ?_) (by rw [ents_size,yF];lia) (by grows_one));refine w_b (wpAny_letGo (w_p ⟨.none,rfl,?_⟩));have:=k _ tk (ep+1) (W.upd (l_u ..) (by rw [← erase_filter hX.2 hj e];exact dob_erase ho j));exact w_p this
end
end
section
open PySem.SeqAt
noncomputable def led (w:zT):Bool:=!w.params.followText "set-order"
noncomputable def tb0 (w:zT):SetTable:=.fresh 0 0 (led w)
noncomputable def tb1 (w:zT) (j0:Nat) (pl:Bool):SetTable:={ mask:=7,place:=#[j0],dummies:=#[],finger:=0,led:=led w,moves:=0,plain:=pl }
noncomputable def sob0 (w:zT):Obj:={ cls:=.type "set",data:=.set #[] 0 (tb0 w) }
noncomputable def sob1 (w:zT) (h0:Int) (x:zY) (pl:Bool):Obj:={ cls:=.type "set",data:=.set #[(h0,x)] 1 (tb1 w (zC h0 % 8) pl) }
theorem below_1 (j0 j:Nat):SetTable.below #[j0] j=if j0<j then 1 else 0:=by
 show SetTable.below.go #[j0] j (0+1) 0 1=_
 dsimp only [SetTable.below.go];rw [if_pos (by decide)];rfl
theorem slot_0 (w:zT) (j:Nat):(tb0 w).slot j= .empty:=rfl
theorem slot_1 (w:zT) (j0:Nat) (pl:Bool) (j:Nat):(tb1 w j0 pl).slot j=if j=j0 then .live 0 else .empty:=by
 show (if (#[j0]:Array Nat)[SetTable.below #[j0] j]? ==some j then SetTable.Slot.live (SetTable.below #[j0] j) else if SetTable.has #[] j then .dummy else .empty)=_
 rw [below_1];by_cases h:j=j0
 · subst h;rw [if_neg (yY _),if_pos rfl];exact if_pos (beq_self_eq_true (some j))
 · rw [if_neg h];by_cases hl:j0<j
   · rw [if_pos hl];rfl
   · rw [if_neg hl];exact if_neg fun e=>h (l_j (eq_of_beq (a:=some j0) e)).symm
theorem probe_s (t:SetTable) (f:Nat→Int) (h:Int) (n:Nat) (p:SetTable.Probe):SetTable.probe.go t f h (n+1) p=match t.slot p.j with
 | .empty=>some (.empty p.j p.dummy)
 | .dummy=>SetTable.probe.go t f h n (t.advance { p with dummy:=some p.j })
 | .live i=>if f i==h then some (.candidate p.j i (t.advance p)) else SetTable.probe.go t f h n (t.advance p):=rfl
def Pok (p:SetTable.Probe):Prop:=p.more=0∧p.j=p.i∧p.dummy=none
theorem adv_ok {w:zT}{j0:Nat}{pl:Bool}{p:SetTable.Probe}(x:Pok p):Pok ((tb1 w j0 pl).advance p)∧((tb1 w j0 pl).advance p).perturb=p.perturb / 32∧((tb1 w j0 pl).advance p).i=(p.i*5+1+p.perturb / 32) % 8:=by
 obtain ⟨h1,h2,h3⟩:=x
 have e:(tb1 w j0 pl).advance p={ p with j:=(p.i*5+1+p.perturb / 32) % 8,more:=SetTable.runEnd 7 ((p.i*5+1+p.perturb / 32) % 8) - (p.i*5+1+p.perturb / 32) % 8,i:=(p.i*5+1+p.perturb / 32) % 8,perturb:=p.perturb / 32 }:=by
  unfold SetTable.advance;rw [if_neg (by revert h1;k_in)];rfl
 rw [e];refine ⟨⟨?_,rfl,h3⟩,rfl,rfl⟩;show SetTable.runEnd 7 _ - _=0
 unfold SetTable.runEnd;split <;> lia
theorem five:∀ i,i<8→¬ (i*5+1+0 / 32) % 8=i:=by decide
theorem go_other {w:zT}{j0:Nat}{pl:Bool}{f:Nat→Int}{h:Int}(hj:j0<8) (hne:(f 0==h)=false):∀ (n:Nat) (p:SetTable.Probe) (fuel:Nat),Pok p→p.perturb<32 ^ n→n+2≤fuel→∃ j,SetTable.probe.go (tb1 w j0 pl) f h fuel p=some (.empty j none)
 |n,p,0,_,_,hf=>absurd hf (Nat.not_succ_le_zero _)
 |n,p,fuel+1,x,hp,hf=>by
  rw [probe_s,slot_1];by_cases e:p.j=j0
  · rw [if_pos e];dsimp only;rw [hne];have a:=adv_ok (w:=w) (j0:=j0) (pl:=pl) x;simp -iota only [yZ,if_false];cases n with
    |zero=>
     have hz:p.perturb=0:=by simpa using hp
     obtain ⟨fuel',rfl⟩:∃ f',fuel=f'+1:=⟨fuel - 1,by revert hf;k_in⟩;rw [probe_s,slot_1];have hi:p.i=j0:=x.2.1.symm.trans e;have hne':¬ ((tb1 w j0 pl).advance p).j=j0:=by rw [a.1.2.1,a.2.2,hz,hi];exact five j0 hj
     rw [if_neg hne'];exact ⟨_,by rw [a.1.2.2]⟩
    |succ n=>
     exact go_other hj hne n _ fuel a.1 (by rw [a.2.1];rw [Nat.pow_succ,Nat.mul_comm] at hp;exact Nat.div_lt_of_lt_mul hp) (by revert hf;k_in)
  · rw [if_neg e];exact ⟨_,by rw [x.2.2]⟩
theorem start_ok (w:zT) (j0:Nat) (pl:Bool) (h:Int):Pok ((tb1 w j0 pl).probeStart h)∧((tb1 w j0 pl).probeStart h).perturb<32 ^ 13∧((tb1 w j0 pl).probeStart h).j=zC h % 8:=by
 refine ⟨⟨?_,rfl,rfl⟩,?_,rfl⟩
 · show SetTable.runEnd 7 (zC h % 8) - zC h % 8=0
   unfold SetTable.runEnd;split <;> lia
 · show zC h<_
   unfold zC;have:h % (2 ^ 64:Int)<2 ^ 64:=Int.emod_lt_of_pos _ (by decide);have:(32:Nat) ^ 13=36893488147419103232:=by decide
   lia
section
variable {w:zT}{K:Kd w}{A:zU}{E:VP}{s:zX}{a:zV}{x y:zY}{c d h0:Int}{pl:Bool}
theorem fits1 (w:zT) (j0:Nat) (pl:Bool):(tb1 w j0 pl).fits 1=true:=rfl
theorem probe_0 (w:zT) (f:Nat→Int) (h:Int) (p:SetTable.Probe):(tb0 w).probe f h p=some (.empty p.j p.dummy):=by
 unfold SetTable.probe;rw [show 10*SetTable.turns (tb0 w).mask=219+1 from rfl,probe_s,slot_0]
theorem probe_1 (w:zT) (j0:Nat) (pl:Bool) (f:Nat→Int) (h:Int) (p:SetTable.Probe):(tb1 w j0 pl).probe f h p=
 if p.j=j0 then (if (f 0==h)=true then some (.candidate j0 0 ((tb1 w j0 pl).advance p)) else SetTable.probe.go (tb1 w j0 pl) f h 219 ((tb1 w j0 pl).advance p)) else some (.empty p.j p.dummy):=by
 unfold SetTable.probe;rw [show 10*SetTable.turns (tb1 w j0 pl).mask=219+1 from rfl,probe_s,slot_1];by_cases e:p.j=j0
 · rw [if_pos e,if_pos e];dsimp only;by_cases h':(f 0==h)=true
   · rw [if_pos h',if_pos h',e]
   · rw [if_neg h',if_neg h']
 · rw [if_neg e,if_neg e]
theorem seen_not {stored:List zY}{Q:Bool→zX→Prop}(hx:K.is s.heap x d) (hxo:K.ok d) (hst:∀ v∈stored,∃ d,K.is s.heap v d∧K.ok d) (h:Q false s):zZ (zW PW w) A (searchCouldBeSeen x stored) Q E s:=by
 unfold searchCouldBeSeen;refine w_b ?_;refine wpAny_forIn_list _ (fun rest r s'=>s'=s∧r=(none,())∧∀ v∈rest,∃ d,K.is s.heap v d∧K.ok d) _ ?_ ?_ _ _ ⟨rfl,rfl,hst⟩
 · rintro y rest r s' ⟨rfl,rfl,hr⟩;obtain ⟨d',hd,hd'⟩:=hr y List.mem_cons_self;have hrest:∀ v∈rest,∃ d,K.is s'.heap v d∧K.ok d:=fun v hv=>hr v (List.mem_cons_of_mem _ hv)
   refine yG (fun _=>w_p ⟨rfl,rfl,hrest⟩) (fun _=>?_);refine w_b (K.quiet hx hxo ?_);simp -iota only [Bool.not_true,yZ,if_false];refine w_b (K.quiet hd hd' ?_);simp -iota only [Bool.not_true,yZ,if_false];refine w_b (K.own hx hxo ?_);simp -iota only [yZ,if_false];refine w_b (K.own hd hd' ?_);simp -iota only [yZ,if_false];exact w_p ⟨rfl,rfl,hrest⟩
 · rintro r s' ⟨rfl,rfl,_⟩;exact w_p h
theorem w_pos {α:Type}{M:Model}{A:zU}{E:VP}{s:zX}{c:Prop} [Decidable c] {a b:Sem α}{Q:α→zX→Prop}(h:c) (k:zZ M A a Q E s):zZ M A (if c then a else b) Q E s:=by rw [if_pos h];exact k
theorem w_neg {α:Type}{M:Model}{A:zU}{E:VP}{s:zX}{c:Prop} [Decidable c] {a b:Sem α}{Q:α→zX→Prop}(h:¬ c) (k:zZ M A b Q E s):zZ M A (if c then a else b) Q E s:=by rw [if_neg h];exact k
theorem same_1 (w:zT) (j0:Nat) (pl:Bool):(tb1 w j0 pl).sameMemory (tb1 w j0 pl).moves (tb1 w j0 pl).mask=some true:=rfl
theorem search_look (hu:A.units+70<cLine) (ho:s.heap.get? a=some (sob1 w (K.hash c) y pl)) (hy:K.is s.heap y c) (hyo:K.ok c) (hx:K.is s.heap x d) (hxo:K.ok d) (hh:K.hash c=K.hash d) (hs:(x.scannable&&y.scannable)=false) {Q:SetFound→zX→Prop}
 {p:SetTable.Probe}{fuel:Nat}{st:Option SetTable.Probe}(hst:st.getD ((tb1 w (zC (K.hash c) % 8) pl).probeStart (K.hash d))=p) (hpj:p.j=zC (K.hash c) % 8) (k1:c=d→Q (.there (some 0)) s) (k2:c≠d→zZ (zW PW w) A (setSearchFrom a x (K.hash d) false fuel (some ((tb1 w (zC (K.hash c) % 8) pl).advance p))) Q E s):
 zZ (zW PW w) A (setSearchFrom a x (K.hash d) false (fuel+1) st) Q E s:=by
 have hp:∀ f:Nat→Int,(f 0==K.hash d)=true→(tb1 w (zC (K.hash c) % 8) pl).probe f (K.hash d) (st.getD ((tb1 w (zC (K.hash c) % 8) pl).probeStart (K.hash d)))=some (.candidate (zC (K.hash c) % 8) 0 ((tb1 w (zC (K.hash c) % 8) pl).advance p)):=fun f hf=>by
  rw [hst,probe_1,if_pos hpj,if_pos hf]
 refine w_b (w_s (o:=sob1 w (K.hash c) y pl) ho rfl (fits1 ..) ?_);refine w_neg (by show ¬ ((7 % 2==0)=true);decide) ?_;dsimp only;rw [hp _ (by show (K.hash c==K.hash d)=true;simp -iota [hh])];refine' share (fun K1=>?rest) ?kk
 case rest=>
  refine yG (fun _=>w_b (seen_not (K:=K) hx hxo ?_ (w_neg zA ?_))) fun _=>?_
  · intro v hv;simp -iota only [zN,Array.mem_toList_iff,Array.mem_filter] at hv;obtain ⟨e,he,rfl⟩:=hv;simp -iota at he;obtain ⟨rfl,_⟩:=he;exact ⟨c,hy,hyo⟩
  · exact K1
  · exact K1
 case kk=>
  refine w_b (w_h (K.eqv hy hx hu _ _ ?_));refine w_b (w_s (o:=sob1 w (K.hash c) y pl) ho rfl (fits1 ..) ?_);refine w_neg (by simp) ?_;dsimp only;rw [same_1];dsimp only;rw [if_pos rfl,slot_1,if_pos rfl];refine w_b (K.self hy hyo hx hxo hh hs ?_);rw [if_pos rfl];refine w_b (w_p ?_);refine yG (fun h=>w_p (k1 (by simpa using h))) fun h=>k2 (by simpa using h)
theorem search_free (ho:s.heap.get? a=some (sob1 w h0 y pl)) {h:Int}{Q:SetFound→zX→Prop}{p:SetTable.Probe}{fuel:Nat}{st:Option SetTable.Probe}(hst:st.getD ((tb1 w (zC h0 % 8) pl).probeStart h)=p) (hpj:¬ p.j=zC h0 % 8) (hpd:p.dummy=none) (k:Q (.free p.j false) s):
 zZ (zW PW w) A (setSearchFrom a x h false (fuel+1) st) Q E s:=by
 refine w_b (w_s (o:=sob1 w h0 y pl) ho rfl (fits1 ..) ?_);refine w_neg (by show ¬ ((7 % 2==0)=true);decide) ?_;have hp:∀ f:Nat→Int,(tb1 w (zC h0 % 8) pl).probe f h (st.getD ((tb1 w (zC h0 % 8) pl).probeStart h))=some (.empty p.j none):=fun f=>by rw [hst,probe_1,if_neg hpj,hpd]
 dsimp only;rw [hp];exact w_p k
theorem search_on (hu:A.units+70<cLine) (ho:s.heap.get? a=some (sob1 w (K.hash c) y pl)) (hy:K.is s.heap y c) (hyo:K.ok c) (hx:K.is s.heap x d) (hxo:K.ok d) (hne:c≠d) (hh:K.hash c=K.hash d) (hs:(x.scannable&&y.scannable)=false) {Q:SetFound→zX→Prop}(k:∀ j,Q (.free j false) s):
 ∀ (n:Nat) (p:SetTable.Probe) (fuel:Nat),Pok p→p.perturb<32 ^ n→n+2≤fuel→zZ (zW PW w) A (setSearchFrom a x (K.hash d) false fuel (some p)) Q E s
 |n,p,0,_,_,hf=>absurd hf (Nat.not_succ_le_zero _)
 |n,p,fuel+1,xp,hp,hf=>by
  by_cases e:p.j=zC (K.hash c) % 8
  · refine search_look (p:=p) hu ho hy hyo hx hxo hh hs rfl e (fun q=>absurd q hne) fun _=>?_;have a1:=adv_ok (w:=w) (j0:=zC (K.hash c) % 8) (pl:=pl) xp;cases n with
    |zero=>
     have hz:p.perturb=0:=by simpa using hp
     obtain ⟨fuel',rfl⟩:∃ f',fuel=f'+1:=⟨fuel - 1,by revert hf;k_in⟩;have hi:p.i=zC (K.hash c) % 8:=xp.2.1.symm.trans e;have hne':¬ ((tb1 w (zC (K.hash c) % 8) pl).advance p).j=zC (K.hash c) % 8:=by rw [a1.1.2.1,a1.2.2,hz,hi];exact five _ (Nat.mod_lt _ (by decide))
     exact search_free ho rfl hne' a1.1.2.2 (k _)
    |succ n=>
     exact search_on hu ho hy hyo hx hxo hne hh hs k n _ fuel a1.1 (by rw [a1.2.1];rw [Nat.pow_succ,Nat.mul_comm] at hp;exact Nat.div_lt_of_lt_mul hp) (by revert hf;k_in)
  · exact search_free ho rfl e xp.2.2 (k _)
theorem set_search (hu:A.units+70<cLine) (ho:s.heap.get? a=some (sob1 w (K.hash c) y pl)) (hy:K.is s.heap y c) (hyo:K.ok c) (hx:K.is s.heap x d) (hxo:K.ok d) (hs:(x.scannable&&y.scannable)=false) {Q:SetFound→zX→Prop}(k1:c=d→Q (.there (some 0)) s) (k2:c≠d→∀ j,Q (.free j false) s):
 zZ (zW PW w) A (setSearch a x (K.hash d)) Q E s:=by
 have st:=start_ok w (zC (K.hash c) % 8) pl (K.hash d);unfold setSearch;by_cases hh:K.hash c=K.hash d
 · refine search_look (p:=(tb1 w (zC (K.hash c) % 8) pl).probeStart (K.hash d)) hu ho hy hyo hx hxo hh hs rfl (by rw [st.2.2,hh]) k1 fun hne=>?_;have a1:=adv_ok (w:=w) (j0:=zC (K.hash c) % 8) (pl:=pl) st.1;exact search_on hu ho hy hyo hx hxo hne hh hs (k2 hne) 13 _ 99999 a1.1 (by rw [a1.2.1];exact Nat.lt_of_le_of_lt (Nat.div_le_self _ _) st.2.1) (by k_in)
 · have hne:c≠d:=fun e=>hh (by rw [e])
   refine w_b (w_s (o:=sob1 w (K.hash c) y pl) ho rfl (fits1 ..) ?_);refine w_neg (by show ¬ ((7 % 2==0)=true);decide) ?_;obtain ⟨j,hj⟩:=go_other (w:=w) (j0:=zC (K.hash c) % 8) (pl:=pl) (f:=fun i=>(#[(K.hash c,y)][i]?.map (·.1)).getD 0) (h:=K.hash d) (Nat.mod_lt _ (by decide)) (by simpa using hh) 13 _ (219+1) st.1 st.2.1 (by k_in);have hp:(tb1 w (zC (K.hash c) % 8) pl).probe (fun i=>(#[(K.hash c,y)][i]?.map (·.1)).getD 0) (K.hash d) ((tb1 w (zC (K.hash c) % 8) pl).probeStart (K.hash d))=some (.empty j none):=hj;refine (show zZ (zW PW w) A (match (tb1 w (zC (K.hash c) % 8) pl).probe (fun i=>(#[(K.hash c,y)][i]?.map (·.1)).getD 0) (K.hash d) ((tb1 w (zC (K.hash c) % 8) pl).probeStart (K.hash d)) with|some met=>_|_=>_) Q E s from ?_);rw [hp];exact w_p (k2 hne j)
end
end
section
open PySem.SeqAt
section
variable {w:zT}{K:Kd w}{A:zU}{E:VP}{s:zX}{a:zV}{x y:zY}{c d h0:Int}{pl:Bool}
theorem scan_1 (hu:A.units+70<cLine) (ho:s.heap.get? a=some (sob1 w (K.hash c) y pl)) (hy:K.is s.heap y c) (hyo:K.ok c) (hx:K.is s.heap x d) (hxo:K.ok d) {Q:ScanMet→zX→Prop}(k1:c=d→Q (.found 0) s) (k2:c≠d→Q .absent s):
 zZ (zW PW w) A (setScan a x (K.hash d) false #[(K.hash c,y)]) Q E s:=by
 have plain:zZ (zW PW w) A (setScanFrom a x (K.hash d) false [(K.hash c,y)] 0) Q E s:=by
  unfold setScanFrom;by_cases hh:(K.hash c==K.hash d)=true
  · rw [if_pos hh];refine w_b (wpAny_setEpoch_of (o:=sob1 w (K.hash c) y pl) ho rfl (fits1 ..) ?_);refine w_b (K.eqv hy hx hu _ _ ?_);rw [if_neg (by simp)];refine w_b (wpAny_setEpoch_of (o:=sob1 w (K.hash c) y pl) ho rfl (fits1 ..) ?_);rw [if_neg (by simp)];by_cases e:c=d
    · rw [if_pos (by simpa using e)];exact w_p (k1 e)
    · rw [if_neg (by simpa using e)];unfold setScanFrom;exact w_p (k2 e)
  · rw [if_neg hh];unfold setScanFrom;exact w_p (k2 fun e=>hh (by simp [e]))
 cases x
 case str u tk=>
  unfold setScan;dsimp only;by_cases hs:((#[(K.hash c,y)]:Array (Int×zY)).all fun e=>isExactStrKey e.2)=true
  · rw [if_pos hs];have hs':isExactStrKey y=true:=by simpa using hs
    cases y <;> first|exact absurd hs' zA|rename_i v tv
    have ht:=K.txt hy hx;unfold setScanStrs;by_cases e:c=d
    · have hf:(#[(K.hash c,Value.str v tv)]:Array (Int×zY)).findIdx? (fun e=>e.2.isStr u)=some 0:=by
       rw [l_t e] at ht;simp -iota [Array.findIdx?,Array.findIdx?.loop];exact ht
      rw [hf];dsimp only;refine w_b (wpAny_setEpoch_of (o:=sob1 w (K.hash c) (.str v tv) pl) ho rfl (fits1 ..) ?_);refine w_b (K.eqv hy hx hu _ _ ?_);rw [if_neg (by simp)];refine w_b (wpAny_setEpoch_of (o:=sob1 w (K.hash c) (.str v tv) pl) ho rfl (fits1 ..) ?_);rw [if_neg (by simp),if_pos (by simpa using e)];exact w_p (k1 e)
    · have hf:(#[(K.hash c,Value.str v tv)]:Array (Int×zY)).findIdx? (fun e=>e.2.isStr u)=none:=by
       rw [l_f e] at ht;simp -iota [Array.findIdx?,Array.findIdx?.loop];exact ht
      rw [hf];exact w_p (k2 e)
  · rw [if_neg hs];exact plain
 all_goals exact plain
theorem set_find1 (hu:A.units+70<cLine) (ho:s.heap.get? a=some (sob1 w (K.hash c) y pl)) (hy:K.is s.heap y c) (hyo:K.ok c) (hx:K.is s.heap x d) (hxo:K.ok d) {Q:Option Nat→zX→Prop}(k1:c=d→Q (some 0) s) (k2:c≠d→Q none s):
 zZ (zW PW w) A (setFind a x (K.hash d)) Q E s:=by
 unfold setFind setFindIn;refine w_b (w_s (o:=sob1 w (K.hash c) y pl) ho rfl (fits1 ..) ?_);dsimp only;by_cases hb:byScan x #[(K.hash c,y)]=true
 · rw [if_pos hb];refine w_b (wpAny_rule (w_b (scan_1 (pl:=pl) hu ho hy hyo hx hxo (fun e=>?_) (fun e=>?_))))
   · exact w_p (k1 e)
   · exact w_p (k2 e)
 · rw [if_neg hb]
   have hs:(x.scannable&&y.scannable)=false:=by
    cases h:(x.scannable&&y.scannable) with
    |false=>rfl
    |true=>exact absurd (by simp only [yT] at h;simp [byScan,h.1,h.2,scanBound]) hb
   refine w_b (set_search hu ho hy hyo hx hxo hs (fun e=>w_p (k1 e)) (fun e j=>w_p (k2 e)))
theorem scan_0 {h:Int}{ad:Bool}{Q:ScanMet→zX→Prop}(k:Q .absent s):zZ (zW PW w) A (setScan a x h ad #[]) Q E s:=by
 cases x
 case str u tk=>
  unfold setScan;dsimp only;rw [if_pos (by simp)];unfold setScanStrs;rw [show (#[]:Array (Int×zY)).findIdx? (fun e=>e.2.isStr u)=none by simp];exact w_p k
 all_goals
  unfold setScan;dsimp only;unfold setScanFrom;exact w_p k
theorem set_find0 (ho:s.heap.get? a=some (sob0 w)) {h:Int}{Q:Option Nat→zX→Prop}(k:Q none s):zZ (zW PW w) A (setFind a x h) Q E s:=by
 unfold setFind setFindIn;refine w_b (w_s (o:=sob0 w) ho rfl rfl ?_);dsimp only;refine yG (fun _=>w_b (wpAny_rule (w_b (scan_0 (w_p k))))) fun _=>w_b ?_
 unfold setSearch;refine w_b (w_s (o:=sob0 w) ho rfl rfl (w_neg (by show ¬ ((7 % 2==0)=true);decide) ?_));dsimp only;rw [probe_0];exact w_p (w_p k)
theorem set_has1 (hu:A.units+70<cLine) (ho:s.heap.get? a=some (sob1 w (K.hash c) y pl)) (hy:K.is s.heap y c) (hyo:K.ok c) (hx:K.is s.heap x d) (hxo:K.ok d) {Q:Bool→zX→Prop}(k:∀ tk,Q (decide (c=d)) { s with toks:=tk }):
 zZ (zW PW w) A (setContains a x) Q E s:=by
 unfold setContains
 try with_reducible refine w_h ?_
 refine w_b (K.pyHash hx hxo hu fun tk=>w_b (set_find1 (K:=K) (s:={ s with toks:=tk }) (pl:=pl) hu ho hy hyo hx hxo (fun e=>w_p ?_) (fun e=>w_p ?_)))
 · have:=k tk;rw [l_t e] at this;exact this
 · have:=k tk;rw [l_f e] at this;exact this
theorem set_has0 (hu:A.units+70<cLine) (ho:s.heap.get? a=some (sob0 w)) (hx:K.is s.heap x d) (hxo:K.ok d) {Q:Bool→zX→Prop}(k:∀ tk,Q false { s with toks:=tk }):
 zZ (zW PW w) A (setContains a x) Q E s:=by
 unfold setContains
 try with_reducible refine w_h ?_
 exact w_b (K.pyHash hx hxo hu fun tk=>w_b (set_find0 (s:={ s with toks:=tk }) ho (w_p (k tk))))
theorem set_add0 (hu:A.units+70<cLine) (ho:s.heap.get? a=some (sob0 w)) (hx:K.is s.heap x d) (hxo:K.ok d) {Q:Bool→zX→Prop}
 (k:∀ tk h' pl,Heap.SameBut a s.heap h'→h'.get? a=some (sob1 w (K.hash d) x pl)→Q true { s with heap:=h',toks:=tk }):zZ (zW PW w) A (setAdd a x) Q E s:=by
 unfold setAdd
 try with_reducible refine w_h ?_
 refine w_b (K.pyHash hx hxo hu fun tk=>?_);unfold setAddHashed
 try with_reducible refine w_h ?_
 unfold setAddHashedIn;refine w_b (w_s (s:={ s with toks:=tk }) (o:=sob0 w) ho rfl rfl ?_);dsimp only
 have store:∀ (pl:Bool) (s':zX) (Q':UP),s'={ s with toks:=tk }→(∀ h',Heap.SameBut a s.heap h'→h'.get? a=some (sob1 w (K.hash d) x pl)→Q' () { s with heap:=h',toks:=tk })→
  zZ (zW PW w) A (storeSet a #[(K.hash d,x)] (tb1 w (zC (K.hash d) % 8) pl)) Q' E s':=by
  rintro pl s' Q' rfl k';refine wpAny_storeSet_of (s:={ s with toks:=tk }) (o:=sob0 w) ho rfl (k' _ (l_u ..) ?_) (by rw [yF];show 1≤_;decide);exact (yL _ ho rfl).trans rfl
 have ins:SetTable.insertAt (#[]:Array (Int×zY)) 0 (K.hash d,x)=#[(K.hash d,x)]:=by simp [SetTable.insertAt]
 have put:(tb0 w).put (zC (K.hash d) % 8)=(tb1 w (zC (K.hash d) % 8) true,0):=by
  rfl
 by_cases hb:byScan x #[]=true
 · have hsc:x.scannable=true:=by simp only [byScan,yT] at hb;exact hb.1.1
   refine w_pos hb (w_b ?_);unfold setAddByScan;refine w_b (wpAny_rule (w_b ?_))
   have hlay:layNew (tb0 w) #[] (K.hash d) x=(#[(K.hash d,x)],tb1 w (zC (K.hash d) % 8) true,false,false):=by
    unfold layNew SetTable.freeSlot;rw [probe_0];dsimp only;rw [show ((tb0 w).probeStart (K.hash d)).dummy.getD ((tb0 w).probeStart (K.hash d)).j=zC (K.hash d) % 8 from rfl,put];dsimp only;rw [ins];rfl
   refine scan_0 ?_;dsimp only;rw [hlay];dsimp only;refine w_b (w_p (w_pos (by rfl) (w_b ?_)));rw [hashByValue_scannable 8 hsc];refine w_p ?_;cases plainKind x
   · rw [if_neg zA];refine w_b (store false _ _ rfl fun h' hs ho'=>?_);refine yG (fun h=>absurd (show (false=true) from h) zA) (fun _=>?_);exact w_p (w_p (k tk h' false hs ho'))
   · rw [if_pos rfl];refine w_b (store true _ _ rfl fun h' hs ho'=>?_);refine yG (fun h=>absurd (show (false=true) from h) zA) (fun _=>?_);exact w_p (w_p (k tk h' true hs ho'))
 · refine w_neg hb (w_b ?_);unfold setSearch;refine w_b (w_s (s:={ s with toks:=tk }) (o:=sob0 w) ho rfl rfl (w_neg (by show ¬ ((7 % 2==0)=true);decide) ?_));dsimp only;rw [probe_0];refine w_p ?_;refine w_b (w_s (s:={ s with toks:=tk }) (o:=sob0 w) ho rfl rfl ?_);dsimp only;rw [show ((none:Option SetTable.Probe).getD ((tb0 w).probeStart (K.hash d))).j=zC (K.hash d) % 8 from rfl,put];dsimp only;rw [ins];refine w_pos (by rfl) ?_;refine w_b (K.plainH (s:={ s with toks:=tk }) hx hxo fun b=>?_);cases b
   · rw [if_neg zA];refine w_b (store false _ _ rfl fun h' hs ho'=>?_);refine yG (fun h=>absurd (show (false=true) from h) zA) (fun _=>?_);exact w_p (k tk h' false hs ho')
   · rw [if_pos rfl];refine w_b (store true _ _ rfl fun h' hs ho'=>?_);refine yG (fun h=>absurd (show (false=true) from h) zA) (fun _=>?_);exact w_p (k tk h' true hs ho')
end
end
section
theorem id_nl {M:Model}{A:zU}{E:VP}{s:zX}{vs} {Q:VP}(k:zZ M A (newList vs) Q E s):zZ M A (newList vs) Q E s:=k
theorem id_nt {M:Model}{A:zU}{E:VP}{s:zX}{vs} {Q:VP}(k:zZ M A (newTuple vs) Q E s):zZ M A (newTuple vs) Q E s:=k
theorem prm_h {α:Type}{a b:List α}(h:∀ [DecidableEq α] x,a.count x=b.count x):a.Perm b:=by
 classical
 exact List.perm_iff_count.mpr h
section
variable {α:Type}{x y:α}{a b b' l r r':List α}
theorem pe1 (h:r.Perm (x::r')):(y::r).Perm (x::y::r'):=(h.cons y).trans (List.Perm.swap ..)
theorem pe2 (h:r.Perm (x::r')):(b++r).Perm (x::(b++r')):=(h.append_left b).trans List.perm_middle
theorem pe3 (h:b.Perm (x::b')):(b++r).Perm (x::(b'++r)):=h.append_right r
theorem pg0:a.Perm (a++[]):=by rw [List.append_nil]
theorem pg1 (h:r.Perm (a++r')):(y::r).Perm (a++y::r'):=(h.cons y).trans List.perm_middle.symm
theorem pg2 (h:r.Perm (a++r')):(b++r).Perm (a++(b++r')):=(h.append_left b).trans (by rw [← List.append_assoc,← List.append_assoc];exact List.perm_append_comm.append_right _)
theorem pg3 (h:b.Perm (a++b')):(b++r).Perm (a++(b'++r)):=(h.append_right r).trans (by rw [List.append_assoc])
theorem pm_c (h:r.Perm (x::r')) (k:l.Perm r'):(x::l).Perm r:=(k.cons x).trans h.symm
theorem pm_a (h:r.Perm (a++r')) (k:l.Perm r'):(a++l).Perm r:=(k.append_left a).trans h.symm
theorem pm_z (h:r.Perm (a++r')) (k:[].Perm r'):a.Perm r:=by
 have e:r'=[]:=k.symm.eq_nil;rw [e,List.append_nil] at h;exact h.symm
theorem pm_s (k:(a++(b++l)).Perm r):(a++b++l).Perm r:=by rw [List.append_assoc];exact k
theorem pm_t (k:(x::(a++l)).Perm r):((x::a)++l).Perm r:=k
theorem pm_n (k:l.Perm r):([]++l).Perm r:=k
end
end
local macro_rules | `(tactic| wtm_at $s) => mgx s "g" "id_nl: m_list W S na | id_nt: m_tuple W S nt | id_sub: t_neg hl:s1 i h1:i hz:i hx:a2 ? hs:u | id_exec: x_expr ? u u; x_asub ? u"
section
section
variable {w:zT}{A:zU}{E:VP}{σ:zX}{h₀ h:Heap}{t:Nat}{L:zV}{m:NM}{mu rest:Led}{Q:VP}
theorem fn_gen2 {f:zV}{name qual:Str}{params:Arguments}{body:List Stmt}{scope:Scope}{dV kV doc pm cdv ct oc:zY}{an od:Option zV}{osl:Array (Option zY)}{pos:List zY}{kw binds:List (Str×zY)}
 (Z:Site w A L h₀) (W:Wk h₀ L h m (mu++rest)) (hroom:A.depth<zS)
 (ho:(KF PW w.params).lookup f=some ⟨oc,od,.func (fnOf name qual params body scope dV kV doc pm an cdv ct),osl⟩) (hcd:codeIn (KF PW w.params) cdv qual=true)
 (hbind:BindsTo (S σ h t) (fnOf name qual params body scope dV kV doc pm an cdv ct) ⟨pos,kw⟩ binds) (hloc:∀ y∈binds,scope.names.lookup y.1=some .local)
 (hcell:∀ x∈scope.names,x.2≠ .cell) (hco:scope.isCoroutine=false) (hgen:scope.isGenerator=false) (hk:scope.kind= .function)
 (k:∀ L' h₁ t₁,t₁=t+binds.length→Site w (A.deeper (envX qual scope L' f cdv [])) L' (gnd h mu)→Wk (gnd h mu) L' h₁ (fun y=>binds.reverse.lookup y) mu→
  zZ (zW PW w) (A.deeper (envX qual scope L' f cdv [])) (execs body (envX qual scope L' f cdv []))
   (fun fl s'=>∃ h' t' m' mu',s'=S σ h' t'∧Wk (gnd h mu) L' h' m' mu'∧(Wk h₀ L h' m (mu'++rest)→Q (retv fl) (S σ h' t')))
   (fun _ _=>False) (S σ h₁ t₁)):
 zZ (zW PW w) A (call (.ref f) pos kw) Q E (S σ h t):=by
 obtain ⟨⟨A₀,base,outer,env,B,hA,hf,hke⟩,X,⟨pT,lT,mean,mg,mb,T⟩,hh⟩:=Z;have N:News h₀ L h mu:=fun p hp=>W.nw p (l_l _ hp)
 obtain ⟨FG,BG,st,-⟩:=groundX (R:=fun _ _=>True) (s:=S σ h t) B W.fr N hA hf hke;refine wpAny_call ?_;refine codeAny_call_def (fd:=fnX name qual params body scope [] dV kV doc pm an cdv ct) (body:=body) (binds:=binds) hroom ((X.keeps W.fr.keep) _ _ ho) rfl (T.nolimit.keeps W.fr.keep) (codeRec_of (X.keeps W.fr.keep) hcd) rfl hbind hcell hloc (fun h₁ hns hk₁=>?_) hco hgen hk
 have W₁:Wk (gnd h mu) h.objs.size h₁ (fun y=>binds.reverse.lookup y) mu:=
  ⟨⟨hns,fun b o e=>hk₁ b o (of_hideAll _ e),Nat.le_of_eq (hideAll_size _ _)⟩,
   fun p hp=>⟨hk₁ _ _ (N p hp).1,Nat.ne_of_lt (zB (N p hp).1),hideAll_none _ (l_o hp)⟩,by
   have:=W.nd;rw [zK,yQ] at this;exact this.1⟩
 refine w_m (k h.objs.size h₁ _ rfl ⟨⟨A,base,env::outer,_,BG,yM hA,rfl,hk⟩,X.keeps st,⟨pT,lT,mean,mg,mb,T.keeps st⟩,hh⟩ W₁) ?_ ?_
 · rintro fl s' ⟨h',t',m',mu',rfl,W',kk⟩;have:=kk (W.back W');cases fl <;> exact this
 · intro e s' hf;exact hf.elim
end
section
variable {w:zT}{A:zU}{E:VP}{σ:zX}{h₀ h:Heap}{t:Nat}{L:zV}{m:NM}{news:Led}{env:Env}{M:Model}
theorem r_int_p {i kk pos} {Q:VP}(ht:0<t) (k:∀ tk t',0<t'→Q (.int i tk) (S σ h t')):zZ M A (eval (.Constant (.int i) kk pos) env) Q E (S σ h t):=wpAny_Constant_int (k _ _ (Nat.succ_pos _))
theorem r_str_p {x kk pos} {Q:VP}(ht:0<t) (k:∀ tk t',tk≠0→Q (.str x tk) (S σ h t')):zZ M A (eval (.Constant (.str x) kk pos) env) Q E (S σ h t):=wpAny_Constant_str (k _ _ (Nat.pos_iff_ne_zero.mp ht))
theorem Wk.ne1 {h₀ L h m news} {w:zT}{A:zU}(W:Wk h₀ L h m news) (Z:Site w A L h₀):h.objs.size≠1:=by
 have:=W.inK Z 2 _ (show (KF PW w.params).lookup 2=some _ from rfl);exact fun e=>absurd (zB this) (by rw [e];decide)
end
end
noncomputable def addDue (acc:List (Nat×Nat×Nat)) (b:Nat×Nat×Nat):List (Nat×Nat×Nat):=
 match acc.getLast? with
 |some l=>if l.1+l.2.2=b.1∧l.2.1+l.2.2=b.2.1 then acc.dropLast++[(l.1,l.2.1,l.2.2+b.2.2)] else acc++[b]
 |none=>acc++[b]
def dueF (bs:List (Nat×Nat×Nat)):List (Nat×Nat×Nat):=bs.foldl addDue []
def dueP (odd:Int) (ns ks:List Int):List (Nat×Nat×Nat):=dueF (blocksF odd (ns.length+1) ns ks 0 0)++[(ns.length,ks.length,0)]
theorem addDue_len (acc b):(addDue acc b).length≤acc.length+1:=by
 unfold addDue;split
 · split
   · simp
   · simp
 · simp
theorem dueF_len:∀ (bs acc:List (Nat×Nat×Nat)),(bs.foldl addDue acc).length≤acc.length+bs.length
 |[],acc=>by simp
 |b::bs,acc=>by
  have:=dueF_len bs (addDue acc b);have:=addDue_len acc b;simp only [xZ,yU]
  (rename_i z0;revert z0 this;k_in)
theorem TrN.snoc {tups vs ts T a b c t1 t2 t3 n} (x:TrN tups vs ts) (hm:(T,tob [.int a t1,.int b t2,.int c t3] n)∈tups) {p q z:Nat}(ha:a=p) (hb:b=q) (hc:c=z):TrN tups (vs++[.ref T]) (ts++[(p,q,z)]):=
 x.app (TrN.one hm ha hb hc)
theorem TrN.last {tups vs ts l T a b c t1 t2 t3 n} (x:TrN tups vs ts) (hl:ts.getLast? =some l) (hm:(T,tob [.int a t1,.int b t2,.int c t3] n)∈tups) {p q z:Nat}(ha:a=p) (hb:b=q) (hc:c=z):
 TrN tups (vs.set ((-1:Int)+vs.length).toNat (.ref T)) (ts.dropLast++[(p,q,z)]):=by
 obtain ⟨r,rfl⟩:∃ r,ts=r++[l]:=by
  obtain ⟨ys,e⟩:=List.getLast?_eq_some_iff.mp hl;exact ⟨ys,e⟩
 have hx:=x.1;rw [zD,List.length_singleton] at hx;rw [show ((-1:Int)+vs.length).toNat=r.length by revert hx;k_in,List.dropLast_concat];refine ⟨by simp [hx],fun k t e=>?_⟩;by_cases hk:k<r.length
 · rw [yD hk] at e;rw [List.getElem?_set_ne (by revert hk;k_in)];exact x.2 k t (by rw [yD hk];exact e)
 · by_cases hk':k=r.length
   · subst hk';rw [yE (yX _)] at e;simp at e;subst e ha hb hc;exact ⟨T,t1,t2,t3,n,by rw [List.getElem?_set_self (by revert hx;k_in)],hm⟩
   · rw [List.getElem?_eq_none (by simp;(revert hk hk';k_in))] at e;cases e
inductive DI (one other ld bl:zV) (bvs:List zY) (bn:Nat) (btups:Led) (bs:List (Nat×Nat×Nat)) (i:Nat) (m':NM) (news':Led):Prop
 |mk (vs:List zY) (n:Nat) (tups:Led) (x1:news'=(ld,lob vs n)::(tups++((bl,lob bvs bn)::btups))) (x2:TrN (tups++((bl,lob bvs bn)::btups)) vs (dueF (bs.take i))) (x3:m' (zQ "one")=some (.ref one)) (x4:m' (zQ "other")=some (.ref other)) (x5:m' (zQ "due")=some (.ref ld))
theorem due_body {w A L' g h t σ} {one other:zV}{xs ys:List zY}{ns ks:List Int}{odd:Int}{todd:Tok}{f:zV}{m} {Q:FP}{E:VP}
 (Z:Site w A L' g) (W:Wk g L' h m []) (room:A.depth+103<zS) (ru:A.units<cLine) (h1:Ls g one xs) (h2:Ls g other ys) (i1:IntsL xs ns) (i2:IntsL ys ks) (z1:ns.length≤100) (z2:ks.length≤100)
 (e1:m (zQ "one")=some (.ref one)) (e2:m (zQ "other")=some (.ref other)) (e3:m (zQ "odd")=some (.int odd todd))
 (k:∀ h' t' m' l vs n tups,Wk g L' h' m' ((l,lob vs n)::tups)→TrN tups vs (dueP odd ns ks)→Q (.ret (.ref l)) (S σ h' t')):
 zZ (zW PW w) A (execs (dB (st PW 15)) (envX n150 (dS (st PW 15)) L' f (.ref 302) [])) Q E (S σ h t):=by
 with_unfolding_all refine x_cons ?_
 kd_p;with_reducible rename zV=>ld
 refine x_for ?_ (by intro _;rfl);kd_p;refine blocks_spec w (ns.length+1) (i:=0) (j:=0) Z W (by revert room z1;k_in) (by wtm_at "s") (by wtm_at "s") i1 i2 z1 z2 (by lia) (by rfl) (by rfl) fun h' t' bl bvs bn btups W' _ tr=>?_;wtm_at "w";have hbl:=blocks_len odd (ns.length+1) ns ks 0 0;have hD:dueP odd ns ks=dueF (blocksF odd (ns.length+1) ns ks 0 0)++[(ns.length,ks.length,0)]:=rfl;generalize blocksF odd (ns.length+1) ns ks 0 0=bs at tr hbl hD;kd_p
 refine for_listT (vs:=bvs) (DI one other ld bl bvs bn btups bs)
  (W.perm (news':=(ld,lob [] 0)::([]++((bl,lob bvs bn)::btups))) (List.perm_middle (l₁:=(bl,lob bvs bn)::btups) (l₂:=[]) |>.trans (by simp))) Z.hh (by wtm_at "s") (by
   rintro i m' news' own' h' ⟨vs,n,tups,rfl,_⟩ W
   exact Wk.ls (vs:=bvs) W (by wtm_at "m")) ⟨[],0,[],rfl,.nil,by k_is,by k_is,by k_is⟩ ?_ ?_
 · clear W;intro i v m₁ news₁ own₁ h₁ t₁ E' hi hv j10 W;refine hid fun QQ hQ=>?_;obtain ⟨vs,n,tups,rfl,tr2,f1,f2,f3⟩:=j10;obtain ⟨b,hb⟩:∃ b,bs[i]? =some b:=⟨bs[i]'(by rw [← tr.1];exact hi),by simp⟩;obtain ⟨T,t1,t2,t3,nT,hv',hT⟩:=tr.2 i b hb;rw [hv] at hv';cases hv'
   have lb:=(l_i.mp hb).1;have hlen:=dueF_len (bs.take i) [];rw [yP,yA] at hlen
   have hstep:dueF (bs.take (i+1))=addDue (dueF (bs.take i)) b:=by
    unfold dueF;rw [yS,hb,List.foldl_append];rfl
   have hvl:=tr2.1;change (dueF (bs.take i)).length≤_ at hlen;generalize dueF (bs.take i)=ds at tr2 hstep hlen hvl;obtain ⟨p,q,z⟩:=b;dsimp only at hT;have W:=W.perm (news':=(ld,lob vs n)::(own₁++(tups++(bl,lob bvs bn)::btups))) List.perm_middle;kd_p;rcases hd:ds.getLast? with _|l
   · have e0:=List.getLast?_eq_none_iff.mp hd;subst e0;have ev:vs=[]:=List.eq_nil_of_length_eq_zero (by simpa using hvl);subst ev;refine o_nel0 (Wk.ls W (by wtm_at "m")) (Wk.ls W (by wtm_at "m")) ru ?_;kd_p;refine m_append (W.perm (news':=(ld,lob [] n)::(nt,tob [.int p t1,.int q t2,.int z t3] 0)::(na,lob [] 0)::(own₁++(tups++(bl,lob bvs bn)::btups))) (by wtm_at "p")) (by simp) fun h' n' W'=>?_;wtm_at "w";kd_p;refine hQ _ _ (tn_next (W.perm (by wtm_at "p")) ⟨_,n',(nt,tob [.int p t1,.int q t2,.int z t3] 0)::(na,lob [] 0)::tups,rfl,?_,by k_is,by k_is,by k_is⟩);rw [hstep];unfold addDue;rw [hd];exact TrN.snoc .nil (by wtm_at "m") rfl rfl rfl
   · obtain ⟨r,rfl⟩:=List.getLast?_eq_some_iff.mp hd;rw [zD,List.length_singleton] at hvl hlen;obtain ⟨Tl,u1,u2,u3,nl,hvx,hTl⟩:=tr2.2 r.length l (by rw [yE (yX _)];simp)
     have hrl:r.length+1≤100:=by
      have:=Nat.min_le_left i bs.length
      (revert z1 hbl lb hlen this;k_in)
     obtain ⟨a,b,c⟩:=l;dsimp only at hTl
     have hlast:∀ {h'},(∃ m news',(∀ p∈tups++(bl,lob bvs bn)::btups,p∈news')∧Wk g L' h' m news')→Tp h' Tl [.int a u1,.int b u2,.int c u3]:=by
      rintro h' ⟨m,news',hs,W⟩;exact Wk.tp W (hs _ hTl)
     refine o_nel (vs:=vs) (ws:=[]) (Wk.ls W (by wtm_at "m")) (Wk.ls W (by wtm_at "m")) ru (by simp only [yA];(revert hvl;k_in)) ?_;have hneg:vs[((-1:Int)+vs.length).toNat]? =some (.ref Tl):=by rw [show ((-1:Int)+vs.length).toNat=r.length by revert hvl;k_in];exact hvx
     kd_p
     · refine m_setneg (W.perm (news':=(ld,lob vs n)::(nt,tob [.int a u1,.int b u2,.int (c+z) _] 0)::(na,lob [] 0)::(own₁++(tups++(bl,lob bvs bn)::btups))) (by wtm_at "p")) (by k_in) (by revert hvl;k_in) (by revert hvl hrl;k_in) fun h' n' W'=>?_;wtm_at "w";kd_p;refine hQ _ _ (tn_next (W.perm (by wtm_at "p")) ⟨_,n',(nt,tob [.int a u1,.int b u2,.int (c+z) _] 0)::(na,lob [] 0)::tups,rfl,?_,by k_is,by k_is,by k_is⟩);rw [hstep];unfold addDue;rw [hd];dsimp only;rw [if_pos (by rename_i z4 z3 _ _ _;revert z4 z3;k_in)];exact TrN.last (tr2.sub (by intro p hp;simp only [List.cons_append,zL];exact .inr (.inr hp))) hd (by wtm_at "m") rfl rfl (by k_in)
     all_goals (
      refine m_append (W.perm (news':=(ld,lob vs n)::(nt,tob [.int p t1,.int q t2,.int z t3] 0)::(na,lob [] 0)::(own₁++(tups++(bl,lob bvs bn)::btups))) (by wtm_at "p")) (by revert hvl hrl;k_in) fun h' n' W'=>?_;wtm_at "w";kd_p;refine hQ _ _ (tn_next (W.perm (by wtm_at "p")) ⟨_,n',(nt,tob [.int p t1,.int q t2,.int z t3] 0)::(na,lob [] 0)::tups,rfl,?_,by k_is,by k_is,by k_is⟩);rw [hstep];unfold addDue;rw [hd];dsimp only;rw [if_neg (by lia)]
      exact TrN.snoc (tr2.sub (by intro p hp;simp only [List.cons_append,zL];exact .inr (.inr hp))) (by wtm_at "m") rfl rfl rfl)
 · clear W;rintro h' t' m' news' ⟨vs,n,tups,rfl,tr2,f1,f2,f3⟩ W;kd_p;have hlen:=dueF_len bs [];change (dueF bs).length≤_ at hlen;rw [yA] at hlen;have hvl:=tr2.1;rw [tr.1,yR] at tr2 hvl;refine o_addl W (Wk.ls (vs:=vs) W (by wtm_at "m")) (Wk.ls W (by wtm_at "m")) (by simp only [yU,yA];(revert z1 hbl hlen hvl;k_in)) fun a5 h' W' _=>?_;wtm_at "w";kd_p;refine k _ _ _ _ _ _ _ W ?_;rw [hD];exact TrN.snoc (tr2.sub (by intro p hp;simp only [zL];exact .inr (.inr (.inr hp)))) (by wtm_at "m") (by rfl) (by rfl) (by rfl)
theorem due_spec {w A L h₀ h t σ m news} {one other:zV}{xs ys:List zY}{ns ks:List Int}{odd:Int}{todd:Tok}{Q E:VP}
 (Z:Site w A L h₀) (W:Wk h₀ L h m news) (room:A.depth+104<zS) (ru:A.units+3<cLine) (h1:Ls h one xs) (h2:Ls h other ys) (i1:IntsL xs ns) (i2:IntsL ys ks) (z1:ns.length≤100) (z2:ks.length≤100)
 (k:∀ h' t' l vs n tups,Wk h₀ L h' m ((l,lob vs n)::(tups++news))→Kp h h'→TrN tups vs (dueP odd ns ks)→Q (.ref l) (S σ h' t')):
 zZ (zW PW w) A (call (.ref 303) [.ref one,.ref other,.int odd todd]) Q E (S σ h t):=
 fn_gen (mu:=[]) (rest:=news) (binds:=[(zQ "one",.ref one),(zQ "other",.ref other),(zQ "odd",.int odd todd)]) Z W (by lia) (by rfl) (by k_ne) (BindsTo.of_eq (by k_ne)) (locs (by k_ne)) (by decide) (by k_ne) (by k_ne) (by k_ne) fun L' h₁ t₁ Z' W'=>
  due_body (one:=one) (other:=other) (odd:=odd) (todd:=todd) (xs:=xs) (ys:=ys) Z' W' (by show A.depth+1+103<_;lia) (by show A.units+3<_;exact ru) h1 h2 i1 i2 z1 z2 (by k_ne) (by k_ne) (by k_ne) fun h' t' m' l vs n tups W₂ tr=>⟨h',t',_,_,rfl,W₂,fun W₃=>k h' t' l vs n tups W₃ W₂.kp tr⟩
theorem t_listE {w:zT}{A:zU}{E:VP}{σ:zX}{h:Heap}{t:Nat}{value slice:Expr}{l:zV}{vs:List zY}{i:Int}{u:Tok}{Q:VP}(P:Heap→zY→Prop) (hl:Ls h l vs) (h0:0≤i) (h1:i<1000) (hx:∃ v,vs[i.toNat]? =some v∧P h v) (k:∀ v,P h v→Q v (S σ h t))
 (hs:subscripted slice false (.ref l) (.int i u)=operate [.ref l,.int i u] (getItem (.ref l) (.int i u))):zZ (zW PW w) A (subscriptTail value slice (.ref l) (.int i u)) Q E (S σ h t):=
 let ⟨v,hv,hp⟩:=hx;t_list hl h0 h1 hv (k v hp) hs
inductive AllAt {α:Type}(P:Nat→α→Prop):Nat→List α→Prop
 |nil {i}:AllAt P i []
 |cons {i a l}:P i a→AllAt P (i+1) l→AllAt P i (a::l)
theorem AllAt.at {α:Type}{P:Nat→α→Prop}{l:List α}{i:Nat}(h:AllAt P i l):∀ n,n<l.length→∃ v,l[n]? =some v∧P (i+n) v:=by
 induction h with
 |nil=>exact fun n h=>absurd h (Nat.not_lt_zero n)
 |@cons i a l p _ ih=>
  intro n h;cases n with
  |zero=>exact ⟨_,rfl,p⟩
  |succ n=>
   obtain ⟨v,e,q⟩:=ih n (Nat.lt_of_succ_lt_succ h);exact ⟨v,e,(Nat.add_right_comm i 1 n) ▸ q⟩
theorem AllAt.fin {α:Type}{P:Nat→α→Prop}{l:List α}{n:Nat}(hs:AllAt P 0 l) (hn:n<l.length):∃ v,l[n]? =some v∧P n v:=by
 have:=hs.at n hn;rw [Nat.zero_add] at this;exact this
theorem kind_body {w A L' g h t σ} {n:Nat}{ai kz:Int}{tk:Tok}{f:zV}{m} {Q:FP}{E:VP}
 (Z:Site w A L' g) (W:Wk g L' h m []) (hk:n<16) (e1:m (zQ "k")=some (.int ai tk)) (q1:ai=n) (q2:kz=kindN n)
 (k:∀ h' t' m' u,Wk g L' h' m' []→Q (.ret (.int kz u)) (S σ h' t')):
 zZ (zW PW w) A (execs (dB (st PW 11)) (envX n146 (dS (st PW 11)) L' f (.ref 274) [])) Q E (S σ h t):=by
 with_unfolding_all refine x_cons ?_
 kd_p;refine t_listE (fun _ v=>∃ u,v= .int kz u) (Wk.ls W (by wtm_at "m")) (by revert q1;k_in) (by revert hk q1;k_in) ?_ ?_ (by wtm_at "u")
 · rw [show ai.toNat=n by revert q1;k_in,q2];clear W k;refine AllAt.fin (P:=fun (j:Nat) (v:zY)=>∃ u,v=Value.int ((kindN j:Nat):Int) u) (.cons ?_ (.cons ?_ (.cons ?_ (.cons ?_ (.cons ?_ (.cons ?_ (.cons ?_ (.cons ?_ (.cons ?_ (.cons ?_ (.cons ?_ (.cons ?_ (.cons ?_ (.cons ?_ (.cons ?_ (.cons ?_ (.nil))))))))))))))))) hk;all_goals exact ⟨_,rfl⟩
 · rintro _ ⟨u,rfl⟩;kd_p;exact k _ _ _ _ W.nil
theorem kind_spec {w A L h₀ h t σ m news} {n:Nat}{ai kz:Int}{tk:Tok}{Q E:VP}
 (Z:Site w A L h₀) (W:Wk h₀ L h m news) (room:A.depth<zS) (hk:n<16) (q1:ai=n) (q2:kz=kindN n)
 (k:∀ h' t' u,Wk h₀ L h' m news→Kp h h'→Q (.int kz u) (S σ h' t')):
 zZ (zW PW w) A (call (.ref 275) [.int ai tk]) Q E (S σ h t):=
 fn_gen (mu:=[]) (rest:=news) (binds:=[(zQ "k",.int ai tk)]) Z W room (by rfl) (by k_ne) (BindsTo.of_eq (by k_ne)) (locs (by k_ne)) (by decide) (by k_ne) (by k_ne) (by k_ne) fun L' h₁ t₁ Z' W'=>
by
 with_reducible refine kind_body (n:=n) (ai:=ai) (kz:=kz) (tk:=tk) Z' W' hk ?_ q1 q2 ?_
 · kernel_rfl!
 · exact fun h' t' m' u W₂=>⟨h',t',_,_,rfl,W₂,fun W₃=>k h' t' u W₃ W₂.kp⟩
section
section
variable {w:zT}{A:zU}{E:VP}{σ:zX}{h₀ h:Heap}{t:Nat}{L:zV}{m:NM}{news:Led}{env:Env}
theorem e_dict0 {M:Model}{pos} {Q:VP}(W:Wk h₀ L h m news) (k:∀ a h',Wk h₀ L h' m ((a,{ cls:=.type "dict",data:=.dict #[] })::news)→Kp h h'→a=h.objs.size→Q (.ref a) (S σ h' t)):
 zZ M A (eval (.Dict [] [] pos) env) Q E (S σ h t):=wpAny_Dict_empty (k _ _ (W.new _ rfl) (Kp.push _ _) rfl)
theorem e_dict1 {x:Str}{i:Int}{k1 k2 p1 p2 pos} {Q:VP}(W:Wk h₀ L h m news)
 (k:∀ a o h' t' u,(∀ h'':Heap,h''.get? a=some o→h''.DictOf (strKind PW w) a [(x,.int i u)])→Wk h₀ L h' m ((a,o)::news)→Kp h h'→a=h.objs.size→Q (.ref a) (S σ h' t')):
 zZ (zW PW w) A (eval (.Dict [some (.Constant (.str x) k1 p1)] [.Constant (.int i) k2 p2] pos) env) Q E (S σ h t):=by
 refine wpAny_Dict_walk (knd:=strKind PW w) (by rfl) (by rfl) (by simp) (by show 1≤15;k_in) ?_;refine pairTrees_cons_walk (wpAny_Constant_str (wpAny_Constant_int (pairTrees_nil_walk ?_)));refine ⟨[(x,_)],⟨by rw [strKind_is],rfl,trivial⟩,Heap.DictOf.new _,fun h' hd hs=>?_⟩;obtain ⟨o,es,ep,ho,r⟩:=hd;exact k _ o h' _ _ (fun h'' e=>⟨o,es,ep,e,r⟩) ((W.new { cls:=.type "dict",data:=.dict #[] } rfl).upd hs ho) (fun b ob e=>(hs.2 b (Nat.ne_of_lt (zB e))).trans (Heap.get?_push_of_some _ e)) rfl
end
end
theorem Wk.named {h₀ L h m news} (W:Wk h₀ L h m news):∃ own,own=news∧Wk h₀ L h m own:=⟨_,rfl,W⟩
theorem thing_body {w A L' g h t σ} {n:Nat}{ai:Int}{tk:Tok}{f:zV}{m} {Q:FP}{E:VP}
 (Z:Site w A L' g) (W:Wk g L' h m []) (ht:0<t) (hk:n<16) (e1:m (zQ "k")=some (.int ai tk)) (q1:ai=n)
 (k:∀ h' t' m' v own,Wk g L' h' m' own→(∀ H:Heap,(∀ p∈own,H.get? p.1=some p.2)→El w H v n)→Q (.ret v) (S σ h' t')):
 zZ (zW PW w) A (execs (dB (st PW 10)) (envX n145 (dS (st PW 10)) L' f (.ref 267) [])) Q E (S σ h t):=by
 with_unfolding_all refine x_cons ?_
 k_go;k_go;k_go;k_go;with_reducible refine r_int_p ht fun tk0 t1 ht=>?_
 k_go;with_reducible refine r_bool ?_
 k_go;with_reducible refine r_int_p ht fun tk2 t1 ht=>?_
 k_go;with_reducible refine r_bool ?_
 k_go;with_reducible refine r_str_p ht fun tk4 t1 ht4=>?_
 kd_p;have n1:=W.ne1 Z;with_reducible refine e_dict1 W fun d1 o1 h' t' u1 hD1 W' _ ed1=>?_
 wtm_at "w";kd_p;have n2:=W.ne1 Z;with_reducible refine e_dict0 W fun d2 h' W' _ ed2=>?_
 wtm_at "w";kd_p;obtain ⟨own,hown,Wn⟩:=W.named;refine t_listE (fun _ v=>∀ H:Heap,(∀ p∈own,H.get? p.1=some p.2)→El w H v n) (Wk.ls W (by wtm_at "m")) (by revert q1;k_in) (by revert hk q1;k_in) ?_ ?_ (by wtm_at "u")
 · rw [show ai.toNat=n by revert q1;k_in]
   have pl:∀ {j:Nat}{v:zY}{H:Heap},j≠12→j≠15→j<16→(∃ as,Reads H v (datK j) as)→(j<10→Well w.params H v (wdatK j))→(∀ x t,v= .str x t→j=4→t≠0)→El w H v j:=by
    intro j v H a b c d e f;unfold El;rw [if_neg a,if_neg b];exact ⟨c,d,e,f⟩
   refine AllAt.fin (P:=fun j v=>∀ H:Heap,(∀ p∈own,H.get? p.1=some p.2)→El w H v j) (AllAt.cons ?_ (AllAt.cons ?_ (AllAt.cons ?_ (AllAt.cons ?_ (AllAt.cons ?_ (AllAt.cons ?_ (AllAt.cons ?_ (AllAt.cons ?_ (AllAt.cons ?_ (AllAt.cons ?_ (AllAt.cons ?_ (AllAt.cons ?_ (AllAt.cons ?_ (AllAt.cons ?_ (AllAt.cons ?_ (AllAt.cons ?_ (.nil))))))))))))))))) hk
   · exact fun H' hH=>(fun (gt:∀ {a:zV}{o:Obj},(a,o)∈own→H'.get? a=some o)=>pl (by decide) (by decide) (by decide) ⟨_,.int _ _⟩ (fun _=>.int _ _) (by rintro _ _ e;cases e)) (fun hm=>hH _ hm)
   · exact fun H' hH=>(fun (gt:∀ {a:zV}{o:Obj},(a,o)∈own→H'.get? a=some o)=>pl (by decide) (by decide) (by decide) ⟨_,.bool _⟩ (fun _=>.bool _) (by rintro _ _ e;cases e)) (fun hm=>hH _ hm)
   · exact fun H' hH=>(fun (gt:∀ {a:zV}{o:Obj},(a,o)∈own→H'.get? a=some o)=>pl (by decide) (by decide) (by decide) ⟨_,.int _ _⟩ (fun _=>.int _ _) (by rintro _ _ e;cases e)) (fun hm=>hH _ hm)
   · exact fun H' hH=>(fun (gt:∀ {a:zV}{o:Obj},(a,o)∈own→H'.get? a=some o)=>pl (by decide) (by decide) (by decide) ⟨_,.bool _⟩ (fun _=>.bool _) (by rintro _ _ e;cases e)) (fun hm=>hH _ hm)
   · exact fun H' hH=>(fun (gt:∀ {a:zV}{o:Obj},(a,o)∈own→H'.get? a=some o)=>pl (by decide) (by decide) (by decide) ⟨_,.str _ _⟩ (fun _=>.str _ _) (by rintro _ _ e _;cases e;exact ht4)) (fun hm=>hH _ hm)
   · exact fun H' hH=>(fun (gt:∀ {a:zV}{o:Obj},(a,o)∈own→H'.get? a=some o)=>pl (by decide) (by decide) (by decide) ⟨_,.none⟩ (fun _=>.none) (by rintro _ _ e;cases e)) (fun hm=>hH _ hm)
   · exact fun H' hH=>(fun (gt:∀ {a:zV}{o:Obj},(a,o)∈own→H'.get? a=some o)=>pl (by decide) (by decide) (by decide) ⟨_,.tuple (gt (by rw [hown];wtm_at "m")) rfl rfl (.cons (.int _ _) .nil)⟩ (fun _=>.tuple (gt (by rw [hown];wtm_at "m")) (.cons (.int _ _) .nil)) (by rintro _ _ e;cases e)) (fun hm=>hH _ hm)
   · exact fun H' hH=>(fun (gt:∀ {a:zV}{o:Obj},(a,o)∈own→H'.get? a=some o)=>pl (by decide) (by decide) (by decide) ⟨_,.tuple (gt (by rw [hown];wtm_at "m")) rfl rfl (.cons (.bool _) .nil)⟩ (fun _=>.tuple (gt (by rw [hown];wtm_at "m")) (.cons (.bool _) .nil)) (by rintro _ _ e;cases e)) (fun hm=>hH _ hm)
   · exact fun H' hH=>(fun (gt:∀ {a:zV}{o:Obj},(a,o)∈own→H'.get? a=some o)=>pl (by decide) (by decide) (by decide) ⟨_,.str _ _⟩ (fun _=>.str _ _) (by rintro _ _ _ h;exact absurd h (by decide))) (fun hm=>hH _ hm)
   · exact fun H' hH=>(fun (gt:∀ {a:zV}{o:Obj},(a,o)∈own→H'.get? a=some o)=>pl (by decide) (by decide) (by decide) ⟨_,.int _ _⟩ (fun _=>.int _ _) (by rintro _ _ e;cases e)) (fun hm=>hH _ hm)
   · exact fun H' hH=>(fun (gt:∀ {a:zV}{o:Obj},(a,o)∈own→H'.get? a=some o)=>pl (by decide) (by decide) (by decide) ⟨_,.list (gt (by rw [hown];wtm_at "m")) rfl rfl (.cons (.int _ _) .nil)⟩ (fun h=>absurd h (by decide)) (by rintro _ _ e;cases e)) (fun hm=>hH _ hm)
   · exact fun H' hH=>(fun (gt:∀ {a:zV}{o:Obj},(a,o)∈own→H'.get? a=some o)=>pl (by decide) (by decide) (by decide) ⟨_,.list (gt (by rw [hown];wtm_at "m")) rfl rfl (.cons (.bool _) .nil)⟩ (fun h=>absurd h (by decide)) (by rintro _ _ e;cases e)) (fun hm=>hH _ hm)
   · exact fun H' hH=>by
      have gt:∀ {a:zV}{o:Obj},(a,o)∈own→H'.get? a=some o:=fun hm=>hH _ hm
      unfold El;rw [if_pos rfl];exact ⟨_,_,rfl,by rw [ed1];exact n1,hD1 _ (gt (by rw [hown];wtm_at "m"))⟩
   · exact fun H' hH=>(fun (gt:∀ {a:zV}{o:Obj},(a,o)∈own→H'.get? a=some o)=>pl (by decide) (by decide) (by decide) ⟨_,.tuple (gt (by rw [hown];wtm_at "m")) rfl rfl (.cons (.list (gt (by rw [hown];wtm_at "m")) rfl rfl .nil) .nil)⟩ (fun h=>absurd h (by decide)) (by rintro _ _ e;cases e)) (fun hm=>hH _ hm)
   · exact fun H' hH=>(fun (gt:∀ {a:zV}{o:Obj},(a,o)∈own→H'.get? a=some o)=>pl (by decide) (by decide) (by decide) ⟨_,.list (gt (by rw [hown];wtm_at "m")) rfl rfl .nil⟩ (fun h=>absurd h (by decide)) (by rintro _ _ e;cases e)) (fun hm=>hH _ hm)
   · exact fun H' hH=>by
      have gt:∀ {a:zV}{o:Obj},(a,o)∈own→H'.get? a=some o:=fun hm=>hH _ hm
      unfold El;rw [if_neg (by decide),if_pos rfl];exact ⟨_,rfl,by rw [ed2];exact n2,⟨_,_,_,gt (by rw [hown];wtm_at "m"),⟨rfl,rfl,rfl⟩,rfl,fun e he=>by simp at he,.nil,List.nodup_nil⟩⟩
 · intro v hv;kd_p;subst hown;exact k _ _ _ _ _ W hv
theorem thing_spec {w A L h₀ h t σ m news} {n:Nat}{ai:Int}{tk:Tok}{Q E:VP}
 (Z:Site w A L h₀) (W:Wk h₀ L h m news) (room:A.depth<zS) (hk:n<16) (q1:ai=n)
 (k:∀ h' t' v own,Wk h₀ L h' m (own++news)→(∀ H:Heap,(∀ p∈own,H.get? p.1=some p.2)→El w H v n)→Q v (S σ h' t')):
 zZ (zW PW w) A (call (.ref 268) [.int ai tk]) Q E (S σ h t):=
 fn_gen2 (mu:=[]) (rest:=news) (binds:=[(zQ "k",.int ai tk)]) Z W room (by rfl) (by k_ne) (BindsTo.of_eq (by k_ne)) (locs (by k_ne)) (by decide) (by k_ne) (by k_ne) (by k_ne) fun L' h₁ t₁ et Z' W'=>
by
 with_reducible refine thing_body (n:=n) (ai:=ai) (tk:=tk) Z' W' ?_ hk ?_ q1 ?_
 · rw [et];exact Nat.succ_pos _
 · kernel_rfl!
 · exact fun h' t' m' v own W₂ hv=>⟨h',t',_,_,rfl,W₂,fun W₃=>k h' t' v own W₃ hv⟩
theorem noted_body {w A L' g h t σ} {asked:zV}{vs:List zY}{n0:Nat}{v:zY}{c odd:Int}{tc todd:Tok}{f:zV}{m} {Q:FP}{E:VP}
 (Z:Site w A L' g) (W:Wk g L' h m [(asked,lob vs n0)]) (hz:vs.length≤1000) (e1:m (zQ "asked")=some (.ref asked)) (e2:m (zQ "thing")=some v) (e3:m (zQ "number")=some (.int c tc)) (e4:m (zQ "odd")=some (.int odd todd))
 (k:∀ h' t' m' n',Wk g L' h' m' [(asked,lob (vs++[v]) n')]→Q (.ret (.bool (decide (c=odd)))) (S σ h' t')):
 zZ (zW PW w) A (execs (dB (st PW 16)) (envX n151 (dS (st PW 16)) L' f (.ref 309) [])) Q E (S σ h t):=by
 with_unfolding_all refine x_cons ?_
 kd_p;refine m_append W hz fun h' n' W'=>?_;wtm_at "w";kd_p;exact k _ _ _ _ W
theorem noted_spec {w A L h₀ h t σ m rest} {asked:zV}{vs:List zY}{n0:Nat}{v:zY}{c odd:Int}{tc todd:Tok}{Q E:VP}
 (Z:Site w A L h₀) (W:Wk h₀ L h m ((asked,lob vs n0)::rest)) (room:A.depth<zS) (hz:vs.length≤1000)
 (k:∀ h' t' n',Wk h₀ L h' m ((asked,lob (vs++[v]) n')::rest)→Kp (gnd h [(asked,lob vs n0)]) h'→Q (.bool (decide (c=odd))) (S σ h' t')):
 zZ (zW PW w) A (call (.ref 310) [.ref asked,v,.int c tc,.int odd todd]) Q E (S σ h t):=
 fn_gen (mu:=[(asked,lob vs n0)]) (rest:=rest) (binds:=[(zQ "asked",.ref asked),(zQ "thing",v),(zQ "number",.int c tc),(zQ "odd",.int odd todd)]) Z W room (by rfl) (by k_ne) (BindsTo.of_eq (by k_ne)) (locs (by k_ne)) (by decide) (by k_ne) (by k_ne) (by k_ne) fun L' h₁ t₁ Z' W'=>
  noted_body (asked:=asked) (vs:=vs) (v:=v) (c:=c) (odd:=odd) (tc:=tc) (todd:=todd) Z' W' hz (by k_ne) (by k_ne) (by k_ne) (by k_ne) fun h' t' m' n' W₂=>⟨h',t',_,_,rfl,W₂,fun W₃=>k h' t' n' W₃ W₂.kp⟩
abbrev El2:=zY×Int
def AsK {w:zT}(K:Kd w) (h:Heap) (xs:List El2):Prop:=∀ x∈xs,K.is h x.1 x.2
theorem AsK.kp {w:zT}{K:Kd w}{h h':Heap}{xs} (x:AsK K h xs) (k:Kp h h'):AsK K h' xs:=fun y hy=>K.keeps (x y hy) k
noncomputable def addFirst (acc:List El2) (x:El2):List El2:=if acc.any (fun y=>decide (y.2=x.2)) then acc else acc++[x]
noncomputable def firsts (xs:List El2):List El2:=xs.foldl addFirst []
theorem addFirst_sub {acc:List El2}{x y:El2}(h:y∈addFirst acc x):y∈acc∨y=x:=by
 unfold addFirst at h;split at h
 · exact .inl h
 · simpa using h
theorem firsts_sub:∀ (xs acc:List El2) {y:El2},y∈xs.foldl addFirst acc→y∈acc∨y∈xs
 |[],acc,y,h=>.inl h
 |x::xs,acc,y,h=>by
  rcases firsts_sub xs (addFirst acc x) h with h|h
  · rcases addFirst_sub h with h|h
    · exact .inl h
    · exact .inr (by simp [h])
  · exact .inr (.tail _ h)
theorem addFirst_len (acc x):(addFirst acc x).length≤acc.length+1:=by unfold addFirst;split <;> simp
theorem firsts_len:∀ (xs acc:List El2),(xs.foldl addFirst acc).length≤acc.length+xs.length
 |[],acc=>by simp
 |x::xs,acc=>by
  have:=firsts_len xs (addFirst acc x);have:=addFirst_len acc x;simp only [xZ,yU]
  (rename_i z0;revert z0 this;k_in)
theorem any_range {acc:List El2}{c:Int}:(xY (acc.map (·.1)).length).any (fun j=>decide ((acc[j]?.map (·.2))=some c))=acc.any (fun y=>decide (y.2=c)):=by
 rw [Bool.eq_iff_iff,List.any_eq_true,List.any_eq_true];constructor
 · rintro ⟨j,hj,e⟩;have e:=of_decide_eq_true e;cases h:acc[j]? with
   |none=>rw [h] at e;cases e
   |some y=>rw [h] at e;exact ⟨y,l_m h,by simpa using e⟩
 · rintro ⟨y,hy,e⟩;obtain ⟨j,hj⟩:=yB.mp hy;have:=(l_i.mp hj).1;exact ⟨j,by simpa using this,by rw [hj];simpa using e⟩
theorem dedupu_body {w A L' g h t σ} {K:Kd w}{src:zV}{xs:List El2}{f:zV}{m} {Q:FP}{E:VP}
 (Z:Site w A L' g) (W:Wk g L' h m []) (ru:A.units+80<cLine) (hz:xs.length≤100) (hl:Ls g src (xs.map (·.1))) (hx:AsK K g xs) (e1:m (zQ "unhashable_params")=some (.ref src))
 (k:∀ h' t' m' l n own,Wk g L' h' m' ((l,lob ((firsts xs).map (·.1)) n)::own)→Q (.ret (.ref l)) (S σ h' t')):
 zZ (zW PW w) A (execs (dB (st PW 3)) (envX n15 (dS (st PW 3)) L' f (.ref 35) [])) Q E (S σ h t):=by
 with_unfolding_all refine x_cons ?_
 kd_p;with_reducible rename zV=>ld
 refine x_for ?_ (by intro _;rfl);kd_p
 refine for_list (vs:=xs.map (·.1)) (fun i m' news'=>∃ n,news'=[(ld,lob ((firsts (xs.take i)).map (·.1)) n)]∧m' (zQ "new_unhashable")=some (.ref ld)) W Z.hh (by wtm_at "s") (fun _ _ _ _ _ _ W=>hl.kp W.kp) (by intro _ _;rfl)
  ⟨_,rfl,by k_is⟩ ?_ ?_
 · clear W;intro i v m₁ news₁ own₁ h₁ t₁ E' hi hv j10 W;refine hid fun QQ hQ=>?_;obtain ⟨n,rfl,f1⟩:=j10;have hi':i<xs.length:=by simpa using hi
   obtain ⟨x,hxi⟩:∃ x,xs[i]? =some x:=⟨xs[i],by simp [hi']⟩;have hvx:v=x.1:=by rw [zF,hxi] at hv;simpa using hv.symm
   have hstep:firsts (xs.take (i+1))=addFirst (firsts (xs.take i)) x:=by
    unfold firsts;rw [yS,hxi,List.foldl_append];rfl
   have hsub:AsK K g (firsts (xs.take i)):=fun y hy=>hx y (by
    rcases firsts_sub _ _ hy with h|h
    · cases h
    · exact List.mem_of_mem_take h)
   have hlen:=firsts_len (xs.take i) [];change (firsts (xs.take i)).length≤_ at hlen;rw [yP,yA] at hlen;generalize firsts (xs.take i)=acc at hsub hstep W hlen;subst hvx;kd_p;refine o_notin (fun j=>decide ((acc[j]?.map (·.2))=some x.2)) (Wk.ls (vs:=acc.map (·.1)) W (by wtm_at "m")) (fun j hj=>?_) ?_
   · have hj':j<acc.length:=by simpa using hj
     simp only [List.getElem_map,l_e hj',Option.map_some,Option.some.injEq];exact K.eqv (K.keeps (hsub acc[j] (List.getElem_mem hj')) W.kp) (K.keeps (hx x (l_m hxi)) W.kp) (by rw [yN];lia)
   · rw [any_range];have hmin:=Nat.min_le_left i xs.length;unfold addFirst at hstep;cases hany:acc.any (fun y=>decide (y.2=x.2))
     · rw [hany] at hstep;rw [Bool.not_false];kd_p;refine m_append (W.perm (news':=(ld,lob (acc.map (·.1)) n)::own₁) (by wtm_at "p")) (by rw [zO];(revert hz hi' hlen hmin;k_in)) fun h' n' W'=>?_;wtm_at "w";kd_p;refine hQ _ _ (tn_next (news:=[(ld,lob (acc.map (·.1)++[x.1]) n')]) (W.perm (by wtm_at "p")) ⟨n',?_,by k_is⟩);rw [hstep];simp
     · rw [hany] at hstep;rw [Bool.not_true];kd_p;refine hQ _ _ (tn_next W ⟨n,?_,by k_is⟩);rw [hstep];simp
 · clear W;rintro h' t' m' news' ⟨n,rfl,f1⟩ W;kd_p;rw [zO,yR] at W;exact k _ _ _ _ _ _ W
theorem dedupu_spec {w A L h₀ h t σ m news} {K:Kd w}{src:zV}{xs:List El2}{Q E:VP}
 (Z:Site w A L h₀) (W:Wk h₀ L h m news) (room:A.depth<zS) (ru:A.units+90<cLine) (hz:xs.length≤100) (hl:Ls h src (xs.map (·.1))) (hx:AsK K h xs)
 (k:∀ h' t' l n own,Wk h₀ L h' m ((l,lob ((firsts xs).map (·.1)) n)::(own++news))→Kp h h'→Q (.ref l) (S σ h' t')):
 zZ (zW PW w) A (call (.ref 36) [.ref src]) Q E (S σ h t):=
 fn_gen (mu:=[]) (rest:=news) (binds:=[(zQ "unhashable_params",.ref src)]) Z W room (by rfl) (by k_ne) (BindsTo.of_eq (by k_ne)) (locs (by k_ne)) (by decide) (by k_ne) (by k_ne) (by k_ne) fun L' h₁ t₁ Z' W'=>
  dedupu_body (K:=K) (src:=src) (xs:=xs) Z' W' (by show A.units+3+80<_;lia) hz hl hx (by k_ne) fun h' t' m' l n own W₂=>⟨h',t',_,_,rfl,W₂,fun W₃=>k h' t' l n own W₃ W₂.kp⟩
section
inductive Md
 |new
 |fly
 |held (L:zV)
def Tr (B:Heap) (e:zV) (a0:zY):Md→Heap→Prop
 | .new,h=>∃ oe vs,h.get? e=some oe∧oe.cls= .type "TypeError"∧oe.data= .fields vs∧vs[1]? =some .none∧vs[0]? =some a0
 | .fly,h=>h.TracedW B e (.type "TypeError") a0
 | .held L,h=>h.TracedAtW B e (.type "TypeError") a0 (rawInt L)
def Fl (A:zU) (g:Heap) (mu:Led) (e:zV) (d:Md) (h:Heap):Prop:=
 ∃ l B a0,A.frames=some l∧(∀ b o,g.get? b=some o→b∉l.filterMap (·.frame)→B.get? b=some o)∧(∀ q∈mu,B.get? q.1=some q.2∧g.get? q.1=none)∧
  g.UpToSlots h∧B.StaysIn h∧B.get? e=none∧h.FunFrames B l∧Tr B e a0 d h
theorem Fl.sub {A g mu mu' e d h} (x:Fl A g mu e d h) (s:∀ q∈mu',q∈mu):Fl A g mu' e d h:=by
 obtain ⟨l,B,a0,x1,x2,x3,r⟩:=x;exact ⟨l,B,a0,x1,x2,fun q hq=>x3 q (s q hq),r⟩
def okd (L:zV):Md→Prop
 | .held L'=>L'=L
 |_=>True
def Xp (A:zU) (h₀:Heap) (L:zV) (σ:zX) (keep:Led) (P:Prop):VP:=fun v s'=>∃ e d h t,v= .ref e∧s'=S σ h t∧okd L d∧Fl A h₀ keep e d h∧P
section
variable {w:zT}{A:zU}{σ:zX}{h₀ h:Heap}{t:Nat}{L:zV}{m:NM}{news mu rest mu':Led}{e:zV}{d:Md}
theorem fl_new {h':Heap}(Z:Site w A L h₀) (W:Wk h₀ L h m news) (hx:Heap.NewExc h h' e "TypeError"):Fl A h₀ news e .new h'∧h'.Ns L m:=by
 obtain ⟨⟨A₀,base,outer,env,K,hA,hf,hke⟩,X,-,hh⟩:=Z;have F:=W.fr;have N:=W.nw;have K':=pushX K F hf hke;have hin:∀ en∈(env::outer),∀ b,en.frame=some b→b∈(env::outer).filterMap (·.frame):=fun en he b hb=>List.mem_filterMap.mpr ⟨en,he,hb⟩
 have mem:∀ b∈(env::outer).filterMap (·.frame),b=L∨b∈outer.filterMap (·.frame):=fun b hm=>by
  obtain ⟨en,he,hf'⟩:=List.mem_filterMap.mp hm;rcases zL.mp he with rfl|he
  · rw [hf] at hf';exact .inl (l_j hf').symm
  · exact .inr (List.mem_filterMap.mpr ⟨en,he,hf'⟩)
 have hl:∀ q∈news,(hideAll h ((env::outer).filterMap (·.frame))).get? q.1=some q.2∧h₀.get? q.1=none:=fun q hq=>by
  refine ⟨hideAll_get _ (N q hq).1 fun hm=>?_,(N q hq).2.2⟩;rcases mem _ hm with z|z
  · exact (N q hq).2.1 z
  · obtain ⟨o,ho,_⟩:=(K.frames.mem z).2;rw [(N q hq).2.2] at ho;cases ho
 obtain ⟨ob,tp,he,hcls,hd⟩:=hx.there
 have hen:(hideAll h ((env::outer).filterMap (·.frame))).get? e=none:=by
  cases q:(hideAll h ((env::outer).filterMap (·.frame))).get? e with
  |none=>rfl
  |some o=>have:=of_hideAll _ q;rw [hx.new] at this;cases this
 refine ⟨⟨env::outer,hideAll h ((env::outer).filterMap (·.frame)),tp,hA,fun b o q nm=>hideAll_get _ (F.keep b o q) nm,hl,?_,fun b o q=>hx.keeps _ _ (of_hideAll _ q),hen,?_,ob,_,he,hcls,hd,rfl,rfl⟩,?_⟩
 · exact (Heap.UpToSlots.of_keeps F.keep).trans (Heap.UpToSlots.of_keeps hx.keeps)
 · exact (funFrames_hide K'.frames hin).of_keeps fun b o hb _=>⟨o,hx.keeps b o hb,rfl⟩
 · obtain ⟨oL,es,ep,hL,r⟩:=F.ns;exact ⟨oL,es,ep,hx.keeps _ _ hL,r⟩
theorem fl_up {h':Heap}(Z:Site w A L h₀) (W:Wk h₀ L h m (mu++rest)) (x:Fl A (gnd h mu) mu' e d h'):Fl A h₀ (mu'++rest) e d h'∧h'.Ns L m:=by
 obtain ⟨⟨A₀,base,outer,env,K,hA,hf,hke⟩,X,-,hh⟩:=Z;obtain ⟨l,B,a0,x1,x2,x3,x4,x5,x6,x7,x8⟩:=x;have el:l=env::outer:=by rw [hA] at x1;exact (l_j x1).symm
 subst el
 have nm:∀ b o,h₀.get? b=some o→b∉mu.map (·.1):=fun b o e q=>by
  obtain ⟨p,hp,rfl⟩:=zN.mp q;have:=(W.nw p (l_l _ hp)).2.2;rw [this] at e;cases e
 have up:∀ b o,h₀.get? b=some o→(gnd h mu).get? b=some o:=fun b o e=>gnd_get (W.fr.keep _ _ e) (nm b o e)
 obtain ⟨oL,es,ep,hL,hLd,hLk,hLf⟩:=W.fr.ns
 have nL:L∉mu.map (·.1):=fun q=>by
  obtain ⟨p,hp,e⟩:=zN.mp q;exact (W.nw p (l_l _ hp)).2.1 e
 have hLg:=gnd_get hL nL;refine ⟨⟨_,B,a0,hA,fun b o e n=>x2 b o (up b o e) n,fun q hq=>?_,(Heap.UpToSlots.of_keeps up).trans x4,x5,x6,x7,x8⟩,?_⟩
 · rcases zE.mp hq with hq|hq
   · refine ⟨(x3 q hq).1,?_⟩;cases z:h₀.get? q.1 with
     |none=>rfl
     |some o=>have:=up _ _ z;rw [(x3 q hq).2] at this;cases this
   · have y:=W.nw q (l_r _ hq);refine ⟨x2 _ _ (gnd_get y.1 fun z=>?_) fun z=>?_,y.2.2⟩
     · obtain ⟨p,hp,e⟩:=zN.mp z;exact W.apart hp hq e
     · obtain ⟨en,he,hf'⟩:=List.mem_filterMap.mp z;rcases zL.mp he with rfl|he
       · rw [hf] at hf';exact y.2.1 (l_j hf').symm
       · obtain ⟨o,ho,_⟩:=(K.frames.mem (List.mem_filterMap.mpr ⟨en,he,hf'⟩)).2;rw [y.2.2] at ho;cases ho
 · exact x4.ns ⟨oL,es,ep,hLg,hLd,hLk,hLf⟩
theorem fl_leave {M:Model}{E:VP}{g:Heap}{l:List Env}{env:Env}{Q:UP}(hA:A.frames=some l) (hf:env.frame=some L) (nL:g.get? L=none) (x:Fl (A.deeper env) g mu e d h) (hd:okd L d)
 (k:∀ h',Fl A g mu e .fly h'→Q () (S σ h' t)):zZ M (A.deeper env) (leaving env (.ref e)) Q E (S σ h t):=by
 obtain ⟨l',B,a0,x1,x2,x3,x4,x5,x6,x7,x8⟩:=x;have el:l'=env::l:=by rw [yM hA] at x1;exact (l_j x1).symm
 subst el
 have fin:∀ h',h.UpToSlots h'→Heap.FlyingW B l e (.type "TypeError") a0 h'→Q () (S σ h' t):=fun h' u y=>
  k h' ⟨l,B,a0,hA,fun b o q nm=>x2 b o q fun z=>by
   obtain ⟨en,he,hf'⟩:=List.mem_filterMap.mp z;rcases zL.mp he with rfl|he
   · rw [hf] at hf';obtain rfl:=l_j hf';rw [nL] at q;cases q
   · exact nm (List.mem_filterMap.mpr ⟨en,he,hf'⟩),x3,x4.trans u,y.1,y.2.1,y.2.2.1,y.2.2.2⟩
 cases d with
 |new=>
  obtain ⟨oe,vs,h1,h2,h3,h4,h5⟩:=x8;refine wpAny_leaving_firstW (s:=S σ h t) (a0:=a0) (yM hA) x7 hf h1 x5 x6 h3 h4 h5 fun h' hL=>?_;obtain ⟨k1,⟨_,_,k2⟩,k3,k4⟩:=hL;exact fin h' k4 ⟨k1,x6,k2,by rw [← h2];exact k3⟩
 |fly=>exact wpAny_leaves_onW (s:=S σ h t) (yM hA) hf ⟨x5,x6,x7,x8⟩ fun h' y u=>fin h' u y
 |held L'=>
  obtain rfl:L'=L:=hd;unfold leaving;refine w_b (wpAny_noteFrame_againW (s:=S σ h t) hf x8 ?_);refine wpAny_landsW (s:=S σ h t) (⟨x5,x6,x7,x8⟩:Heap.HeldW B (env::l) e (.type "TypeError") a0 L' h) fun h' hfl u=>?_;obtain ⟨k1,k2,⟨_,_,k3⟩,k4⟩:=hfl;exact fin h' u ⟨k1,k2,k3,k4⟩
end
theorem gnd_new {h:Heap}{mu:Led}:(gnd h mu).get? h.objs.size=none:=by
 cases q:(gnd h mu).get? h.objs.size with
 |none=>rfl
 |some o=>exact absurd (zB (of_hideAll _ q)) (yY _)
def SB (w:zT) (A:zU) (L:zV) (g:Heap):Prop:=
 ∃ A₀ base outer env,Below A₀ base outer g∧A.frames=some (env::outer)∧env.frame=some L∧(KF PW w.params).In base∧∃ pT lT mean mg mb,Top pT lT mean mg mb base
def Frm (A:zU) (env:Env):Prop:=∃ l,A.frames=some (env::l)
section
variable {w:zT}{A:zU}{E:VP}{σ:zX}{h₀ h:Heap}{t:Nat}{L:zV}{m:NM}{mu rest:Led}{Q:VP}
theorem sb_call {σ:zX}{t:Nat}{env':Env}{L':zV}(W:Wk h₀ L h m (mu++rest)) (N:News h₀ L h mu) (hf':env'.frame=some L') (hke:∀ env l,A.frames=some (env::l)→env.scope.kind= .function):SB w A L h₀→SB w (A.deeper env') L' (gnd h mu):=by
 rintro ⟨A₀,base,outer,env,B,hA,hf,X,T⟩;obtain ⟨FG,BG,st,-⟩:=groundX (R:=fun _ _=>True) (s:=S σ h t) B W.fr N hA hf (hke _ _ hA);exact ⟨A,base,env::outer,env',BG,yM hA,hf',X,T⟩
theorem fn_genE {f:zV}{name qual:Str}{params:Arguments}{body:List Stmt}{scope:Scope}{dV kV doc pm cdv ct oc:zY}{an od:Option zV}{osl:Array (Option zY)}{pos:List zY}{kw binds:List (Str×zY)}(keep:Led) (P:Prop)
 (Z:Site w A L h₀) (W:Wk h₀ L h m (mu++rest)) (hroom:A.depth<zS)
 (ho:(KF PW w.params).lookup f=some ⟨oc,od,.func (fnOf name qual params body scope dV kV doc pm an cdv ct),osl⟩) (hcd:codeIn (KF PW w.params) cdv qual=true)
 (hbind:BindsTo (S σ h t) (fnOf name qual params body scope dV kV doc pm an cdv ct) ⟨pos,kw⟩ binds) (hloc:∀ y∈binds,scope.names.lookup y.1=some .local)
 (hcell:∀ x∈scope.names,x.2≠ .cell) (hco:scope.isCoroutine=false) (hgen:scope.isGenerator=false) (hk:scope.kind= .function)
 (ke:∀ e h' t',Fl A h₀ (keep++rest) e .fly h'→h'.Ns L m→P→E (.ref e) (S σ h' t'))
 (k:∀ L' h₁ t₁,t₁=t+binds.length→Frm (A.deeper (envX qual scope L' f cdv [])) (envX qual scope L' f cdv [])→(SB w A L h₀→SB w (A.deeper (envX qual scope L' f cdv [])) L' (gnd h mu))→Site w (A.deeper (envX qual scope L' f cdv [])) L' (gnd h mu)→Wk (gnd h mu) L' h₁ (fun y=>binds.reverse.lookup y) mu→
  zZ (zW PW w) (A.deeper (envX qual scope L' f cdv [])) (execs body (envX qual scope L' f cdv []))
   (fun fl s'=>∃ h' t' m' mu',s'=S σ h' t'∧Wk (gnd h mu) L' h' m' mu'∧(Wk h₀ L h' m (mu'++rest)→Q (retv fl) (S σ h' t')))
   (Xp (A.deeper (envX qual scope L' f cdv [])) (gnd h mu) L' σ keep P) (S σ h₁ t₁)):
 zZ (zW PW w) A (call (.ref f) pos kw) Q E (S σ h t):=by
 have Z0:=Z;obtain ⟨⟨A₀,base,outer,env,B,hA,hf,hke⟩,X,⟨pT,lT,mean,mg,mb,T⟩,hh⟩:=Z;have N:News h₀ L h mu:=fun p hp=>W.nw p (l_l _ hp)
 obtain ⟨FG,BG,st,-⟩:=groundX (R:=fun _ _=>True) (s:=S σ h t) B W.fr N hA hf hke;refine wpAny_call ?_;refine codeAny_call_def (fd:=fnX name qual params body scope [] dV kV doc pm an cdv ct) (body:=body) (binds:=binds) hroom ((X.keeps W.fr.keep) _ _ ho) rfl (T.nolimit.keeps W.fr.keep) (codeRec_of (X.keeps W.fr.keep) hcd) rfl hbind hcell hloc (fun h₁ hns hk₁=>?_) hco hgen hk
 have W₁:Wk (gnd h mu) h.objs.size h₁ (fun y=>binds.reverse.lookup y) mu:=
  ⟨⟨hns,fun b o e=>hk₁ b o (of_hideAll _ e),Nat.le_of_eq (hideAll_size _ _)⟩,
   fun p hp=>⟨hk₁ _ _ (N p hp).1,Nat.ne_of_lt (zB (N p hp).1),hideAll_none _ (l_o hp)⟩,by
   have:=W.nd;rw [zK,yQ] at this;exact this.1⟩
 refine w_m (k h.objs.size h₁ _ rfl ⟨_,yM hA⟩ (sb_call (σ:=σ) (t:=t) W N (by rfl) fun e l q=>by rw [hA] at q;obtain ⟨rfl,rfl⟩:=(List.cons.inj (l_j q));exact hke) ⟨⟨A,base,env::outer,_,BG,yM hA,rfl,hk⟩,X.keeps st,⟨pT,lT,mean,mg,mb,T.keeps st⟩,hh⟩ W₁) ?_ ?_
 · rintro fl s' ⟨h',t',m',mu',rfl,W',kk⟩;have:=kk (W.back W');cases fl <;> exact this
 · rintro v s' ⟨e,d,h',t',rfl,rfl,hd,x,hP⟩;refine fl_leave (l:=env::outer) hA rfl ?_ x hd fun h'' y=>?_
   · exact gnd_new
   · obtain ⟨y1,y2⟩:=fl_up Z0 W y;exact ke e h'' t' y1 y2 hP
end
end
section
section
variable {M:Model}{w:zT}{A:zU}{E:VP}{σ:zX}{h₀ h:Heap}{t:Nat}{L:zV}{m:NM}{news mu rest mu':Led}{e:zV}{d:Md}{env:Env}{Q:UP}
theorem Fl.mark {v} (x:Fl A h₀ mu e d h):Fl (A.mark v) h₀ mu e d h:=x
theorem Fl.unmark {v} (x:Fl (A.mark v) h₀ mu e d h):Fl A h₀ mu e d h:=x
theorem setFlight_any {base:Heap}{l:List Env}{e L:zV}{cls a0 fl:zY}{s:zX}(hkb:base.StaysIn s.heap) (hl:s.heap.FunFrames base l) (R:s.heap.TracedAtW base e cls a0 fl)
 (k:∀ h',base.StaysIn h'→h'.FunFrames base l→h'.TracedAtW base e cls a0 (rawInt L)→s.heap.UpToSlots h'→Q () { s with heap:=h' }):zZ M A (setFlight (.ref e) (some L)) Q E s:=by
 obtain ⟨oe,vs,T,oT,ts,he,hcls,hd,h1,hnT,hTe,hT,hdT,h3⟩:=R;have hsz3:3<ts.size:=(Array.getElem?_eq_some_iff.mp h3).1
 have other:∀ b,b≠T→(s.heap.update T (Obj.mapFields (·.setIfInBounds 3 ((some L).elim Value.none fun f=>rawInt f)))).get? b=s.heap.get? b:=
  fun b hb=>Heap.get?_update_other _ _ (Ne.symm hb)
 have noRecord:∀ b o,s.heap.get? b=some o→(∀ vs,o.data≠ .fields vs)→b≠T:=fun b o hb hnf q=>by
  rw [q,hT] at hb;injection hb with hb;subst hb;exact hnf ts hdT
 unfold setFlight;refine w_b (wpAny_field he hd h1 ?_);rw [if_pos (show (Value.ref T !=Value.none)=true from by simp)]
 refine wpAny_setField hT hdT hsz3 (k _ (fun b o hbo=>(other b fun q=>by rw [q,hnT] at hbo;cases hbo).trans (hkb b o hbo))
  (hl.of_keeps fun b o hb hnf=>⟨o,(other b (noRecord b o hb hnf)).trans hb,rfl⟩) ?_ fun b o hb hnf=>⟨o.slots,(other b (noRecord b o hb hnf)).trans hb⟩)
 exact ⟨oe,vs,T,_,_,(other e (Ne.symm hTe)).trans he,hcls,hd,h1,hnT,hTe,yL _ hT (Obj.isFreed_of_fields (Obj.data_mapFields hdT _)),Obj.data_mapFields hdT _,by simp [hsz3]⟩
theorem fl_note (FA:Frm A env) (hf:env.frame=some L) (x:Fl A h₀ mu e d h) (hd:okd L d) (k:∀ h',Fl A h₀ mu e (.held L) h'→h.UpToSlots h'→Q () (S σ h' t)):zZ M A (noteFrame (.ref e) env) Q E (S σ h t):=by
 obtain ⟨l,hA⟩:=FA;obtain ⟨l',B,a0,x1,x2,x3,x4,x5,x6,x7,x8⟩:=x;have el:l'=env::l:=by rw [hA] at x1;exact (l_j x1).symm
 subst el;cases d with
 |new=>
  obtain ⟨oe,vs,h1,h2,h3,h4,h5⟩:=x8;unfold noteFrame;simp only [hf];refine w_b (wpAny_field (s:=S σ h t) h1 h3 h4 ?_);rw [if_neg (by decide)];refine wpAny_entryW (s:=S σ h t) hA x7 hf h1 x5 x6 h3 (Array.getElem?_eq_some_iff.mp h4).1 h5 fun h' hN=>?_;obtain ⟨k1,k2,k3,k4⟩:=hN;exact k h' ⟨_,B,a0,hA,x2,x3,x4.trans k4,k1,x6,k2,by rw [h2] at k3;exact k3⟩ k4
 |fly=>
  refine wpAny_looks_onW (s:=S σ h t) hA hf ⟨x5,x6,x7,x8⟩ fun h' y u=>?_;exact k h' ⟨_,B,a0,hA,x2,x3,x4.trans u,y.1,y.2.1,y.2.2.1,y.2.2.2⟩ u
 |held L'=>
  obtain rfl:L'=L:=hd;exact wpAny_noteFrame_againW (s:=S σ h t) hf x8 (k h ⟨_,B,a0,hA,x2,x3,x4,x5,x6,x7,x8⟩ (Heap.UpToSlots.refl _))
theorem fl_off (x:Fl A h₀ mu e (.held L) h) (k:∀ h',Fl A h₀ mu e .fly h'→h.UpToSlots h'→Q () (S σ h' t)):zZ M A (setFlight (.ref e) none) Q E (S σ h t):=by
 obtain ⟨l,B,a0,x1,x2,x3,x4,x5,x6,x7,x8⟩:=x;refine wpAny_landsW (s:=S σ h t) (⟨x5,x6,x7,x8⟩:Heap.HeldW B l e (.type "TypeError") a0 L h) fun h' y u=>?_;exact k h' ⟨_,B,a0,x1,x2,x3,x4.trans u,y.1,y.2.1,y.2.2.1,y.2.2.2⟩ u
theorem fl_off2 (x:Fl A h₀ mu e .fly h) (k:∀ h',Fl A h₀ mu e .fly h'→h.UpToSlots h'→Q () (S σ h' t)):zZ M A (setFlight (.ref e) none) Q E (S σ h t):=by
 obtain ⟨l,B,a0,x1,x2,x3,x4,x5,x6,x7,x8⟩:=x;refine lands_againW (s:=S σ h t) (⟨x5,x6,x7,x8⟩:Heap.FlyingW B l e (.type "TypeError") a0 h) fun h' y u=>?_;exact k h' ⟨_,B,a0,x1,x2,x3,x4.trans u,y.1,y.2.1,y.2.2.1,y.2.2.2⟩ u
theorem fl_on (hd:d= .fly∨d= .held L) (x:Fl A h₀ mu e d h) (k:∀ h',Fl A h₀ mu e (.held L) h'→h.UpToSlots h'→Q () (S σ h' t)):zZ M A (setFlight (.ref e) (some L)) Q E (S σ h t):=by
 obtain ⟨l,B,a0,x1,x2,x3,x4,x5,x6,x7,x8⟩:=x
 have:∃ fl,h.TracedAtW B e (.type "TypeError") a0 fl:=by
  rcases hd with rfl|rfl
  · exact ⟨_,x8⟩
  · exact ⟨_,x8⟩
 obtain ⟨fl,x8⟩:=this;refine setFlight_any (s:=S σ h t) x5 x7 x8 fun h' y1 y2 y3 u=>?_;exact k h' ⟨_,B,a0,x1,x2,x3,x4.trans u,y1,x6,y2,y3⟩ u
theorem fl_field {s:zX}{Q:VP}(hd:d= .fly∨d= .held L) (x:Fl A h₀ mu e d s.heap) (k:∀ T:zV,Q (.ref T) s):zZ M A (field (.ref e) 1) Q E s:=by
 obtain ⟨l,B,a0,x1,x2,x3,x4,x5,x6,x7,x8⟩:=x
 have:∃ fl,s.heap.TracedAtW B e (.type "TypeError") a0 fl:=by
  rcases hd with rfl|rfl
  · exact ⟨_,x8⟩
  · exact ⟨_,x8⟩
 obtain ⟨fl,oe,vs,T,oT,ts,he,hcls,hd,h1,hnT,hTe,hT,hdT,h3⟩:=this;exact wpAny_field he hd h1 (k T)
abbrev LE (M:Model) (A' A:zU) (env:Env) (E:VP):VP:=notedBy M A' env (cameBackBy M A env E)
theorem fl_loop {v} (FA:Frm A env) (hf:env.frame=some L) (x:Fl A h₀ mu e d h) (hd:okd L d) (k:∀ h',Fl A h₀ mu e (.held L) h'→h.UpToSlots h'→E (.ref e) (S σ h' t)):LE M (A.mark v) A env E (.ref e) (S σ h t):=by
 refine fl_note (A:=A.mark v) (L:=L) FA hf x.mark hd fun h' y u=>?_;show zZ M A _ _ E _
 refine w_b (fl_field (s:=S σ h' t) (.inr rfl) y.unmark fun T=>?_);rw [if_neg (show ¬ ((Value.ref T==Value.none)=true) from by simp)];rw [hf];exact fl_on (.inr rfl) y.unmark fun h'' z u'=>k h'' z (u.trans u')
theorem fl_loop' (FA:Frm A env) (hf:env.frame=some L) (x:Fl A h₀ mu e d h) (hd:okd L d) (k:∀ h',Fl A h₀ mu e (.held L) h'→h.UpToSlots h'→E (.ref e) (S σ h' t)):LE M A A env E (.ref e) (S σ h t):=by
 refine fl_note (L:=L) FA hf x hd fun h' y u=>?_;show zZ M A _ _ E _
 refine w_b (fl_field (s:=S σ h' t) (.inr rfl) y fun T=>?_);rw [if_neg (show ¬ ((Value.ref T==Value.none)=true) from by simp)];rw [hf];exact fl_on (.inr rfl) y fun h'' z u'=>k h'' z (u.trans u')
end
section
variable {w:zT}{A:zU}{E:VP}{σ:zX}{h₀ h:Heap}{t:Nat}{L:zV}{m:NM}{mu:Led}{e:zV}{d:Md}{Q:FP}{cn:Str}{cs:Scope}{a:zV}{ccd:zY}{b₀:Stmt}{suite:List Stmt}{np pos:Pos}{hs:List ExceptHandler}
theorem sb_turn (sb:SB w A L h₀) (x:Fl A h₀ mu e d h) (ab:h₀.objs.size≤L) (hn:h.Ns L m):∃ g',Fr g' L h m∧(KF PW w.params).In g'∧∃ pT lT mean mg mb,Top pT lT mean mg mb g':=by
 obtain ⟨A₀,base,outer,env,K,hA,hf,X,pT,lT,mean,mg,mb,T⟩:=sb;obtain ⟨l,B,a0,x1,x2,x3,x4,x5,x6,x7,x8⟩:=x;have el:l=env::outer:=by rw [hA] at x1;exact (l_j x1).symm
 subst el
 have nL:h₀.get? L=none:=by
  cases q:h₀.get? L with
  |none=>rfl
  |some o=>exact absurd (Nat.lt_of_lt_of_le (zB q) ab) (yY _)
 obtain ⟨TT,SS⟩:=kts_turn_at (h:=h) (fs:=outer.filterMap (·.frame)) (g:=h₀)
  (fun b hb=>by
   obtain ⟨_,o,ho,_⟩:=K.frames.mem hb
   exact ⟨o,ho⟩)
  (fun b o e nm=>x5 b o (x2 b o e fun z=>by
   obtain ⟨en,he,hf'⟩:=List.mem_filterMap.mp z;rcases zL.mp he with rfl|he
   · rw [hf] at hf';obtain rfl:=l_j hf';rw [nL] at e;cases e
   · exact nm (List.mem_filterMap.mpr ⟨en,he,hf'⟩)))
  (fun b o e hm=>by
   obtain ⟨_,o',ho',hd⟩:=K.frames.mem hm;rw [e] at ho';cases ho'
   exact x4 b o e hd)
 have st:base.StaysIn (ktsHeap h (outer.filterMap (·.frame)) h₀):=fun b o e=>TT.other b o (K.stays b o e) (fun hm=>by
  rw [(K.frames.mem hm).1] at e
  cases e)
 exact ⟨_,⟨hn,SS,by rw [TT.size];exact ab⟩,X.keeps st,pT,lT,mean,mg,mb,T.keeps st⟩
theorem fl_there (x:Fl A h₀ mu e d h):∃ ob,h.get? e=some ob∧ob.cls= .type "TypeError":=by
 obtain ⟨l,B,a0,x1,x2,x3,x4,x5,x6,x7,x8⟩:=x;cases d with
 |new=>obtain ⟨oe,vs,h1,h2,_⟩:=x8;exact ⟨oe,h1,h2⟩
 |fly=>obtain ⟨oe,_,_,_,_,he,hc,_⟩:=x8;exact ⟨oe,he,hc.1⟩
 |held=>obtain ⟨oe,_,_,_,_,he,hc,_⟩:=x8;exact ⟨oe,he,hc.1⟩
theorem fl_catch (FA:Frm A (envX cn cs L a ccd [])) (sb:SB w A L h₀) (ab:h₀.objs.size≤L) (x:Fl A h₀ mu e d h) (hd:okd L d) (hn:h.Ns L m)
 (k:∀ h' g',Fr g' L h' m→Fl A h₀ mu e .fly h'→zZ (zW PW w) (A.mark (some (.ref e))) (execs (b₀::suite) (envX cn cs L a ccd [])) Q (LE (zW PW w) (A.mark (some (.ref e))) A (envX cn cs L a ccd []) E) (S σ h' t))
 (hk:cs.kind= .function) (hx:(envX cn cs L a ccd []).kindOf (zQ "TypeError")=some .globalImplicit):
 zZ (zW PW w) A (noteFrame (.ref e) (envX cn cs L a ccd []))
  (fun _ s₂=>zZ (zW PW w) A (setFlight (.ref e) none) (fun _ s₃=>
   zZ (zW PW w) A (handleBy (.ref e) (envX cn cs L a ccd []) (.ExceptHandler (some (.Name (zQ "TypeError") np)) none (b₀::suite) pos::hs)) Q E s₃) E s₂) E (S σ h t):=by
 refine fl_note (L:=L) FA rfl x hd fun h₁ x₁ u₁=>?_;refine fl_off x₁ fun h₂ x₂ u₂=>?_;obtain ⟨g',F',X',pT,lT,mean,mg,mb,T'⟩:=sb_turn sb x₂ ab ((u₁.trans u₂).ns hn);obtain ⟨ob,hob,hobc⟩:=fl_there x₂
 refine wpAny_handleBy_builtin (s:=S σ h₂ t) (X:="TypeError") (T:="TypeError") (b:=true) PySem.F.isExc_TypeError PySem.F.notTuple_TypeError (by rw [isSubtype_type];k_ne)
  (nameX_B (s:=S σ h₂ t) F' X' (topRead_of T') gl_TypeError bb_TypeError (by decide) ⟨rfl,⟨ob,hob,hobc⟩,?_⟩ hk hx (by k_ne))
 refine fl_off2 x₂.mark fun h₃ x₃ u₃=>?_;obtain ⟨g₃,F₃,-⟩:=sb_turn sb x₃.unmark ab (((u₁.trans u₂).trans u₃).ns hn);exact k h₃ g₃ F₃ x₃.unmark
theorem x_bare {env:Env}{pos:Pos}(hf:env.frame=some L) (x:Fl A h₀ mu e .fly h) (k:∀ h',Fl A h₀ mu e (.held L) h'→h.UpToSlots h'→E (.ref e) (S σ h' t)):
 zZ (zW PW w) (A.mark (some (.ref e))) (exec (.Raise none none pos) env) Q E (S σ h t):=by
 rw [arm_exec_Raise];refine w_b (wpAny_standAt ?_);show zZ _ _ (raiseStmt env none none) _ _ _
 unfold raiseStmt;refine w_b (wpAny_handled ?_);show zZ _ _ (do rule "raise.bare";_) _ _ _
 refine w_b (wpAny_rule ?_);refine w_b (fl_field (A:=A.mark (some (.ref e))) (s:=S σ h t) (L:=L) (.inl rfl) x.mark fun T=>?_);rw [if_neg (show ¬ ((Value.ref T==Value.none)=true) from by simp)];rw [hf];refine w_b (fl_on (A:=A.mark (some (.ref e))) (.inl rfl) x.mark fun h' y u=>?_);exact wpAny_throw (k h' y.unmark u)
end
end
theorem hash_list:typeLookup (.type "list") (zQ "__hash__")=pure (some .none):=by rw [typeLookup_type,yI];k_ne
theorem hash_dict:typeLookup (.type "dict") (zQ "__hash__")=pure (some .none):=by rw [typeLookup_type,yI];k_ne
def HashFails (w:zT) (h:Heap) (v:zY) (n:Nat):Prop:=∀ (A:zU) (E:VP) (σ:zX) (t:Nat) (Q:Int→zX→Prop),A.units+n<cLine→A.handled=none→
 (∀ h' t' e,Heap.NewExc h h' e "TypeError"→E (.ref e) (S σ h' t'))→zZ (zW PW w) A (pyHash v) Q E (S σ h t)
theorem fails_type {n:Nat}{w:zT}{h:Heap}{v:zY}{T:String}(hv:∀ x t,v≠ .str x t) (hT:∀ σ t,(S σ h t).TypeIs v T) (hl:typeLookup (.type T) (zQ "__hash__")=pure (some .none)) (hn:(Value.type T==Value.type "builtin_function_or_method")=false)
 (hs:((s!"unhashable type: '{shownName T}'":String):Str).length≤sizeLine):HashFails w h v n:=by
 intro A E σ t Q hu hh k
 have e:pyHash v=pyHashByItsType v:=by
  cases v <;> first|exact absurd rfl (hv _ _)|rfl
 rw [e];unfold pyHashByItsType;refine w_b (wpAny_cRoomFor_or (.inr (by lia)) ?_);refine w_b (wpAny_specialOf (hT σ t) hl ?_);show zZ _ _ (if (some Value.none==some Value.none)=true then _ else _) _ E _
 rw [if_pos (by decide)];refine w_b (wpAny_rule ?_);refine w_b (wpAny_typeNameOf' (hT σ t) hn ?_);exact w_b (wpAny_raiseTypeError (s:=S σ h t) hh (fun h' tk e x=>k h' tk e x) hs)
theorem fails_list {n:Nat}{w:zT}{h:Heap}{l:zV}{o:Obj}(ho:h.get? l=some o) (hc:o.cls= .type "list"):HashFails w h (.ref l) n:=
 fails_type (T:="list") (by intro _ _ e;cases e) (fun σ t=>(show ∃ o,(S σ h t).heap.get? l=some o∧o.cls= .type _ from ⟨o,ho,hc⟩)) hash_list (by decide) (by decide+kernel)
theorem fails_dict {n:Nat}{w:zT}{h:Heap}{l:zV}{o:Obj}(ho:h.get? l=some o) (hc:o.cls= .type "dict"):HashFails w h (.ref l) n:=
 fails_type (T:="dict") (by intro _ _ e;cases e) (fun σ t=>(show ∃ o,(S σ h t).heap.get? l=some o∧o.cls= .type _ from ⟨o,ho,hc⟩)) hash_dict (by decide) (by decide+kernel)
theorem fails_tup {w:zT}{h:Heap}{a:zV}{o:Obj}{x:zY}{n:Nat}(ho:h.get? a=some o) (hc:o.cls= .type "tuple") (hd:o.data= .seq #[x] n) (hx:HashFails w h x 0):HashFails w h (.ref a) 1:=by
 intro A E σ t Q hu hh k;have hT:(S σ h t).TypeIs (.ref a) "tuple":=⟨o,ho,hc⟩;show zZ _ _ (pyHashByItsType (.ref a)) _ _ _
 unfold pyHashByItsType;refine w_b (wpAny_cRoomFor_or (.inr (by lia)) ?_);refine w_b (wpAny_specialOf hT PySem.F.slot_tuple_hash.lookup ?_);show zZ _ _ (if (some (Value.builtin "tuple.__hash__")==some Value.none)=true then _ else _) Q E _
 rw [if_neg (by rw [beq_builtin_none];exact zA)];refine w_b (wpAny_specialOf hT PySem.F.slot_tuple_hash.lookup ?_);show zZ _ _ (callSpecialIfBoundUnlessNone? (.ref a) "__hash__" _ >>=_) Q E _
 refine w_b (wpAny_callSpecialIfBoundUnlessNone?_slot hT PySem.F.slot_tuple_hash (w_c PySem.F.slot_tuple_hash hT PySem.F.entry_tuple_hash ?_ (PySem.F.args_tuple_hash_1 _)));show zZ _ _ (Builtin.Tuple.tupleItemsOf (.ref a) >>=_) _ _ _
 refine w_b (wpAny_tupleItemsOf (s:=S σ h t) ho hd ?_);refine w_b ?_;rw [← Array.forIn_toList];show zZ _ _ (forIn [x] _ _) _ _ _
 rw [List.forIn_cons];refine w_b (w_b (hx _ _ _ _ _ (by rw [yN];lia) (by simpa using hh) fun h' t' e y=>?_));exact k h' t' e y
theorem el_list {w:zT}{h:Heap}{v:zY}{k:Nat}(x:El w h v k) (h1:k≠12) (h2:k≠15) {ds:List PyData}(e:datK k= .list ds):HashFails w h v 1:=by
 obtain ⟨_,as,r⟩:=x.plain h1 h2;rw [e] at r;obtain ⟨a,o,rfl,ho,hc⟩:RI h v (.list ds):=reads_inv r;exact fails_list ho hc
theorem all_one {h:Heap}{vs:List zY}{d:PyData}{as:List zV}(r:ReadsAll h vs [d] as):∃ v as',vs=[v]∧Reads h v d as':=by
 cases r with
 |cons r1 r2=>cases r2;exact ⟨_,_,rfl,r1⟩
theorem el_fails {w:zT}{h:Heap}{v:zY}{k:Nat}(x:El w h v k) (hk:10≤k):HashFails w h v 1:=by
 have hlt:=x.lt;have hn:k=10∨k=11∨k=12∨k=13∨k=14∨k=15:=by (revert hk hlt;k_in)
 clear hk hlt;rcases hn with rfl|rfl|rfl|rfl|rfl|rfl
 · exact el_list x (by decide) (by decide) rfl
 · exact el_list x (by decide) (by decide) rfl
 · obtain ⟨T,rfl,_,es,n,sl,e⟩:=x.dict (.inl rfl);exact fails_dict e rfl
 · obtain ⟨_,as,r⟩:=x.plain (by decide) (by decide);obtain ⟨a,o,vs,n,as,rfl,ho,hc,hd,r⟩:RI h v (.tuple [.list []]):=reads_inv r;obtain ⟨v,as',e,r⟩:=all_one r;obtain ⟨a',o',rfl,ho',hc'⟩:RI h v (.list []):=reads_inv r;obtain ⟨vs⟩:=vs;obtain rfl:vs=[.ref a']:=e;exact fails_tup ho hc hd (fails_list ho' hc')
 · exact el_list x (by decide) (by decide) rfl
 · obtain ⟨T,rfl,_,es,n,sl,e⟩:=x.dict (.inr rfl);exact fails_dict e rfl
section
def KdF {w:zT}(K:Kd w):Prop:=∀ {h:Heap}{v:zY}{c:Int},K.is h v c→¬ K.ok c→HashFails w h v 1
theorem kdf_int {w:zT}:KdF (intKd w):=fun _ n=>absurd trivial n
theorem kdf_el {w:zT}{num hnum}:KdF (elKd w num hnum):=by
 rintro h v c ⟨k,x,rfl⟩ n;exact el_fails x (Nat.le_of_not_lt fun q=>n ⟨k,q,rfl⟩)
section
variable {w:zT}{K:Kd w}{A:zU}{E:VP}{σ:zX}{h₀ h:Heap}{t:Nat}{L:zV}{m:NM}{news:Led}{d:zV}{xs:List Rw}{ep:Nat}{key:zY}{c:Int}
theorem m_dget_f {dflt:zY}{Q:VP}(hh:A.handled=none) (hu:A.units+80<cLine) (ho:h.get? d=some (dob K xs ep)) (hf:HashFails w h key 1)
 (k:∀ h' t' e,Heap.NewExc h h' e "TypeError"→E (.ref e) (S σ h' t')):
 zZ (zW PW w) A (call (.builtin "dict.get") [.ref d,key,dflt]) Q E (S σ h t):=by
 refine w_c PySem.F.slot_dict_get (dob_type ho) PySem.F.entry_dict_get ?_ (PySem.F.args_dict_get_3 _ _ _);show zZ _ _ (dictGet d key >>=_) _ _ _
 refine w_b ?_;unfold dictGet
 try with_reducible refine w_h ?_
 exact w_b (hf _ _ _ _ _ (by rw [yN];lia) (by simpa using hh) k)
theorem m_setdefault_f {dflt:zY}{Q:VP}(hh:A.handled=none) (h1:d≠1) (hu:A.units+80<cLine) (ho:h.get? d=some (dob K xs ep)) (hf:HashFails w h key 1)
 (k:∀ h' t' e,Heap.NewExc h h' e "TypeError"→E (.ref e) (S σ h' t')):
 zZ (zW PW w) A (call (.builtin "dict.setdefault") [.ref d,key,dflt]) Q E (S σ h t):=by
 refine w_c PySem.F.slot_dict_setdefault (dob_type ho) PySem.F.entry_dict_setdefault ?_ (PySem.F.args_dict_setdefault_3 _ _ _);unfold Builtin.«dict.setdefault»;refine w_b ?_;unfold Builtin.Dict.keyAndDefault;refine w_b (wpAny_notOrdered_dict (dob_type ho) ?_);show zZ _ _ (pure (d,key,some dflt)) _ _ _
 refine w_p ?_;show zZ _ _ (if (d==sysModules)=true then _ else (dictSetDefault d key dflt >>=_)) _ _ _
 rw [if_neg (by simpa [sysModules] using h1)];refine w_b ?_;unfold dictSetDefault
 try with_reducible refine w_h ?_
 exact w_b (hf _ _ _ _ _ (by rw [yN];lia) (by simpa using hh) k)
theorem typeCall_dict_0:checkTypeCall "dict" ⟨[],[]⟩=pure ():=by k_ne
theorem newCall_dict_0:checkBuiltinCall "dict.__new__" ⟨[.type "dict"],[]⟩=pure ():=by k_ne
theorem c_dict0 {Q:VP}(W:Wk h₀ L h m news) (k:∀ a h',Wk h₀ L h' m ((a,dob K [] 0)::news)→Kp h h'→a=h.objs.size→Q (.ref a) (S σ h' t)):
 zZ (zW PW w) A (call (.type "dict") []) Q E (S σ h t):=by
 refine callType_codes (Q₁:=fun obj s₁=>obj= .ref h.objs.size∧s₁=S σ (h.push { cls:=.type "dict",data:=.dict #[] }) t) PySem.F.kt_called_dict typeCall_dict_0 PySem.F.entry_dict_init ?_ ?_
 · refine codeAny_call_builtin PySem.F.kt_plain_dict_new PySem.F.kt_entry_dict_new (yK newCall_dict_0 ?_);have hsub:=PySem.F.kt_sub_dict;have hmro:=PySem.F.kt_mro_dict;unfold S;unfold Builtin.«dict.__new__»
   wp_walk
   exact ⟨rfl,rfl⟩
 · rintro obj s₁ ⟨rfl,rfl⟩;have hT:(S σ (h.push { cls:=.type "dict",data:=.dict #[] }) t).TypeIs (.ref h.objs.size) "dict":=⟨_,yO _ rfl,rfl⟩;refine ⟨hT,by k_ne,?_⟩;unfold Builtin.«dict.__init__»;refine w_b ?_;unfold Builtin.Dict.selfAndRest;refine w_b (wpAny_notOrdered_dict hT ?_);show zZ _ _ (pure (h.objs.size,[])) _ _ _
   refine w_p ?_;show zZ _ _ (Builtin.Dict.addKeywords h.objs.size [] >>=_) _ _ _
   exact w_b (w_p (w_p ⟨rfl,k _ _ (W.new (dob K [] 0) rfl) (Kp.push _ _) rfl⟩))
noncomputable def rwX (acc:List El2):List Rw:=acc.map fun y=>(y.2,y.1,Value.none)
theorem rwX_set (acc:List El2) (y:El2):setX (rwX acc) y.2 y.1 .none=rwX (addFirst acc y):=by
 unfold setX addFirst rwX;rw [List.any_map];simp only [Function.comp_def];split
 · rename_i h;rw [List.map_map];refine List.map_congr_left fun x hx=>?_;simp only [Function.comp_def];split <;> simp_all
 · simp
theorem addFirst_nodup {acc:List El2}{y:El2}(h:(acc.map (·.2)).Nodup):((addFirst acc y).map (·.2)).Nodup:=by
 unfold addFirst;split
 · exact h
 · rename_i hn;rw [zK,yQ];refine ⟨h,by simp,fun a ha b hb e=>hn ?_⟩;simp only [zM,List.map_nil,zH] at hb;obtain ⟨z,hz,rfl⟩:=zN.mp ha;rw [List.any_eq_true];exact ⟨z,hz,by rw [← hb,e];simp⟩
theorem firsts_nodup:∀ (ys acc:List El2),(acc.map (·.2)).Nodup→((ys.foldl addFirst acc).map (·.2)).Nodup
 |[],acc,h=>h
 |y::ys,acc,h=>firsts_nodup ys _ (addFirst_nodup h)
end
end
noncomputable def ddStep (acc:List Int) (n:Int):List Int:=if n∈acc then acc else acc++[n]
noncomputable def dd (ns:List Int):List Int:=ns.foldl ddStep []
theorem dd_snoc (ns:List Int) (n:Int):dd (ns++[n])=ddStep (dd ns) n:=by unfold dd;rw [List.foldl_append];rfl
theorem ddf_mem:∀ (ns acc:List Int) (n:Int),n∈ns.foldl ddStep acc↔n∈acc∨n∈ns
 |[],acc,n=>by simp
 |x::ns,acc,n=>by
  rw [xZ,ddf_mem ns];unfold ddStep;split
  · rename_i h;rw [zL];constructor
    · rintro (a|a)
      · exact .inl a
      · exact .inr (.inr a)
    · rintro (a|rfl|a)
      · exact .inl a
      · exact .inl h
      · exact .inr a
  · rw [zE,zH,zL,or_assoc]
theorem dd_mem {ns:List Int}{n:Int}:n∈dd ns↔n∈ns:=by unfold dd;rw [ddf_mem];simp
theorem ddf_nodup:∀ (ns acc:List Int),acc.Nodup→(ns.foldl ddStep acc).Nodup
 |[],_,h=>h
 |x::ns,acc,h=>by
  rw [xZ];refine ddf_nodup ns _ ?_;unfold ddStep;split
  · exact h
  · rename_i q;rw [yQ];exact ⟨h,by simp,fun a ha b hb e=>q (by rw [zH] at hb;rw [← hb,← e];exact ha)⟩
theorem dd_nodup (ns:List Int):(dd ns).Nodup:=ddf_nodup ns [] List.nodup_nil
theorem ddf_len:∀ (ns acc:List Int),(ns.foldl ddStep acc).length≤acc.length+ns.length
 |[],acc=>by simp
 |x::ns,acc=>by
  rw [xZ,yU];have:=ddf_len ns (ddStep acc x);have h:(ddStep acc x).length≤acc.length+1:=by unfold ddStep;split <;> simp
  (revert this h;k_in)
theorem dd_len (ns:List Int):(dd ns).length≤ns.length:=by have:=ddf_len ns [];simpa [dd] using this
theorem ddf_map (f:Int→Int):∀ (ns acc:List Int),(∀ x y,(x∈ns∨x∈acc)→(y∈ns∨y∈acc)→f x=f y→x=y)→(ns.map f).foldl ddStep (acc.map f)=(ns.foldl ddStep acc).map f
 |[],_,_=>rfl
 |x::ns,acc,hf=>by
  rw [zM,xZ,xZ]
  have e:ddStep (acc.map f) (f x)=(ddStep acc x).map f:=by
   unfold ddStep;by_cases h:x∈acc
   · rw [if_pos h,if_pos (l_o h)]
   · rw [if_neg h,if_neg,zK]
     · rfl
     · intro q;obtain ⟨y,hy,e⟩:=zN.mp q;exact h (hf y x (.inr hy) (.inl (.head _)) e ▸ hy)
  rw [e];refine ddf_map f ns _ fun a b ha hb=>hf a b ?_ ?_
  · rcases ha with h|h
    · exact .inl (.tail _ h)
    · unfold ddStep at h;split at h
      · exact .inr h
      · rcases zE.mp h with h|h
        · exact .inr h
        · rw [zH] at h;exact .inl (h ▸ .head _)
  · rcases hb with h|h
    · exact .inl (.tail _ h)
    · unfold ddStep at h;split at h
      · exact .inr h
      · rcases zE.mp h with h|h
        · exact .inr h
        · rw [zH] at h;exact .inl (h ▸ .head _)
theorem dd_map {f:Int→Int}{ns:List Int}(hf:∀ x∈ns,∀ y∈ns,f x=f y→x=y):dd (ns.map f)=(dd ns).map f:=
 ddf_map f ns [] fun x y hx hy=>hf x (by simpa using hx) y (by simpa using hy)
theorem firsts_dd:∀ (xs acc:List El2),(xs.foldl addFirst acc).map (·.2)=(xs.map (·.2)).foldl ddStep (acc.map (·.2))
 |[],_=>rfl
 |x::xs,acc=>by
  rw [xZ,zM,xZ,firsts_dd xs];congr 1;unfold addFirst ddStep;by_cases h:x.2∈acc.map (·.2)
  · rw [if_pos h,if_pos];obtain ⟨y,hy,e⟩:=zN.mp h;exact List.any_eq_true.mpr ⟨y,hy,by simpa using e⟩
  · rw [if_neg h,if_neg]
    · rw [zK];rfl
    · intro q;obtain ⟨y,hy,e⟩:=List.any_eq_true.mp q;exact h (zN.mpr ⟨y,hy,of_decide_eq_true e⟩)
theorem firsts_num (xs:List El2):(firsts xs).map (·.2)=dd (xs.map (·.2)):=firsts_dd xs []
def kinI (x:Int):Int:=(kindN x.toNat:Int)
theorem idx_lt {kk:List Int}{a:Int}(h:a∈kk):kk.idxOf a<kk.length:=List.idxOf_lt_length_of_mem h
theorem idx_inj {kk:List Int}{a b:Int}(ha:a∈kk) (hb:b∈kk) (e:kk.idxOf a=kk.idxOf b):a=b:=by
 have h1:=List.getElem_idxOf (idx_lt ha);have h2:=List.getElem_idxOf (idx_lt hb);rw [← h1,← h2];congr 1
def num (kk:List Int) (k:Nat):Int:=if (kindN k:Int)∈kk then (kk.idxOf (kindN k:Int):Int) else 100+kindN k
theorem num_iff {kk:List Int}(hz:kk.length≤100) (k l:Nat) (hk:k<16) (hl:l<16):num kk k=num kk l↔kindN k=kindN l:=by
 constructor
 · intro e;unfold num at e;by_cases a:(kindN k:Int)∈kk <;> by_cases b:(kindN l:Int)∈kk
   · rw [if_pos a,if_pos b] at e;have:=idx_inj a b (by revert e;k_in)
     (revert this;k_in)
   · rw [if_pos a,if_neg b] at e;have:=idx_lt a
     (revert hz e this;k_in)
   · rw [if_neg a,if_pos b] at e;have:=idx_lt b
     (revert hz e this;k_in)
   · rw [if_neg a,if_neg b] at e
     (revert e;k_in)
 · intro e;unfold num;rw [e]
theorem idx_range:∀ (kk:List Int),kk.Nodup→kk.map (fun c=>(kk.idxOf c:Int))=(xY kk.length).map (fun (n:Nat)=>(n:Int)):=by
 intro kk h;refine List.ext_getElem (by simp) fun i h1 h2=>?_;rw [List.getElem_map,List.getElem_map,List.getElem_range];have hi:i<kk.length:=by simpa using h1
 congr 1;exact List.Nodup.idxOf_getElem h i hi
theorem num_range {kk ns:List Int}(hkk:kk=dd (ns.map kinI)) (hn:∀ n∈ns,0≤n∧n<16):dd (ns.map fun n=>num kk n.toNat)=(xY kk.length).map (fun (n:Nat)=>(n:Int)):=by
 have hm:∀ n∈ns,kinI n∈kk:=fun n h=>by rw [hkk];exact dd_mem.mpr (l_o h)
 have e1:(ns.map fun n=>num kk n.toNat)=(ns.map kinI).map (fun c=>(kk.idxOf c:Int)):=by
  rw [List.map_map];refine List.map_congr_left fun n h=>?_;have:(kindN n.toNat:Int)∈kk:=hm n h;unfold num;rw [if_pos this];rfl
 rw [e1,dd_map,← hkk]
 · exact idx_range kk (hkk ▸ dd_nodup _)
 · intro x hx y hy e;obtain ⟨n,hn1,rfl⟩:=zN.mp hx;obtain ⟨n',hn2,rfl⟩:=zN.mp hy;exact idx_inj (hm n hn1) (hm n' hn2) (by revert e;k_in)
section
theorem entry_fkl:entryFor table "dict.fromkeys.loop"=some Builtin.«dict.fromkeys.loop»:=entryFor_of_tree (by k_ne)
theorem plain_fkl:plainId "dict.fromkeys.loop"=true:=by decide+kernel
section
variable {w:zT}{K:Kd w}{A A':zU}{E:VP}{σ:zX}{h₀ h:Heap}{t:Nat}{L:zV}{m:NM}{news:Led}{d:zV}{ep:Nat}{ys:List El2}
theorem df_loop {l I:zV}{R:Result→zX→Prop}(KF:KdF K) (Z:Site w A L h₀) (hz:ys.length≤100) (hl:Ls h₀ l (ys.map (·.1))) (hx:AsK K h₀ ys) (hh:A'.handled=none) (hu:A'.units+80<cLine)
 (kOk:∀ h' t' ep',Wk h₀ L h' m ((d,dob K (rwX (firsts ys)) ep')::news)→(∀ y∈ys,K.ok y.2)→R (.ok (.ret (.ref d))) (S σ h' t'))
 (kEr:∀ h' t' e,Fl A h₀ news e .new h'→h'.Ns L m→(∃ y∈ys,¬ K.ok y.2)→R (.error (.ref e)) (S σ h' t')):
 ∀ (n i:Nat) (h:Heap) (t ep:Nat) (o:Obj),ys.length - i=n→i≤ys.length→liob l i o→(∀ y∈ys.take i,K.ok y.2)→Wk h₀ L h m ((I,o)::(d,dob K (rwX (firsts (ys.take i))) ep)::news)→
  codeAny (zW PW w) A' (.builtin "dict.fromkeys.loop" ⟨[.ref d,.ref I,.none],[]⟩) R (S σ h t):=by
 intro n
 induction n with
 |zero=>
  intro i h t ep o hn hi ho hok W;have hin:i=ys.length:=by (revert hn hi;k_in)
  subst hin;rw [yR] at hok W;refine codeAny_builtin entry_fkl ?_;rw [Around.under_plainId plain_fkl _];show zZ _ A'.in1 (pyNext (.ref I) >>=_) _ _ _
  refine w_b ((stp_list (A:=A'.in1) (by simpa using hh) I l (ys.map (·.1))).done (own:=[(I,o)]) ⟨o,rfl,by simpa using ho⟩ (hl.kp W.kp) W fun h' t' W'=>?_);exact w_p (kOk h' t' ep W' hok)
 |succ n ih=>
  intro i h t ep o hn hi ho hok W;have hlt:i<ys.length:=by (revert hn hi;k_in)
  refine codeAny_builtin entry_fkl ?_;rw [Around.under_plainId plain_fkl _];show zZ _ A'.in1 (pyNext (.ref I) >>=_) _ _ _
  refine w_b ((stp_list (A:=A'.in1) (by simpa using hh) I l (ys.map (·.1))).item (i:=i) (own:=[(I,o)]) (by simpa using hlt) ⟨o,rfl,ho⟩ (hl.kp W.kp) W fun own' v h' t' ho' hv W'=>?_);obtain ⟨o',rfl,ho'⟩:=ho';obtain ⟨y,hy⟩:∃ y,ys[i]? =some y:=⟨ys[i],by simp [hlt]⟩;have hvy:v=y.1:=by rw [zF,hy] at hv;simpa using hv.symm
  subst hvy;have hym:y∈ys:=l_m hy;have hT:(S σ h' t').TypeIs (.ref d) "dict":=dob_type (W'.get (.tail _ (.head _)));have tk:ys.take (i+1)=ys.take i++[y]:=by rw [yS,hy];rfl
  have sub:∀ z∈firsts (ys.take i),z∈ys.take i:=fun z hz=>by
   rcases firsts_sub _ _ hz with h|h
   · cases h
   · exact h
  show zZ _ A'.in1 (typeOf (.ref d) >>=_) _ _ _
  refine w_b (wpAny_typeOf hT ?_);rw [if_pos (show (Value.type "dict"==Value.type "dict")=true by decide)];refine w_b (w_p ?_);refine w_b (w_h ?_);by_cases hk:K.ok y.2
  · have hX:Keyed K h' (rwX (firsts (ys.take i))):=by
     refine ⟨fun z hz=>?_,?_⟩
     · obtain ⟨q,hq,rfl⟩:=zN.mp hz;exact ⟨K.keeps (hx q (List.mem_of_mem_take (sub q hq))) W'.kp,hok q (sub q hq)⟩
     · unfold rwX;rw [List.map_map];exact firsts_nodup (ys.take i) [] List.nodup_nil
    have hle:=firsts_len (ys.take i) [];rw [yP,yA] at hle;have hmin:=Nat.min_le_left i ys.length;refine d_set (K:=K) (news:=(I,o')::news) (ep:=ep) (by rw [yN];lia) (W'.perm (by wtm_at "p")) hX (K.keeps (hx y hym) W'.kp) hk (by unfold rwX;rw [zO];unfold firsts;(revert hz hlt hle hmin;k_in)) fun h'' t'' ep'' W''=>?_;refine w_p ⟨plainId_quiet plain_fkl _,ih (i+1) h'' t'' ep'' o' (by revert hn hi hlt;k_in) hlt ho' ?_ ?_⟩
    · intro z hz;rw [tk] at hz;rcases zE.mp hz with hz|hz
      · exact hok z hz
      · rw [zH.mp hz];exact hk
    · rw [rwX_set] at W'';rw [tk];have e2:firsts (ys.take i++[y])=addFirst (firsts (ys.take i)) y:=by unfold firsts;rw [List.foldl_append];rfl
      rw [e2];exact W''.perm (by wtm_at "p")
  · unfold dictSet
    try with_reducible refine w_h ?_
    refine w_b (KF (K.keeps (hx y hym) W'.kp) hk _ _ _ _ _ (by rw [yN];lia) (by simpa using hh) fun h'' t'' e x=>?_);obtain ⟨f1,f2⟩:=fl_new Z W' x;exact kEr h'' t'' e (f1.sub fun q hq=>.tail _ (.tail _ hq)) f2 ⟨y,hym,hk⟩
theorem entry_fk:entryFor table "dict.fromkeys"=some Builtin.«dict.fromkeys»:=entryFor_of_tree (by k_ne)
theorem quiet_fk {as:Args}:(Code.builtin "dict.fromkeys" as).quiet=true:=Code.quiet_builtin _ (by decide+kernel)
theorem type_dict:isType (.type "dict")=pure true:=by first|rfl|k_ne|(unfold isType;rw [isSubtype_type];k_ne)
theorem m_fromkeys {l:zV}{R:Result→zX→Prop}(KF:KdF K) (Z:Site w A L h₀) (W:Wk h₀ L h m news) (hz:ys.length≤100) (hl:Ls h₀ l (ys.map (·.1))) (hx:AsK K h₀ ys) (hh:A'.handled=none) (hu:A'.units+90<cLine)
 (kOk:∀ d h' t' ep',d≠1→Wk h₀ L h' m ((d,dob K (rwX (firsts ys)) ep')::news)→(∀ y∈ys,K.ok y.2)→R (.ok (.ret (.ref d))) (S σ h' t'))
 (kEr:∀ h' t' e,Fl A h₀ news e .new h'→h'.Ns L m→(∃ y∈ys,¬ K.ok y.2)→R (.error (.ref e)) (S σ h' t')):
 codeAny (zW PW w) A' (.builtin "dict.fromkeys" ⟨[.type "dict",.ref l],[]⟩) R (S σ h t):=by
 refine codeAny_builtin entry_fk ?_;have hl':=hl.kp W.kp;unfold Builtin.«dict.fromkeys»;refine w_b (yK (a:=true) type_dict ?_);refine KFB.if_not rfl ?_;refine w_b (yK (a:=true) PySem.F.kt_sub_dict ?_);refine KFB.if_not rfl ?_;refine KFB.if_not rfl ?_;refine w_b (w_b (wpAny_rule (w_p (w_b (w_p ?_)))));show zZ _ _ (call (.type "dict") [] >>=_) _ _ _
 refine w_b (c_dict0 (K:=K) W fun d h' W' kp ed=>?_);refine w_h ?_;have hT:(S σ h' t).TypeIs (.ref d) "dict":=dob_type (W'.get (.head _));have hLT:(S σ h' t).TypeIs (.ref l) "list":=(Ls.kp hl' kp:Heap.IsList h' l _).typeIs (s:=S σ h' t);refine w_b (wpAny_typeOf hLT ?_);refine w_b (wpAny_typeOf hT ?_);refine KFB.if_not (by decide) ?_;refine w_b (wpAny_typeOf hT ?_);refine KFB.if_not (by decide) ?_;refine w_b (p_list W' (hl'.kp kp) fun I o h'' ho W'' kp'=>?_);refine w_p ⟨plainId_quiet plain_fkl _,df_loop KF Z hz hl hx hh (by lia) (fun h' t' ep'=>kOk d h' t' ep' (by rw [ed];exact W.ne1 Z)) kEr ys.length 0 h'' t 0 o rfl (Nat.zero_le _) ho (by intro y hy;cases hy) ?_⟩;exact W''
end
end
section
noncomputable def fkb:Obj:={ cls:=.type "builtin_function_or_method",data:=.fields #[.builtin "dict.fromkeys",.type "dict"] }
theorem type_fk:typeOf (.builtin "dict.fromkeys")=pure (.type "classmethod_descriptor"):=by show builtinType _=_;rw [builtinType_eq_fast];k_ne
theorem owner_fk:(kfb_private% "ownerAndName") "dict.fromkeys"=("dict","fromkeys"):=by first|decide+kernel|k_ne
theorem check_fk {l:zV}:checkBoundCall "dict.fromkeys" ⟨[.type "dict",.ref l],[]⟩=pure ():=by first|k_ne|rfl
theorem find_fk {P:Params}:findCls (KF PW P) (.type "dict") (.type "type") (PySem.Str.ofString "fromkeys")=some (.get (.builtin "classmethod_descriptor.__get__") (.builtin "dict.fromkeys") .none (.type "dict")):=by k_ne
section
variable {w:zT}{K:Kd w}{M:Model}{A:zU}{E:VP}{σ:zX}{h₀ h:Heap}{t:Nat}{L:zV}{m:NM}{news:Led}{ys:List El2}{env:Env}
theorem run_getfk {s:zX}{P:Fin→zX→Prop}(h:P (.done (.ret (.ref s.heap.objs.size))) { s with heap:=s.heap.push fkb }):
 zZ M A (Builtin.«classmethod_descriptor.__get__» ⟨[.builtin "dict.fromkeys",.none,.type "dict"],[]⟩) P E s:=by
 unfold Builtin.«classmethod_descriptor.__get__»;refine w_b (yK (a:=(.builtin "dict.fromkeys",none,some (.type "dict"))) (by first|rfl|k_ne) ?_);simp -iota only [owner_fk];refine w_b (yK (a:=.type "dict") rfl ?_);refine w_b (yK (a:=true) type_dict ?_);refine KFB.if_not rfl ?_;refine w_b (yK (a:=true) PySem.F.kt_sub_dict ?_);refine KFB.if_not rfl ?_;exact w_b (yJ (w_p h))
theorem g_fk {pl:Sem Bool}{Q:zY×List zY→zX→Prop}(Z:Site w A L h₀) (W:Wk h₀ L h m news)
 (k:∀ x h' t',Wk h₀ L h' m ((x,fkb)::news)→Q (.ref x,[]) (S σ h' t')):
 zZ (zW PW w) A (getMethod (.type "dict") (PySem.Str.ofString "fromkeys") pl) Q E (S σ h t):=by
 have X:=W.inK Z;have hstub:opaqueClassAbove (.type "dict")=pure none:=by unfold opaqueClassAbove;dsimp only;rw [show Manifest.isStub "dict"=false by decide+kernel];rfl
 have ht:typeOf (.type "dict")=pure (.type "type"):=by first|rfl|k_ne
 have L0:Looks (zW PW w) (S σ h t).heap (typeOf (.type "dict")) (.type "type"):=Looks.of_pure ht;have hg:findIn (KF PW w.params) (.type "type") "__getattribute__"=some (some (.builtin "type.__getattribute__")):=type_tga;unfold getMethod specialOf;refine w_b (w_b (L0.here ((looks_findIn X hg).here ?_)));dsimp only;rw [if_pos canon_tga];refine w_b (w_m (Q:=fun v=>Q (v,[])) (E:=E) ?_ (fun _ _ z=>w_p z) fun _ _ z=>z);have LO:Looks (zW PW w) (S σ h t).heap (opaqueClassAbove (.type "dict")) none:=Looks.of_pure hstub;refine cls_open X LO L0 hg (looks_hook X (r:=none) (by rfl)) (by show subIn (KF PW w.params) _ _=_;rfl) find_fk ?_;show zZ _ _ (holding [.builtin "dict.fromkeys"] (call (.builtin "classmethod_descriptor.__get__") [.builtin "dict.fromkeys",.none,.type "dict"]) >>=fun v=>ret v) _ _ _
 refine w_b (w_h (w_c KFB.slot_get type_fk KFB.entry_get (run_getfk ⟨_,rfl,w_p (w_p (k _ _ _ (W.new fkb rfl)))⟩) (KFB.args_get _ _ _)))
theorem callWith_fk {s:zX}{pos:Pos}{u:zV}{first:List zY}{args:List (Bool×Sem zY)}{Q:VP}(hplain:args.any (·.1)=false)
 (h:zZ M A (evalArgs (.ref u) true args []) (fun x s₁=>s₁.heap.get? u=some fkb∧zZ M A (call (.ref u) (first++x.pos) x.kw) Q E s₁) E s):zZ M A (callWith pos (.ref u) first args []) Q E s:=by
 unfold callWith;refine w_b (w_h (w_m h (fun x s₁ h₁=>w_b (wpAny_standAt ?_)) fun _ _ x=>x));obtain ⟨ho,hcall⟩:=h₁;rw [hplain,List.any_nil,Bool.or_false];refine w_b (m:=keeperOf (.ref u)) ?_;unfold keeperOf;refine w_b (wpAny_load ho ?_);simp -iota only [fkb,show (Value.type "builtin_function_or_method" !=Value.type "method")=true by decide,show (Value.type "builtin_function_or_method"==Value.type "builtin_function_or_method"||Value.type "builtin_function_or_method"==Value.type "method-wrapper")=true by decide,if_true];refine w_p ?_;exact w_b (w_m hcall (fun r s₂ hr=>w_b (w_h (wpAny_point (w_p hr)))) fun _ _ x=>x)
theorem c_fk {s:zX}{pos:Pos}{u:zV}{e:Expr}{rest:List Expr}{Q:VP}
 (he:zR (e::rest) env=(false,eval e env)::zR rest env) (hplain:(backTo pos (zR rest env)).any (·.1)=false)
 (h:zZ M A (spliced (backTo pos (zR (e::rest) env))) (fun vs s₁=>s₁.heap.get? u=some fkb∧zZ M A (call (.ref u) vs) Q E s₁) E s):
 zZ M A (callWith pos (.ref u) [] (backTo pos (zR (e::rest) env)) []) Q E s:=by
 rw [he] at h ⊢;refine callWith_fk (by show (false||(backTo pos (zR rest env)).any (·.1))=false;rw [hplain];rfl) ?_;exact Calls.evalArgs_plain h
theorem call_fk {x l:zV}{Q:VP}(KF:KdF K) (Z:Site w A L h₀) (W:Wk h₀ L h m ((x,fkb)::news)) (hz:ys.length≤100) (hl:Ls h₀ l (ys.map (·.1))) (hx:AsK K h₀ ys) (hu:A.units+95<cLine)
 (kOk:∀ d h' t' ep',d≠1→Wk h₀ L h' m ((d,dob K (rwX (firsts ys)) ep')::(x,fkb)::news)→(∀ y∈ys,K.ok y.2)→Q (.ref d) (S σ h' t'))
 (kEr:∀ h' t' e,Fl A h₀ ((x,fkb)::news) e .new h'→h'.Ns L m→(∃ y∈ys,¬ K.ok y.2)→E (.ref e) (S σ h' t')):
 zZ (zW PW w) A (call (.ref x) [.ref l]) Q E (S σ h t):=by
 have hx0:=W.get (.head _);refine wpAny_call (codeAny_of_tree ?_);show zZ _ A.in1 (callAny (.ref x) ⟨[.ref l],[]⟩) _ _ _
 unfold callAny;refine w_b (wpAny_load (s:=S σ h t) hx0 ?_);simp -iota only [fkb,show (Value.type "builtin_function_or_method"==Value.type "method"||Value.type "builtin_function_or_method"==Value.type "builtin_function_or_method"||Value.type "builtin_function_or_method"==Value.type "method-wrapper")=true by decide,if_true];refine KFB.if_so (by decide) ?_;refine w_b (yK (a:=()) check_fk ?_);refine w_b (w_p (w_p ?_));exact ⟨quiet_fk,m_fromkeys KF Z W hz hl hx (by simpa using Z.hh) (by lia) kOk kEr⟩
end
end
theorem bind_ded {w:zT}{σ:zX}{h h₀:Heap}{t:Nat}{A:zU}{L:zV}{m:NM}{news:Led}{src:zV}(Z:Site w A L h₀) (W:Wk h₀ L h m news):
 BindsTo (S σ h t) (fnOf n14 n14 (dA (st PW 2)) (dB (st PW 2)) (dS (st PW 2)) .none (.ref 22) .none (.str n20 194) none (.ref 28) .none) ⟨[.ref src],[]⟩ [(zQ "params",.ref src),(zQ "unhashable_fallback",.bool false)]:=
 kp_binds (X:=W.inK Z) fun _=>by k_ne
theorem r_dict {w:zT}{A:zU}{L:zV}{h₀ h:Heap}{m:NM}{news:Led}{σ:zX}{t:Nat}{E:VP}{cn cs a ccd cl pos} {Q:VP}(W:Wk h₀ L h m news) (Z:Site w A L h₀) (k:Q (.type "dict") (S σ h t))
 (hk:cs.kind= .function) (hx:(envX cn cs L a ccd cl).kindOf (zQ "dict")=some .globalImplicit):zZ (zW PW w) A (eval (.Name (zQ "dict") pos) (envX cn cs L a ccd cl)) Q E (S σ h t):=
 r_bltin W Z gl_dict bb_dict (by decide) k hk hx (by k_ne)
theorem x_try {w:zT}{A:zU}{s:zX}{env:Env}{body:List Stmt}{h₀:ExceptHandler}{hs:List ExceptHandler}{pos:Pos}{Q:FP}{E:VP}
 (h:zZ (zW PW w) A (execs body env) (fun f s₁=>match f with| .next=>Q .next s₁|f=>Q f s₁)
  (fun e s₁=>zZ (zW PW w) A (noteFrame e env) (fun _ s₂=>zZ (zW PW w) A (setFlight e none) (fun _ s₃=>zZ (zW PW w) A (handleBy e env (h₀::hs)) Q E s₃) E s₂) E s₁) s):
 zZ (zW PW w) A (exec (.Try body (h₀::hs) [] [] pos) env) Q E s:=by
 refine wpAny_Try_except (w_m h (fun f s₁ q=>?_) fun _ _ x=>x);cases f with
 |next=>exact wpAny_execs_nil q
 |_=>exact q
theorem dedup_body {w A L' g h t σ} {K:Kd w}{src:zV}{ys:List El2}{f:zV}{m} {Q:FP}{E:VP}
 (FA:Frm A (envX n14 (dS (st PW 2)) L' f (.ref 28) [])) (sb:SB w A L' g) (KF:KdF K) (Z:Site w A L' g) (W:Wk g L' h m []) (ru:A.units+100<cLine) (hz:ys.length≤100) (hl:Ls g src (ys.map (·.1))) (hx:AsK K g ys)
 (e1:m (zQ "params")=some (.ref src)) (e2:m (zQ "unhashable_fallback")=some (.bool false))
 (k:∀ d h' t' m' own ep',d≠1→Wk g L' h' m' ((d,dob K (rwX (firsts ys)) ep')::own)→(∀ y∈ys,K.ok y.2)→Q (.ret (.ref d)) (S σ h' t'))
 (ke:∀ e d h' t',okd L' d→Fl A g [] e d h'→(∃ y∈ys,¬ K.ok y.2)→E (.ref e) (S σ h' t')):
 zZ (zW PW w) A (execs (dB (st PW 2)) (envX n14 (dS (st PW 2)) L' f (.ref 28) [])) Q E (S σ h t):=by
 with_unfolding_all refine x_cons ?_
 with_reducible refine x_try ?_
 k_go;k_go;k_go;with_reducible refine r_dict W Z ?_ (by k_ne) (by k_ne)
 refine g_fk Z W fun x h₁ t₁ W'=>?_;wtm_at "w";with_reducible refine c_fk (by wtm_at "u") (by wtm_at "u") ?_
 k_go;refine ⟨W.get (.head _),?_⟩;refine call_fk KF Z W hz hl hx (by lia) ?_ ?_
 · intro d h' t' ep' n1 W' hok;exact k _ _ _ _ _ _ n1 W' hok
 · intro h' t' e x1 x2 hbad;have ab:=W.fr.above;have ok:okd L' .new:=trivial;with_reducible refine fl_catch FA sb ab x1 ok x2 ?_ (by k_ne) (by k_ne)
   intro h₂ g' F₂ x3;have W₂:Wk g' L' h₂ m []:=⟨F₂,fun p hp=>absurd hp List.not_mem_nil,List.nodup_nil⟩;replace W:=W₂;with_reducible refine x_cons ?_
   with_reducible refine x_if ?_
   with_reducible refine i_not ?_
   with_reducible refine i_plain ?_ (by wtm_at "u")
   k_go;k_go;rw [Bool.not_false];with_reducible refine ite_tt ?_
   with_reducible refine x_cons ?_
   refine x_bare (by rfl) x3 fun h₄ x4 u=>?_;exact fl_loop FA (by rfl) x4 (by rfl) fun h₅ x5 u'=>ke _ _ _ _ (by rfl) (x5.sub fun q hq=>absurd hq List.not_mem_nil) hbad
theorem dedup_spec {w A L h₀ h t σ m news} {K:Kd w}{src:zV}{ys:List El2}{Q E:VP}
 (KF:KdF K) (sb:SB w A L h₀) (Z:Site w A L h₀) (W:Wk h₀ L h m news) (room:A.depth<zS) (ru:A.units+110<cLine) (hz:ys.length≤100) (hl:Ls h src (ys.map (·.1))) (hx:AsK K h ys)
 (k:∀ d h' t' own ep',d≠1→Wk h₀ L h' m ((d,dob K (rwX (firsts ys)) ep')::(own++news))→Kp h h'→(∀ y∈ys,K.ok y.2)→Q (.ref d) (S σ h' t'))
 (ke:∀ e h' t',Fl A h₀ news e .fly h'→h'.Ns L m→(∃ y∈ys,¬ K.ok y.2)→E (.ref e) (S σ h' t')):
 zZ (zW PW w) A (call (.ref 29) [.ref src]) Q E (S σ h t):=by
 refine fn_genE (mu:=[]) (rest:=news) (binds:=[(zQ "params",.ref src),(zQ "unhashable_fallback",.bool false)]) [] (∃ y∈ys,¬ K.ok y.2) Z W room (by rfl) (by k_ne) (bind_ded Z W) (locs (by k_ne)) (by decide) (by k_ne) (by k_ne) (by k_ne)
  (fun e h' t' x y hbad=>ke e h' t' x y hbad) fun L' h₁ t₁ et FA SBf Z' W'=>
  dedup_body (K:=K) (src:=src) (ys:=ys) FA (SBf sb) KF Z' W' (by show A.units+3+100<_;lia) hz hl hx (by k_ne) (by k_ne) (fun d h' t' m' own ep' n1 W₂ hok=>?_) (fun e d h' t' hd x hb=>⟨e,d,h',t',rfl,rfl,hd,x,hb⟩)
 exact ⟨h',t',_,_,rfl,W₂,fun W₃=>k d h' t' own ep' n1 W₃ W₂.kp hok⟩
section
def RawD (h:Heap) (d:zV) (es:Array DictEntry) (ep:Nat):Prop:=∃ o,h.get? d=some o∧o.cls= .type "dict"∧o.data= .dict es ep
noncomputable def kit (d:zV) (i n ep:Nat):Obj:={ cls:=.type "dict_keyiterator",data:=.fields #[.ref d,.int i 0,.int n 0,.int ep 0] }
section
variable {w:zT}{A:zU}{E:VP}{s:zX}{d it:zV}{es:Array DictEntry}{ep:Nat}
theorem RawD.typeIs (x:RawD s.heap d es ep):s.TypeIs (.ref d) "dict":=let ⟨o,ho,hc,_⟩:=x;⟨o,ho,hc⟩
theorem raw_iter {Q:VP}(hd:d≠1) (hm:RawD s.heap d es ep) (k:Q (.ref s.heap.objs.size) { s with heap:=s.heap.push (kit d 0 es.size ep) }):zZ (zW PW w) A (pyIter (.ref d)) Q E s:=by
 have hT:=hm.typeIs;obtain ⟨o,ho,hc,hdat⟩:=hm;refine wpAny_pyIter_slot hT PySem.F.slot_dict_iter (w_c PySem.F.slot_dict_iter hT PySem.F.entry_dict_iter ?_ (PySem.F.args_dict_iter_1 _));unfold Builtin.«dict.__iter__»;refine w_b ?_;unfold Builtin.Dict.dictSlotNone;refine w_b (wpAny_notOrdered_dict hT ?_);show zZ _ _ (pure (Value.ref d)) _ _ s
 refine w_p ?_;show zZ _ _ (Builtin.Dict.showsAll d >>=_) _ _ s
 unfold Builtin.Dict.showsAll;rw [if_neg (by simpa [sysModules] using hd)];refine w_b (w_p ?_);refine w_b (wpAny_dictEntries ho hdat ?_);refine w_b (wpAny_dictEpoch ho hdat ?_);refine w_b (yJ (w_p ⟨_,rfl,"dict_keyiterator",_,⟨_,yO _ rfl,rfl⟩,PySem.F.slot_dict_keyiterator_next.lookup,?_⟩));simpa [rawInt,kit] using k
theorem raw_view {v:zV}{Q:VP}(hv:s.heap.get? v=some { cls:=.type "dict_keys",data:=.fields #[.ref d] }) (hm:RawD s.heap d es ep) (k:Q (.ref s.heap.objs.size) { s with heap:=s.heap.push (kit d 0 es.size ep) }):zZ (zW PW w) A (pyIter (.ref v)) Q E s:=by
 have hvT:s.TypeIs (.ref v) "dict_keys":=⟨_,hv,rfl⟩;obtain ⟨o,ho,hc,hdat⟩:=hm;refine wpAny_pyIter_slot hvT kdl_slot_keys_iter (w_c kdl_slot_keys_iter hvT kdl_entry_keys_iter ?_ (kdl_args_keys_iter _));unfold Builtin.«dict_keys.__iter__»;refine w_b (w_p ?_);refine w_b ?_;unfold Builtin.Dict_items.dictOf;refine w_b (wpAny_field hv rfl (x:=.ref d) rfl (w_p ?_));refine w_b ?_;unfold Builtin.Dict_items.newIterator;refine w_b (wpAny_dictEntries ho hdat ?_);refine w_b (wpAny_dictEpoch ho hdat ?_);have hown:Builtin.Dict_items.ownsTuple "dict_keyiterator"=false:=by decide
 simp only [hown,yZ,if_false];refine yJ (w_p ⟨_,rfl,"dict_keyiterator",_,⟨_,yO _ rfl,rfl⟩,PySem.F.slot_dict_keyiterator_next.lookup,?_⟩);simpa [rawInt,kit] using k
theorem raw_next {i:Nat}{e:DictEntry}{Q:Option zY→zX→Prop}(ho:s.heap.get? it=some (kit d i es.size ep)) (hm:RawD s.heap d es ep) (hx:es[i]? =some e)
 (k:∀ h',h'.get? it=some (kit d (i+1) es.size ep)→Heap.SameBut it s.heap h'→Q (some e.key) { s with heap:=h' }):zZ (zW PW w) A (pyNext (.ref it)) Q E s:=by
 have hit:s.TypeIs (.ref it) "dict_keyiterator":=⟨_,ho,rfl⟩;obtain ⟨od,hod,hcd,hdd⟩:=hm;unfold pyNext
 refine w_b (wpAny_attempt (yH (name:=zQ "__next__") hit PySem.F.slot_dict_keyiterator_next
  (w_c PySem.F.slot_dict_keyiterator_next hit PySem.F.entry_dict_keyiterator_next ?_ (PySem.F.args_dict_keyiterator_next_1 _))))
 refine w_b (w_p ?_);refine w_b ?_;refine w_b ?_
 first|refine w_b (wpAny_typeNameOfWhole_keyiter hit (w_p ?_))|refine w_b (wpAny_typeNameOf_keyiter hit (w_p ?_))
 refine w_b (wpAny_fieldsOf ho rfl ?_);have hown:Builtin.Dict_items.ownsTuple "dict_keyiterator"=false:=by decide
 rw [hown,if_neg zA];show zZ _ _ (if (Value.ref d==Value.none)=true then _ else _) _ _ s
 rw [if_neg (show ¬ ((Value.ref d==Value.none)=true) from zA)];refine w_b (w_p ?_);refine w_b (wpAny_dictEntries hod hdd ?_);rw [if_neg (by simp)];refine w_b (w_p ?_);refine w_b (wpAny_dictEpoch hod hdd ?_);rw [if_neg (by simp)];refine w_p ?_;dsimp only;rw [if_neg (show ¬ ((i:Int)<0) from by k_in),yV,hx];refine w_b ?_
 first|refine w_b (wpAny_typeNameOfWhole_keyiter hit (w_p ?_))|refine w_b (wpAny_typeNameOf_keyiter hit (w_p ?_))
 refine w_b (wpAny_isOneOf_keyiter hit ?_);show zZ _ _ (setField (.ref it) 1 (rawInt ((i:Int)+1)) >>=_) _ _ s
 refine w_b (wpAny_setField ho rfl (by simp) ?_)
 have h1:(s.heap.update it (Obj.mapFields (·.setIfInBounds 1 (rawInt ((i:Int)+1))))).get? it=some (kit d (i+1) es.size ep):=by
  refine (yL _ ho rfl).trans ?_;simp [kit,Obj.mapFields,rawInt]
 refine w_b (w_h ?_);refine w_b (wpAny_isOneOf_keyiter (s:={ s with heap:=s.heap.update it (Obj.mapFields (·.setIfInBounds 1 (rawInt ((i:Int)+1)))) }) ⟨_,h1,rfl⟩ ?_);show zZ _ _ (pure e.key) _ _ _
 exact w_p (w_p ⟨_,rfl,w_p (k _ h1 (l_u ..))⟩)
theorem raw_end {i:Nat}{Q:Option zY→zX→Prop}(hh:A.handled=none) (ho:s.heap.get? it=some (kit d i es.size ep)) (hm:RawD s.heap d es ep) (hx:es[i]? =none)
 (k:∀ h',Heap.ExtBut it s.heap h'→Q none { s with heap:=h' }):zZ (zW PW w) A (pyNext (.ref it)) Q E s:=by
 have hit:s.TypeIs (.ref it) "dict_keyiterator":=⟨_,ho,rfl⟩;obtain ⟨od,hod,hcd,hdd⟩:=hm;unfold pyNext
 refine w_b (wpAny_attempt (yH (name:=zQ "__next__") hit PySem.F.slot_dict_keyiterator_next
  (w_c PySem.F.slot_dict_keyiterator_next hit PySem.F.entry_dict_keyiterator_next ?_ (PySem.F.args_dict_keyiterator_next_1 _))))
 refine w_b (w_p ?_);refine w_b ?_;refine w_b ?_
 first|refine w_b (wpAny_typeNameOfWhole_keyiter hit (w_p ?_))|refine w_b (wpAny_typeNameOf_keyiter hit (w_p ?_))
 refine w_b (wpAny_fieldsOf ho rfl ?_);have hown:Builtin.Dict_items.ownsTuple "dict_keyiterator"=false:=by decide
 rw [hown,if_neg zA];show zZ _ _ (if (Value.ref d==Value.none)=true then _ else _) _ _ s
 rw [if_neg (show ¬ ((Value.ref d==Value.none)=true) from zA)];refine w_b (w_p ?_);refine w_b (wpAny_dictEntries hod hdd ?_);rw [if_neg (by simp)];refine w_b (w_p ?_);refine w_b (wpAny_dictEpoch hod hdd ?_);rw [if_neg (by simp)];refine w_p ?_;dsimp only;rw [if_neg (show ¬ ((i:Int)<0) from by k_in),yV,hx];refine w_b ?_
 first|refine w_b (wpAny_typeNameOfWhole_keyiter hit (w_p ?_))|refine w_b (wpAny_typeNameOf_keyiter hit (w_p ?_))
 show zZ _ _ (setField (.ref it) 0 .none >>=_) _ _ s
 refine w_b (wpAny_setField ho rfl (by simp) ?_);show zZ _ _ (newExc (.type "StopIteration") [] >>=_) _ _ _
 refine w_b ?_;unfold newExc newTuple;refine w_b (yJ ?_ (by size_fits));refine w_b (m:=firstArgMember _ _) (yK (a:=Value.none) (by first|rfl|(simp only [firstArgMember];rfl)) ?_);refine yJ ?_ (by size_fits);unfold raiseNew;refine w_b (wpAny_handled ?_);rw [show A.in1.handled=none from hh];refine w_b (w_p (wpAny_throw ?_));refine w_b (wpAny_isInstance (T:="StopIteration") (b:=true) ⟨_,yO _ rfl,rfl⟩ isSubtype_stop ?_);exact w_p (k _ (((l_u ..).extBut.push _).push _))
theorem raw_self {i n:Nat}{Q:VP}(ho:s.heap.get? it=some (kit d i n ep)) (h:Q (.ref it) s):zZ (zW PW w) A (pyIter (.ref it)) Q E s:=
 wpAny_pyIter_keyiter (it:=it) (d:=d) (i:=i) (n:=n) (ep:=ep) ⟨_,ho,rfl,rfl⟩ h
theorem raw_walks (hh:A.handled=none) (I:zV) (hne:d≠I) (es:Array DictEntry) (ep:Nat):
 Walks PW w A I [I,d] [I] es.size (fun i v=>∃ e,es[i]? =some e∧v=e.key) (fun i h=>h.get? I=some (kit d i es.size ep)∧RawD h d es ep) where
 sub:=fun b hb=>by simp at hb;simp [hb]
 frame:=fun _ _ _ st hk=>⟨hk I (by simp) _ st.1,let ⟨o,ho,r⟩:=st.2;⟨o,hk d (by simp) o ho,r⟩⟩
 item:=fun i s Q E hi st hQ=>by
  obtain ⟨e,hx⟩:∃ p,es[i]? =some p:=⟨es[i],by simp [hi]⟩;refine raw_next st.1 st.2 hx fun h' hit' hs'=>?_;exact hQ e.key h' s.toks ⟨e,hx,rfl⟩ ⟨hit',let ⟨o,ho,r⟩:=st.2;⟨o,(hs'.2 d hne).trans ho,r⟩⟩ fun b o hb e=>hs'.extBut b o (fun h=>hb (by simp [h])) e
 done:=fun s Q E st hQ=>raw_end hh st.1 st.2 (by simp) fun h' he'=>hQ h' s.toks fun b o hb e=>he' b o (fun h=>hb (by simp [h])) e
 self:=fun _ _ _ _ st hQ=>raw_self st.1 hQ
theorem raw_src (lo:d≠1):KdlSrc PW w "dict" d d es.size (fun i v=>∃ e,es[i]? =some e∧v=e.key) (fun h=>RawD h d es ep) where
 type:=fun _ hm=>hm.typeIs
 there:=fun _ hm=>let ⟨o,ho,_⟩:=hm;⟨zB ho,zB ho⟩
 keep:=fun _ _ hm hk=>let ⟨o,ho,r⟩:=hm;⟨o,hk d (.inl rfl) o ho,r⟩
 notList:=by decide
 notTuple:=by decide
 hint:=fun _ _ _ _ hm hq=>kdl_hint_dict hm.typeIs hq
 iter:=fun _ s hh hm=>⟨_,_,(fun _ _ hq=>raw_iter lo hm hq),raw_walks hh _ (Nat.ne_of_lt (let ⟨o,ho,_⟩:=hm;zB ho)) es ep,⟨yO _ rfl,let ⟨o,ho,r⟩:=hm;⟨o,Heap.get?_push_of_some _ ho,r⟩⟩⟩
end
section
variable {w:zT}{K:Kd w}{A:zU}{E:VP}{σ:zX}{h₀ h:Heap}{t:Nat}{L:zV}{m:NM}{news:Led}{d:zV}{xs:List Rw}{ep:Nat}
theorem raw_dob (ho:h.get? d=some (dob K xs ep)):RawD h d (ents K xs) ep:=⟨_,ho,rfl,rfl⟩
theorem list_push {α:Type}{l:zV}{o:Obj}{h':Heap}(W:Wk h₀ L h m news) (hk:∀ b o,h.get? b=some o→h'.get? b=some o) (e:h'.get? h.objs.size=some o):Wk h₀ L h' m ((h.objs.size,o)::news):=by
 have W':=W.grow hk;refine ⟨W'.fr,fun p hp=>?_,?_⟩
 · rcases zL.mp hp with rfl|hp
   · refine ⟨e,fun q=>?_,?_⟩
     · obtain ⟨oL,es,ep,hL,_⟩:=W.fr.ns;exact absurd (zB hL) (by rw [← q];exact yY _)
     · cases z:h₀.get? h.objs.size with
       |none=>rfl
       |some o=>exact absurd (zB (W.fr.keep _ _ z)) (yY _)
   · exact W'.nw p hp
 · rw [zM,zJ];refine ⟨fun q=>?_,W.nd⟩;obtain ⟨p,hp,e⟩:=zN.mp q;exact absurd (zB (W.nw p hp).1) (by rw [e];exact yY _)
theorem c_listD {Q:VP}(hh:A.handled=none) (W:Wk h₀ L h m news) (hm:(d,dob K xs ep)∈news) (h1:d≠1) (hz:xs.length≤1000)
 (k:∀ a n h' t',Wk h₀ L h' m ((a,lob (xs.map (·.2.1)) n)::news)→Kp h h'→Q (.ref a) (S σ h' t')):zZ (zW PW w) A (call (.type "list") [.ref d]) Q E (S σ h t):=by
 have ho:=W.get hm;refine kdl_call (s:=S σ h t) (raw_src (es:=ents K xs) (ep:=ep) h1) hh (raw_dob ho) (by rw [ents_size,yF];lia) fun h' tk acc' c' hk hD hacc=>?_
 have e:acc'=(xs.map (·.2.1)).toArray:=by
  apply Array.ext_getElem?
  intro i;have hs:=hacc.1;rw [ents_size] at hs;by_cases hi:i<xs.length
  · obtain ⟨e,he,hv⟩:=hacc.2 i acc'[i] (by simp [hs,hi]);rw [ents_get] at he;rw [Array.getElem?_eq_getElem (by lia),hv];simp only [List.getElem?_toArray,zF];cases hx:xs[i]? with
    |none=>rw [hx] at he;cases he
    |some y=>rw [hx] at he;cases he;rfl
  · rw [Array.getElem?_eq_none (by revert hs hi;k_in),Array.getElem?_eq_none (by rw [zI,zO];lia)]
 subst e;exact k _ c' h' tk (list_push (α:=Unit) (l:=0) W hk hD) hk
end
end
section
def L1 (A:zU):Prop:=∃ env,A.frames=some [env]
section
variable {w:zT}{A:zU}{E:VP}{σ:zX}{h₀ h:Heap}{t:Nat}{L:zV}{m:NM}{mu rest keep:Led}{Q:VP}{e:zV}{d:Md}
theorem sb_top (Z:Site w A L h₀) (l1:L1 A):SB w A L h₀:=by
 obtain ⟨⟨A₀,base,outer,env,K,hA,hf,hke⟩,X,T,hh⟩:=Z;obtain ⟨env',q⟩:=l1;rw [q] at hA;obtain ⟨rfl,rfl⟩:=List.cons.inj (l_j hA);exact ⟨A₀,h₀,[],env',⟨K.stack,fun _ _ e=>e,trivial⟩,q,hf,X,T⟩
theorem fl_wk {env':Env}{L':zV}{h':Heap}(Z:Site w A L h₀) (l1:L1 A) (W:Wk h₀ L h m (mu++rest)) (hf':env'.frame=some L') (nL':(gnd h mu).get? L'=none) (hnd:(keep.map (·.1)).Nodup) (x:Fl (A.deeper env') (gnd h mu) keep e d h'):Wk h₀ L h' m (keep++rest):=by
 obtain ⟨⟨A₀,base,outer,env,K,hA,hf,hke⟩,X,T,hh⟩:=Z;obtain ⟨env1,q⟩:=l1;rw [q] at hA;obtain ⟨rfl,rfl⟩:=List.cons.inj (l_j hA);obtain ⟨l',B,a0,x1,x2,x3,x4,x5,x6,x7,x8⟩:=x;have el:l'=[env',env1]:=by rw [yM q] at x1;exact (l_j x1).symm
 subst el
 have nm:∀ b o,h₀.get? b=some o→b∉mu.map (·.1):=fun b o e q=>by
  obtain ⟨p,hp,rfl⟩:=zN.mp q;have:=(W.nw p (l_l _ hp)).2.2;rw [this] at e;cases e
 have up:∀ b o,h₀.get? b=some o→(gnd h mu).get? b=some o:=fun b o e=>gnd_get (W.fr.keep _ _ e) (nm b o e)
 obtain ⟨oL,es,ep,hL,hLd,hLk,hLf⟩:=W.fr.ns
 have nL:L∉mu.map (·.1):=fun q=>by
  obtain ⟨p,hp,e⟩:=zN.mp q;exact (W.nw p (l_l _ hp)).2.1 e
 have hLg:=gnd_get hL nL
 have hL0:h₀.get? L=none:=by
  cases z:h₀.get? L with
  |none=>rfl
  |some o=>exact absurd (Nat.lt_of_lt_of_le (zB z) W.fr.above) (yY _)
 have fr:∀ b o,(gnd h mu).get? b=some o→b≠L→h'.get? b=some o:=fun b o e n=>x5 _ _ (x2 b o e fun z=>by
  obtain ⟨en,he,hf2⟩:=List.mem_filterMap.mp z;simp only [zL,List.not_mem_nil,or_false] at he;rcases he with rfl|rfl
  · rw [hf'] at hf2;obtain rfl:=l_j hf2;rw [nL'] at e;cases e
  · rw [hf] at hf2;exact n (l_j hf2).symm)
 have rg:∀ p∈rest,(gnd h mu).get? p.1=some p.2:=fun p hp=>gnd_get (W.nw p (l_r _ hp)).1 fun q=>by
  obtain ⟨x,hx,e⟩:=zN.mp q;exact W.apart hx hp e
 refine ⟨⟨x4.ns ⟨oL,es,ep,hLg,hLd,hLk,hLf⟩,fun b o e=>fr b o (up b o e) (fun q=>by rw [q,hL0] at e;cases e),W.fr.above⟩,fun p hp=>?_,?_⟩
 · rcases zE.mp hp with hp|hp
   · refine ⟨x5 _ _ (x3 p hp).1,fun q=>?_,?_⟩
     · have:=(x3 p hp).2;rw [q,hLg] at this;cases this
     · cases z:h₀.get? p.1 with
       |none=>rfl
       |some o=>have:=up _ _ z;rw [(x3 p hp).2] at this;cases this
   · have y:=W.nw p (l_r _ hp);exact ⟨fr _ _ (rg p hp) y.2.1,y.2⟩
 · rw [zK,yQ];have hn:=W.nd;rw [zK,yQ] at hn;refine ⟨hnd,hn.2.1,fun a ha b hb e=>?_⟩;obtain ⟨p,hp,rfl⟩:=zN.mp ha;obtain ⟨q,hq,rfl⟩:=zN.mp hb;have:=(x3 p hp).2;rw [e,rg q hq] at this;cases this
theorem fn_try1 {f:zV}{name qual:Str}{params:Arguments}{body:List Stmt}{scope:Scope}{dV kV doc pm cdv ct oc:zY}{an od:Option zV}{osl:Array (Option zY)}{pos:List zY}{kw binds:List (Str×zY)}(keep:Led)
 (Z:Site w A L h₀) (l1:L1 A) (W:Wk h₀ L h m (mu++rest)) (hroom:A.depth<zS)
 (ho:(KF PW w.params).lookup f=some ⟨oc,od,.func (fnOf name qual params body scope dV kV doc pm an cdv ct),osl⟩) (hcd:codeIn (KF PW w.params) cdv qual=true)
 (hbind:BindsTo (S σ h t) (fnOf name qual params body scope dV kV doc pm an cdv ct) ⟨pos,kw⟩ binds) (hloc:∀ y∈binds,scope.names.lookup y.1=some .local)
 (hcell:∀ x∈scope.names,x.2≠ .cell) (hco:scope.isCoroutine=false) (hgen:scope.isGenerator=false) (hk:scope.kind= .function) (hnd:(keep.map (·.1)).Nodup)
 (k:∀ L' h₁ t₁,t₁=t+binds.length→Frm (A.deeper (envX qual scope L' f cdv [])) (envX qual scope L' f cdv [])→SB w (A.deeper (envX qual scope L' f cdv [])) L' (gnd h mu)→Site w (A.deeper (envX qual scope L' f cdv [])) L' (gnd h mu)→Wk (gnd h mu) L' h₁ (fun y=>binds.reverse.lookup y) mu→
  zZ (zW PW w) (A.deeper (envX qual scope L' f cdv [])) (execs body (envX qual scope L' f cdv []))
   (fun fl s'=>(∃ h' t' m' mu',s'=S σ h' t'∧Wk (gnd h mu) L' h' m' mu'∧(Wk h₀ L h' m (mu'++rest)→Q (retv fl) (S σ h' t')))∨
    (∃ h' t' e d,s'=S σ h' t'∧Fl (A.deeper (envX qual scope L' f cdv [])) (gnd h mu) keep e d h'∧(Wk h₀ L h' m (keep++rest)→Q (retv fl) (S σ h' t'))))
   (fun _ _=>False) (S σ h₁ t₁)):
 zZ (zW PW w) A (call (.ref f) pos kw) Q E (S σ h t):=by
 have Z0:=Z;have sb:=sb_top Z l1;obtain ⟨⟨A₀,base,outer,env,B,hA,hf,hke⟩,X,⟨pT,lT,mean,mg,mb,T⟩,hh⟩:=Z;have N:News h₀ L h mu:=fun p hp=>W.nw p (l_l _ hp)
 obtain ⟨FG,BG,st,-⟩:=groundX (R:=fun _ _=>True) (s:=S σ h t) B W.fr N hA hf hke;refine wpAny_call ?_;refine codeAny_call_def (fd:=fnX name qual params body scope [] dV kV doc pm an cdv ct) (body:=body) (binds:=binds) hroom ((X.keeps W.fr.keep) _ _ ho) rfl (T.nolimit.keeps W.fr.keep) (codeRec_of (X.keeps W.fr.keep) hcd) rfl hbind hcell hloc (fun h₁ hns hk₁=>?_) hco hgen hk
 have W₁:Wk (gnd h mu) h.objs.size h₁ (fun y=>binds.reverse.lookup y) mu:=
  ⟨⟨hns,fun b o e=>hk₁ b o (of_hideAll _ e),Nat.le_of_eq (hideAll_size _ _)⟩,
   fun p hp=>⟨hk₁ _ _ (N p hp).1,Nat.ne_of_lt (zB (N p hp).1),hideAll_none _ (l_o hp)⟩,by
   have:=W.nd;rw [zK,yQ] at this;exact this.1⟩
 refine w_m (k h.objs.size h₁ _ rfl ⟨_,yM hA⟩ (sb_call (σ:=σ) (t:=t) W N (by rfl) (fun e l q=>by rw [hA] at q;obtain ⟨rfl,rfl⟩:=(List.cons.inj (l_j q));exact hke) sb) ⟨⟨A,base,env::outer,_,BG,yM hA,rfl,hk⟩,X.keeps st,⟨pT,lT,mean,mg,mb,T.keeps st⟩,hh⟩ W₁) ?_ ?_
 · rintro fl s' (⟨h',t',m',mu',rfl,W',kk⟩|⟨h',t',e,d,rfl,x,kk⟩)
   · have:=kk (W.back W');cases fl <;> exact this
   · have:=kk (fl_wk Z0 l1 W rfl gnd_new hnd x);cases fl <;> exact this
 · intro e s' hf;exact hf.elim
def Tq (σ:zX) (A:zU) (g:Heap) (L:zV) (keep:Led) (Q:FP) (m:NM):VP:=
 fun v s'=>∃ e d h t,v= .ref e∧s'=S σ h t∧okd L d∧Fl A g keep e d h∧h.Ns L m∧∀ h' t',Fl A g keep e .fly h'→Q (.ret .none) (S σ h' t')
theorem x_tryNone {cn:Str}{cs:Scope}{a:zV}{ccd:zY}{ex:Expr}{p1 p2 p3 p4 p5 p6:Pos}{kk:Nat}{Q:FP}(FA:Frm A (envX cn cs L a ccd [])) (sb:SB w A L h₀) (ab:h₀.objs.size≤L)
 (k:zZ (zW PW w) A (eval ex (envX cn cs L a ccd [])) (fun v=>Q (.ret v)) (Tq σ A h₀ L keep Q m) (S σ h t))
 (hk:cs.kind= .function) (hx:(envX cn cs L a ccd []).kindOf (zQ "TypeError")=some .globalImplicit):
 zZ (zW PW w) A (exec (.Try [.Return (some ex) p1] [.ExceptHandler (some (.Name (zQ "TypeError") p2)) none [.Return (some (.Constant .none kk p3)) p4] p5] [] [] p6) (envX cn cs L a ccd [])) Q E (S σ h t):=by
 refine x_try (x_cons (x_retE (w_m k (fun v s₁ q=>x_ret q) ?_)));rintro v s' ⟨e,d,h,t,rfl,rfl,hd,x,hn,q⟩;refine fl_catch FA sb ab x hd hn (fun h' g' F' x'=>?_) hk hx;exact x_cons (x_retE (r_none (x_ret (q _ _ x'))))
end
end
theorem firstsL_body {w A L' g h t σ} {K:Kd w}{src:zV}{ys:List El2}{f:zV}{m} {Q:FP}{E:VP}
 (FA:Frm A (envX n154 (dS (st PW 19)) L' f (.ref 328) [])) (sb:SB w A L' g) (KF:KdF K) (Z:Site w A L' g) (W:Wk g L' h m []) (room:A.depth<zS) (ru:A.units+120<cLine) (hz:ys.length≤100) (hl:Ls g src (ys.map (·.1))) (hx:AsK K g ys)
 (e1:m (zQ "things")=some (.ref src))
 (k:∀ a n h' t' m' own,Wk g L' h' m' ((a,lob ((firsts ys).map (·.1)) n)::own)→(∀ y∈ys,K.ok y.2)→Q (.ret (.ref a)) (S σ h' t'))
 (ke:∀ e h' t',Fl A g [] e .fly h'→(∃ y∈ys,¬ K.ok y.2)→Q (.ret .none) (S σ h' t')):
 zZ (zW PW w) A (execs (dB (st PW 19)) (envX n154 (dS (st PW 19)) L' f (.ref 328) [])) Q E (S σ h t):=by
 have ab:=W.fr.above;with_unfolding_all refine x_cons ?_
 with_reducible refine x_tryNone (m:=m) (keep:=[]) FA sb ab ?_ (by k_ne) (by k_ne)
 kd_p;refine dedup_spec (K:=K) (ys:=ys) KF sb Z W room (by lia) hz (hl.kp W.kp) (hx.kp W.kp) ?_ ?_
 · intro d h' t' own ep' n1 W' kp hok;wtm_at "w";k_go;have hle:=firsts_len ys [];rw [yA] at hle;have e5:(rwX (firsts ys)).map (·.2.1)=(firsts ys).map (·.1):=by unfold rwX;rw [List.map_map];rfl
   refine c_listD (K:=K) Z.hh W (by wtm_at "m") n1 (by unfold rwX firsts;rw [zO];(revert hz hle;k_in)) fun a n h' t' W' kp'=>?_;wtm_at "w";rw [e5] at W;with_reducible refine x_ret ?_
   exact k _ _ _ _ _ _ W hok
 · intro e h' t' x hn hb;exact ⟨e,.fly,h',t',rfl,rfl,trivial,x,hn,fun h'' t'' y=>ke e h'' t'' y hb⟩
theorem firstsL_spec {w A L h₀ h t σ m news} {K:Kd w}{src:zV}{ys:List El2}{Q E:VP}
 (KF:KdF K) (l1:L1 A) (Z:Site w A L h₀) (W:Wk h₀ L h m news) (room:A.depth+2<zS) (ru:A.units+130<cLine) (hz:ys.length≤100) (hl:Ls h src (ys.map (·.1))) (hx:AsK K h ys)
 (k:∀ a n h' t' own,Wk h₀ L h' m ((a,lob ((firsts ys).map (·.1)) n)::(own++news))→(∀ y∈ys,K.ok y.2)→Q (.ref a) (S σ h' t'))
 (ke:∀ h' t',Wk h₀ L h' m news→(∃ y∈ys,¬ K.ok y.2)→Q .none (S σ h' t')):
 zZ (zW PW w) A (call (.ref 329) [.ref src]) Q E (S σ h t):=
 fn_try1 (mu:=[]) (rest:=news) (binds:=[(zQ "things",.ref src)]) [] Z l1 W (by lia) (by rfl) (by k_ne) (BindsTo.of_eq (by k_ne)) (locs (by k_ne)) (by decide) (by k_ne) (by k_ne) (by k_ne) List.nodup_nil
  fun L' h₁ t₁ et FA sb Z' W'=>
  firstsL_body (K:=K) (src:=src) (ys:=ys) FA sb KF Z' W' (by show A.depth+1<_;lia) (by show A.units+3+120<_;lia) hz hl hx (by k_ne) (fun a n h' t' m' own W₂ hok=>.inl ⟨h',t',_,_,rfl,W₂,fun W₃=>k a n h' t' own W₃ hok⟩)
   (fun e h' t' x hb=>.inr ⟨h',t',e,_,rfl,x,fun W₃=>ke h' t' W₃ hb⟩)
section
structure StpT (w:zT) (A:zU) (target:Expr) (it:zY) (n:Nat) (Sd:Heap→Prop) (io:Nat→Led→Prop) (iv:Nat→zY→Led→Prop):Prop where
 item:∀ {i h₀ L h m news own σ t} {Q E:VP},i<n→io i own→Sd h→Wk h₀ L h m (own++news)→
  (∀ own' v h' t',iv i v own'→Wk h₀ L h' m (own'++news)→Q v (S σ h' t'))→
  zZ (zW PW w) A (pyNext it) (fun r s₁=>match r with|none=>False|some v=>zZ (zW PW w) A (letOwnedTupleGo target it v) (fun _ s₂=>Q v s₂) E s₁) E (S σ h t)
 next:∀ {i v own},iv i v own→io (i+1) own
 done:∀ {h₀ L h m news own σ t} {Q:Option zY→zX→Prop}{E:VP},io n own→Sd h→Wk h₀ L h m (own++news)→
  (∀ h' t',Wk h₀ L h' m news→Q none (S σ h' t'))→zZ (zW PW w) A (pyNext it) Q E (S σ h t)
theorem StpT.of {w:zT}{A:zU}{target:Expr}{it:zY}{n:Nat}{Sd:Heap→Prop}{io:Nat→Led→Prop}{val:Nat→zY→Prop}(T:Stp w A it n Sd io val) (ht:∀ v,letOwnedTupleGo target it v=pure ()):
 StpT w A target it n Sd io (fun i v own=>io (i+1) own∧val i v) where
 item:=by
  intro i h₀ L h m news own σ t Q E hi ho hs W k;exact T.item hi ho hs W fun own' v h' t' ho' hv W'=>yK (ht v) (k own' v h' t' ⟨ho',hv⟩ W')
 next:=fun h=>h.1
 done:=T.done
section
variable {w:zT}{A:zU}{E:VP}{σ:zX}{h₀ h:Heap}{t:Nat}{L:zV}{m:NM}{own news:Led}{env:Env}
 {Q:FP}
theorem for_loopX {target it body} {n:Nat}{Sd:Heap→Prop}{io:Nat→Led→Prop}{iv:Nat→zY→Led→Prop}(J:Nat→(NM)→Led→Prop)
 (T:StpT w A target it n Sd io iv)
 (hs:∀ i m' news' own' h',J i m' news'→Wk h₀ L h' m' (own'++news')→Sd h') (j0:J 0 m news) (i0:io 0 own) (W:Wk h₀ L h m (own++news))
 (turn:∀ i v m₁ news₁ own₁ h₁ t₁,i<n→iv i v own₁→J i m₁ news₁→Wk h₀ L h₁ m₁ (own₁++news₁)→
  zZ (zW PW w) A (assign target env v) (fun _ s₂=>zZ (zW PW w) A (execs body env) (Tn σ h₀ L own₁ (J (i+1)) Q) (LE (zW PW w) A A env E) s₂) (LE (zW PW w) A A env E) (S σ h₁ t₁))
 (done:∀ h' t' m' news',J n m' news'→Wk h₀ L h' m' news'→Q .next (S σ h' t')):
 codeAny (zW PW w) A (.forLoop target it body [] env) (FR (zW PW w) A env Q E) (S σ h t):=by
 refine codeAny_forLoop_any (fun c s'=>∃ i h' t' m' news' own',s'=S σ h' t'∧i+c=n∧io i own'∧J i m' news'∧Wk h₀ L h' m' (own'++news')) ?_ n ⟨0,h,t,m,news,own,rfl,by k_in,i0,j0,W⟩;rintro c s' ⟨i,h',t',m',news',own',rfl,hc,hio,hJ,W'⟩;by_cases hi:i<n
 · refine w_m (T.item (E:=LE (zW PW w) A A env E) (Q:=fun v s₂=>zZ (zW PW w) A (assign target env v) (fun _ s₂=>zZ (zW PW w) A (execs body env) (fun f s₃=>match f with
    | .next| .cont=>∃ m,m<c∧∃ i h' t' m' news' own',s₃=S σ h' t'∧i+m=n∧io i own'∧J i m' news'∧Wk h₀ L h' m' (own'++news')
    | .brk=>FR (zW PW w) A env Q E (.ok .next) s₃
    | .ret v=>FR (zW PW w) A env Q E (.ok (.ret v)) s₃) (LE (zW PW w) A A env E) s₂) (LE (zW PW w) A A env E) s₂) hi hio (hs _ _ _ _ _ hJ W') W' fun own₁ v h₁ t₁ hv W₁=>?_) ?_ ?_
   · refine w_m (turn i v m' news' own₁ h₁ t₁ hi hv hJ W₁) (fun _ s₂ h₂=>w_m h₂ (fun f s₃ h₃=>?_) fun _ _ e=>e) fun _ _ e=>e
     cases f with
     |ret v=>exact h₃
     |brk=>exact h₃
     |next=>obtain ⟨h₄,t₄,m₄,news₄,e,W₄,j₄⟩:=h₃;exact ⟨c - 1,by revert hc hi;k_in,i+1,h₄,t₄,m₄,news₄,own₁,e,by revert hc hi;k_in,T.next hv,j₄,W₄⟩
     |cont=>obtain ⟨h₄,t₄,m₄,news₄,e,W₄,j₄⟩:=h₃;exact ⟨c - 1,by revert hc hi;k_in,i+1,h₄,t₄,m₄,news₄,own₁,e,by revert hc hi;k_in,T.next hv,j₄,W₄⟩
   · rintro r s₁ q;cases r with
     |none=>exact q.elim
     |some v=>exact q
   · exact fun _ _ e=>e
 · have hi':i=n:=by (revert hc hi;k_in)
   subst hi';refine T.done hio (hs _ _ _ _ _ hJ W') W' fun h₁ t₁ W₁=>?_;exact wpAny_execs_nil (done h₁ t₁ m' news' hJ W₁)
theorem x_whileE {test body pos} (J:Nat→(NM)→Led→Prop) (R:(NM)→Led→Prop) (n:Nat) (j0:J n m news) (W:Wk h₀ L h m news)
 (turn:∀ c m₁ news₁ h₁ t₁,J c m₁ news₁→Wk h₀ L h₁ m₁ news₁→zZ (zW PW w) A (isTrue test env (eval test env)) (fun b s₂=>if b=true then zZ (zW PW w) A (execs body env) (Tw σ h₀ L (fun m' news'=>∃ c',c'<c∧J c' m' news') R Q) (LE (zW PW w) A A env E) s₂ else Lv σ h₀ L R s₂) (LE (zW PW w) A A env E) (S σ h₁ t₁))
 (done:∀ h' t' m' news',R m' news'→Wk h₀ L h' m' news'→Q .next (S σ h' t')):
 zZ (zW PW w) A (exec (.While test body [] pos) env) Q E (S σ h t):=by
 refine wpAny_While (codeAny_whileLoop (fun c s'=>∃ h' t' m' news',s'=S σ h' t'∧J c m' news'∧Wk h₀ L h' m' news') ?_ n ⟨h,t,m,news,rfl,j0,W⟩);rintro c s' ⟨h',t',m',news',rfl,hJ,W'⟩;refine w_m (turn c m' news' h' t' hJ W') (fun b s₂ h₂=>?_) fun _ _ e=>e
 cases b with
 |false=>obtain ⟨h',t',m',news',rfl,W',r⟩:=h₂;exact wpAny_execs_nil (done _ _ _ _ r W')
 |true=>
  refine w_m h₂ (fun f s₃ h₃=>?_) fun _ _ e=>e
  cases f with
  |ret v=>exact h₃
  |brk=>obtain ⟨h',t',m',news',rfl,W',r⟩:=h₃;exact done _ _ _ _ r W'
  |next=>obtain ⟨h₄,t₄,m₄,news₄,e,W₄,c',hc',j₄⟩:=h₃;exact ⟨c',hc',h₄,t₄,m₄,news₄,e,j₄,W₄⟩
  |cont=>obtain ⟨h₄,t₄,m₄,news₄,e,W₄,c',hc',j₄⟩:=h₃;exact ⟨c',hc',h₄,t₄,m₄,news₄,e,j₄,W₄⟩
end
section
variable {w:zT}{A:zU}
theorem stp_keys {K:Kd w}{xs:List Rw}{ep:Nat}(hh:A.handled=none) (I d:zV):Stp w A (.ref I) xs.length (fun h=>h.get? d=some (dob K xs ep)) (fun i own=>own=[(I,kit d i xs.length ep)]) (fun i v=>xs[i]?.map (·.2.1)=some v) where
 item:=by
  rintro i h₀ L h m news own σ t Q E hi rfl hd W k;obtain ⟨x,hx⟩:∃ x,xs[i]? =some x:=⟨xs[i],by simp [hi]⟩;refine raw_next (s:=S σ h t) (it:=I) (d:=d) (es:=ents K xs) (ep:=ep) (i:=i) (e:=ent K x) (by rw [ents_size];exact W.get (.head _)) (raw_dob hd) (by rw [ents_get,hx];rfl) fun h' hit hs=>?_;rw [ents_size] at hit;exact k _ _ h' _ rfl (by rw [hx];rfl) (W.upd hs hit)
 done:=by
  rintro h₀ L h m news own σ t Q E rfl hd W k;exact raw_end (s:=S σ h t) (it:=I) (d:=d) (es:=ents K xs) (ep:=ep) (i:=xs.length) hh (by rw [ents_size];exact W.get (.head _)) (raw_dob hd) (by rw [ents_get];simp) fun h' hs=>k h' _ (W.off hs)
noncomputable def enob (it:zV) (i:Nat) (old:zY):Obj:={ cls:=.type "enumerate",dict:=none,data:=.fields #[.none,.bool false,.ref it,rawInt i,.none,old],slots:=#[] }
theorem Wk.many {h₀ L h h' m a b o o' p p' news} (W:Wk h₀ L h m ((a,o)::(b,p)::news)) (hk:∀ c x,c≠a→c≠b→h.get? c=some x→h'.get? c=some x) (ea:h'.get? a=some o') (eb:h'.get? b=some p'):Wk h₀ L h' m ((a,o')::(b,p')::news):=by
 have za:=W.nw (a,o) (.head _);have zb:=W.nw (b,p) (.tail _ (.head _));have nd:=W.nd;simp only [zM,zJ] at nd;obtain ⟨oL,es,ep,hL,r⟩:=W.fr.ns;refine ⟨⟨⟨oL,es,ep,hk _ _ (Ne.symm za.2.1) (Ne.symm zb.2.1) hL,r⟩,fun c x e=>hk _ _ (fun q=>?_) (fun q=>?_) (W.fr.keep _ _ e),W.fr.above⟩,fun q hq=>?_,W.nd⟩
 · have:=za.2.2;rw [← q,e] at this;cases this
 · have:=zb.2.2;rw [← q,e] at this;cases this
 · rcases zL.mp hq with rfl|hq
   · exact ⟨ea,za.2⟩
   · rcases zL.mp hq with rfl|hq
     · exact ⟨eb,zb.2⟩
     · have z:=W.nw q (.tail _ (.tail _ hq));exact ⟨hk _ _ (fun e=>nd.1 (by rw [← e];exact List.mem_cons_of_mem _ (l_o hq))) (fun e=>nd.2.1 (by rw [← e];exact l_o hq)) z.1,z.2⟩
theorem stp_enum (hh:A.handled=none) (I it l:zV) (vs:List zY) {elts:List Expr}{x1} {pos:Pos}:StpT w A (.Tuple elts x1 pos) (.ref I) vs.length (fun h=>Ls h l vs)
 (fun i own=>∃ old o junk,own=(it,o)::(I,enob it i old)::junk∧liob l i o)
 (fun i v own=>∃ old o junk T tk x,own=(it,o)::(I,enob it (i+1) old)::(T,tob [.int i tk,x] 0)::junk∧liob l (i+1) o∧v= .ref T∧vs[i]? =some x) where
 item:=by
  rintro i h₀ L h m news own σ t Q E hi ⟨old,o,junk,rfl,ho⟩ hl W k;obtain ⟨x,hx⟩:∃ v,vs[i]? =some v:=⟨vs[i],by simp [hi]⟩;have nd:=W.nd;simp only [List.cons_append,zM,zJ] at nd;have hne:I≠it:=fun e=>nd.1 (by rw [e];exact List.mem_cons_self)
  refine wpAny_pyNext_enum_item (s:=S σ h t) (e:=I) (it:=it) (l:=l) (i:=i) (old:=old) (x:=x) (W.get (.tail _ (.head _))) ⟨o,W.get (.head _),ho⟩ hl (by simpa using hx) hne fun h' he' hit' hT hz hk=>?_;obtain ⟨o',ho',hl'⟩:=hit';refine wpAny_letOwnedTupleGo_enum he' fun h'' he'' hs''=>?_;refine k ((it,o')::(I,enob it (i+1) x)::(h.objs.size,tob [.int i t,x] 0)::junk) (.ref h.objs.size) h'' _ ⟨x,o',junk,h.objs.size,t,x,rfl,hl',rfl,hx⟩ ?_;have W1:Wk h₀ L h' m ((it,o')::(I,{ cls:=.type "enumerate",dict:=none,data:=.fields #[rawInt h.objs.size,.bool false,.ref it,rawInt ((i:Int)+1),.none,x],slots:=#[] })::(junk++news)):=W.many (fun c y n1 n2 e=>hk c y n2 n1 e) ho' he'
  have W2:Wk h₀ L h' m ((h.objs.size,tob [.int i t,x] 0)::(it,o')::(I,{ cls:=.type "enumerate",dict:=none,data:=.fields #[rawInt h.objs.size,.bool false,.ref it,rawInt ((i:Int)+1),.none,x],slots:=#[] })::(junk++news)):=by
   refine ⟨W1.fr,fun p hp=>?_,?_⟩
   · rcases zL.mp hp with rfl|hp
     · refine ⟨hT,fun q=>?_,?_⟩
       · obtain ⟨oL,es,ep,hL,_⟩:=W.fr.ns;exact absurd (zB hL) (by rw [← q];exact yY _)
       · cases z:h₀.get? h.objs.size with
         |none=>rfl
         |some o=>exact absurd (zB (W.fr.keep _ _ z)) (yY _)
     · exact W1.nw p hp
   · rw [zM,zJ];refine ⟨fun q=>?_,W1.nd⟩;have:h.objs.size∈((it,o)::(I,enob it i old)::(junk++news)).map (·.1):=q;obtain ⟨p,hp,e⟩:=zN.mp this;exact absurd (zB (W.nw p hp).1) (by rw [e];exact yY _)
  have he3:h''.get? I=some (enob it (i+1) x):=by
   have e1:rawInt ((i:Int)+1)=rawInt ((i+1:Nat):Int):=by congr 1
   have e2:h''.get? I=some { cls:=.type "enumerate",dict:=none,data:=.fields #[.none,.bool false,.ref it,rawInt ((i:Int)+1),.none,x],slots:=#[] }:=he'';rw [e1] at e2;exact e2
  have W3:Wk h₀ L h'' m ((I,enob it (i+1) x)::(it,o')::(h.objs.size,tob [.int i t,x] 0)::(junk++news)):=
   (W2.perm (news':=(I,_)::(it,o')::(h.objs.size,tob [.int i t,x] 0)::(junk++news)) (by wtm_at "p")).upd hs'' he3
  exact W3.perm (by wtm_at "p")
 next:=by
  rintro i v own ⟨old,o,junk,T,tk,x,rfl,ho,rfl,hx⟩;exact ⟨old,o,_,rfl,ho⟩
 done:=by
  rintro h₀ L h m news own σ t Q E ⟨old,o,junk,rfl,ho⟩ hl W k;refine wpAny_pyNext_enum_end (s:=S σ h t) (e:=I) (it:=it) (l:=l) (i:=vs.length) (old:=old) hh (W.get (.tail _ (.head _))) ⟨o,W.get (.head _),ho⟩ hl (by simp) fun h' hs=>k h' _ ?_
  exact ((Wk.off W hs).drop (by simp))
theorem c_enum {h₀ L h m news σ t} {E:VP}{l:zV}{vs:List zY}{Q:VP}(W:Wk h₀ L h m news) {n:Nat}(hl:h.get? l=some (lob vs n))
 (k:∀ I it o h',liob l 0 o→Wk h₀ L h' m ((it,o)::(I,enob it 0 .none)::news)→Kp h h'→Q (.ref I) (S σ h' t)):zZ (zW PW w) A (call (.type "enumerate") [.ref l]) Q E (S σ h t):=by
 refine call_enumerate_1 (s:=S σ h t) (items:=vs.toArray) (n:=n) hl fun h' he hit hz hk=>?_;obtain ⟨o,ho,hlo⟩:=hit;have W1:=list_push (α:=Unit) (l:=0) W hk ho;refine k (h.objs.size+1) h.objs.size o h' hlo ?_ hk
 have W2:Wk h₀ L h' m ((h.objs.size+1,enob h.objs.size 0 .none)::(h.objs.size,o)::news):=by
  refine ⟨W1.fr,fun p hp=>?_,?_⟩
  · rcases zL.mp hp with rfl|hp
    · refine ⟨he,fun q=>?_,?_⟩
      · obtain ⟨oL,es,ep,hL,_⟩:=W.fr.ns;have q':h.objs.size+1=L:=q;have:=zB hL;rw [← q'] at this;exact yY _ (Nat.lt_trans (Nat.lt_succ_self _) this)
      · cases z:h₀.get? (h.objs.size+1) with
        |none=>rfl
        |some o=>
         have:=zB (W.fr.keep _ _ z);exact absurd (Nat.lt_trans (Nat.lt_succ_self _) this) (yY _)
    · exact W1.nw p hp
  · rw [zM,zJ];refine ⟨fun q=>?_,W1.nd⟩;obtain ⟨p,hp,e⟩:=zN.mp q;rcases zL.mp hp with rfl|hp
    · have e':h.objs.size=h.objs.size+1:=e;exact absurd e'.symm (Nat.succ_ne_self _)
    · have e':p.1=h.objs.size+1:=e;have:=zB (W.nw p hp).1;rw [e'] at this;exact yY _ (Nat.lt_trans (Nat.lt_succ_self _) this)
 exact W2.perm (by wtm_at "p")
end
end
section
def SdE:List DictEntry→List (Str×zY)→Prop
 |[],[]=>True
 |e::es,a::as=>(∃ t,e.key= .str a.1 t)∧e.val=a.2∧SdE es as
 |_,_=>False
noncomputable def putA (name:Str) (v:zY):List (Str×zY)→List (Str×zY)
 |[]=>[(name,v)]
 |a::r=>if a.1==name then (a.1,v)::r else a::putA name v r
noncomputable def getA (name:Str) (as:List (Str×zY)):Option zY:=(as.find? (fun a=>a.1==name)).map (·.2)
def Sd (o:Obj) (as:List (Str×zY)):Prop:=∃ es n,o=PySem.W.dictOf es n∧SdE es as
theorem SdE.len:∀ {es as},SdE es as→es.length=as.length
 |[],as,h=>by
  cases as with
  |nil=>rfl
  |cons=>exact h.elim
 |e::es,as,h=>by
  cases as with
  |nil=>exact h.elim
  |cons a as=>exact congrArg Nat.succ (SdE.len h.2.2)
theorem SdE.get {name:Str}:∀ {es as},SdE es as→(es.find? (·.key.isStr name)).map (·.val)=getA name as∧es.any (·.refKey)=false
 |[],as,h=>by
  cases as with
  |nil=>exact ⟨rfl,rfl⟩
  |cons=>exact h.elim
 |e::es,as,h=>by
  cases as with|nil=>exact h.elim|cons a as=>?_
  obtain ⟨⟨t,h1⟩,h2,h3⟩:=h;obtain ⟨g1,g2⟩:=SdE.get (name:=name) h3;refine ⟨?_,?_⟩
  · unfold getA at g1 ⊢;have e1:e.key.isStr name=(a.1==name):=by rw [h1];rfl
    rw [xX,xX,e1];cases a.1==name with
    |true=>simp [h2]
    |false=>exact g1
  · simp only [List.any_cons,g2,Bool.or_false];simp [DictEntry.refKey,h1]
theorem SdE.getL {name:Str}{es as} (h:SdE es as):PySem.W.getL name es=some (getA name as):=by
 obtain ⟨g1,g2⟩:=h.get (name:=name);unfold PySem.W.getL;cases q:es.find? (·.key.isStr name) with
 |none=>rw [q] at g1;rw [← g1,g2];rfl
 |some e=>rw [q] at g1;rw [← g1];rfl
theorem SdE.put {name:Str}{v:zY}{hs:Int}{tk:Tok}:∀ {es as},SdE es as→SdE (PySem.W.putL name hs (.str name tk) v es) (putA name v as)
 |[],as,h=>by
  cases as with
  |nil=>exact ⟨⟨tk,rfl⟩,rfl,trivial⟩
  |cons=>exact h.elim
 |e::es,as,h=>by
  cases as with|nil=>exact h.elim|cons a as=>?_
  obtain ⟨⟨t,h1⟩,h2,h3⟩:=h;unfold PySem.W.putL;dsimp only [putA];rw [h1];dsimp only [Value.isStr];by_cases hb:(a.1==name)=true
  · simp only [hb,if_true];exact ⟨⟨t,rfl⟩,rfl,h3⟩
  · simp only [hb,if_false];exact ⟨⟨t,h1⟩,h2,SdE.put h3⟩
theorem putA_len (name:Str) (v:zY):∀ as:List (Str×zY),(putA name v as).length≤as.length+1
 |[]=>yX 1
 |a::r=>by
  dsimp only [putA];have:=putA_len name v r;split <;> simp only [yU] <;> lia
section
variable {w:zT}{A:zU}{E:VP}{σ:zX}{h₀ h:Heap}{t:Nat}{L:zV}{m:NM}{news:Led}{env:Env}{x dx:zV}{od:Obj}{as:List (Str×zY)}{name:Str}
theorem i_at (hx:h.get? x=some (instObj 257 dx)) {es n} (hd:h.get? dx=some (PySem.W.dictOf es n)):InstAt h x (instObj 257 dx) 257 (some (PySem.W.dictOf es n)):=⟨hx,rfl,rfl,hd⟩
theorem hasDict257 {P:Params}:hasDictIn (KF PW P) 257=true:=by k_ne
theorem g_attr {expr:Bool}{v:zY}{Q:VP}(Z:Site w A L h₀) (W:Wk h₀ L h m news) (hx:h.get? x=some (instObj 257 dx)) (hd:h.get? dx=some od) (sd:Sd od as) (hv:getA name as=some v)
 (hh:handedIn v=true) (hg:plainGet (KF PW w.params) 257 name=true) (ha:findIn (KF PW w.params) (.ref 257) name=some none) (k:∀ t',Q v (S σ h t')):zZ (zW PW w) A (getAttr (.ref x) name expr) Q E (S σ h t):=by
 obtain ⟨es,n,rfl,e⟩:=sd;exact get_own (s:=S σ h t) W.fr Z.X (i_at hx hd) hg hasDict257 ha rfl (by rw [e.getL,hv]) hh (k _)
theorem r_attr {M:Model}{n attr:Str}{np pos:Pos}{s:zX}{Q:VP}(k:zZ M A (eval (.Name n np) env) (fun o s₁=>zZ M A (getAttr o attr true) Q E s₁) E s):
 zZ M A (eval (.Attribute (.Name n np) attr pos) env) Q E s:=Attribute_name k
theorem s_attr {v:zY}{Q:UP}(Z:Site w A L h₀) (W:Wk h₀ L h m ((dx,od)::news)) (hx:h.get? x=some (instObj 257 dx)) (sd:Sd od as) (hz:as.length≤100)
 (ht:takerIn (KF PW w.params) 257 name=some none)
 (k:∀ h' t' od',Sd od' (putA name v as)→Wk h₀ L h' m ((dx,od')::news)→Q () (S σ h' t')):zZ (zW PW w) A (setAttr (.ref x) name v) Q E (S σ h t):=by
 obtain ⟨es,n,rfl,e⟩:=sd;have hd:=W.get (.head _);have nd:=W.nd;rw [zM,zJ] at nd;have hlen:=(e.put (name:=name) (v:=v) (hs:=PyData.keyHash w.params name) (tk:=t+1)).len;have:=putA_len name v as;refine set_dict (s:=S σ h t) W.fr Z.X W.nw (i_at hx hd) rfl (by k_ne) (by k_ne) ht hasDict257 (by rw [e.getL];rfl) rfl (.head fun p hp q=>nd.1 (zN.mpr ⟨p,hp,q⟩)) (by rw [show (S σ h t).toks=t from rfl,hlen];(revert hz this;k_in)) fun h' F' N'=>?_;exact k h' _ _ ⟨_,_,rfl,e.put⟩ ⟨F',N',W.nd⟩
theorem g_meth {pl:Sem Bool}{f:zV}{Q:zY×List zY→zX→Prop}(Z:Site w A L h₀) (W:Wk h₀ L h m news) (hx:h.get? x=some (instObj 257 dx)) (hd:h.get? dx=some od) (sd:Sd od as) (hv:getA name as=none)
 (hg:plainGet (KF PW w.params) 257 name=true) (hf:findIn (KF PW w.params) (.ref 257) name=some (some (.ref f))) (ht:isFn (KF PW w.params) (.ref f)=true) (k:Q (.ref f,[.ref x]) (S σ h t)):
 zZ (zW PW w) A (getMethod (.ref x) name pl) Q E (S σ h t):=by
 obtain ⟨es,n,rfl,e⟩:=sd;exact method_inst (s:=S σ h t) W.fr Z.X (i_at hx hd) hg hf ht (by rw [e.getL,hv]) k
theorem x_asgA {o attr pos' value pos} {Q:FP}{M:Model}{s:zX}
 (k:zZ M A (eval value env) (fun v s₁=>zZ M A (eval o env) (fun ov s₂=>zZ M A (setAttr ov attr v) (fun _=>Q .next) E s₂) E s₁) E s)
 (hs:swapsWith value (some (.Attribute o attr pos')) pos.line env=pure false):
 zZ M A (exec (.Assign [.Attribute o attr pos'] value pos) env) Q E s:=plainObj_wpAny_Assign_Attribute k hs
theorem x_asg2 {t₁ t₂ value:Expr}{pos:Pos}{Q:FP}{s:zX}
 (k:zZ (zW PW w) A (eval value env) (fun v s₁=>zZ (zW PW w) A (assign t₁ env v) (fun _ s₂=>zZ (zW PW w) A (assign t₂ env v) (fun _=>Q .next) E s₂) E s₁) E s)
 (he:(assignEach [t₁,t₂] env).map (·.2)=[assign t₁ env,assign t₂ env])
 (hw:swappedStores [t₁,t₂] value env=pure none):zZ (zW PW w) A (exec (.Assign [t₁,t₂] value pos) env) Q E s:=wpAny_Assign_two k he hw
theorem x_asg3 {t₁ t₂ t₃ value:Expr}{pos:Pos}{Q:FP}{s:zX}
 (k:zZ (zW PW w) A (eval value env) (fun v s₁=>zZ (zW PW w) A (assign t₁ env v) (fun _ s₂=>zZ (zW PW w) A (assign t₂ env v) (fun _ s₃=>zZ (zW PW w) A (assign t₃ env v) (fun _=>Q .next) E s₃) E s₂) E s₁) E s)
 (he:(assignEach [t₁,t₂,t₃] env).map (·.2)=[assign t₁ env,assign t₂ env,assign t₃ env])
 (hw:swappedStores [t₁,t₂,t₃] value env=pure none):zZ (zW PW w) A (exec (.Assign [t₁,t₂,t₃] value pos) env) Q E s:=wpAny_Assign_three k he hw
theorem as_attr {o:Expr}{attr:Str}{pos:Pos}{v:zY}{s:zX}{M:Model}{Q:UP}
 (k:zZ M A (eval o env) (fun ov s₂=>zZ M A (setAttr ov attr v) (fun _ s₃=>Q () s₃) E s₂) E s):zZ M A (assign (.Attribute o attr pos) env v) Q E s:=kas_attr k
end
end
abbrev sN (x:String):Str:=zQ x
noncomputable def as0 (J:zY):List (Str×zY):=[(sN "isjunk",J),(sN "a",.none),(sN "b",.none),(sN "autojunk",.bool true)]
noncomputable def as1 (J a:zY):List (Str×zY):=[(sN "isjunk",J),(sN "a",a),(sN "b",.none),(sN "autojunk",.bool true),(sN "matching_blocks",.none),(sN "opcodes",.none)]
noncomputable def as2 (J a b:zY):List (Str×zY):=[(sN "isjunk",J),(sN "a",a),(sN "b",b),(sN "autojunk",.bool true),(sN "matching_blocks",.none),(sN "opcodes",.none),(sN "fullbcount",.none)]
noncomputable def as3 (J a b b2j:zY):List (Str×zY):=[(sN "isjunk",J),(sN "a",a),(sN "b",b),(sN "autojunk",.bool true),(sN "matching_blocks",.none),(sN "opcodes",.none),(sN "fullbcount",.none),(sN "b2j",b2j)]
noncomputable def as4 (J a b b2j bj:zY):List (Str×zY):=[(sN "isjunk",J),(sN "a",a),(sN "b",b),(sN "autojunk",.bool true),(sN "matching_blocks",.none),(sN "opcodes",.none),(sN "fullbcount",.none),(sN "b2j",b2j),(sN "bjunk",bj)]
noncomputable def as5 (J a b mb b2j bj bp:zY):List (Str×zY):=[(sN "isjunk",J),(sN "a",a),(sN "b",b),(sN "autojunk",.bool true),(sN "matching_blocks",mb),(sN "opcodes",.none),(sN "fullbcount",.none),(sN "b2j",b2j),(sN "bjunk",bj),(sN "bpopular",bp)]
theorem kpg {h h':Heap}{b:zV}{o:Obj}(k:Kp h h') (e:h.get? b=some o):h'.get? b=some o:=k _ _ e
theorem sdc {o:Obj}{as bs:List (Str×zY)}(sd:Sd o as) (e:as=bs):Sd o bs:=e ▸ sd
theorem kpw {h₀ h:Heap}{L:zV}{m:NM}{news:Led}{b:zV}{o:Obj}(W:Wk h₀ L h m news) (e:h₀.get? b=some o):h.get? b=some o:=W.kp _ _ e
local macro_rules | `(tactic| k_call_by "gat" $v) => return sx [v] "'( 'with_reducible 'refine @r_attr ?_ null/1 t.app/2 T.refine/2 Q T.withReducible/2 '; 'wtm_at '\"g\" str/1 PySem.W.tacticWtm_at_/2 '; 'refine @g_attr '( @v ':= $0 ') t.namedArgument/5 @Z @W %o %o %a %k %h %k %k 'fun _ null/1 null/0 '=> ?_ t.basicFun/4 t.fun/2 null/11 t.app/2 T.refine/2 null/5 T.tacticSeq1Indented/1 T.tacticSeq/1 ') T.paren/3"
theorem seq1_body {w A L' g h t σ} {x dx one:zV}{od:Obj}{J:zY}{f:zV}{m} {Q:FP}{E:VP}
 (Z:Site w A L' g) (W:Wk g L' h m [(dx,od)]) (hx:g.get? x=some (instObj 257 dx)) (sd:Sd od (as0 J))
 (e1:m (zQ "self")=some (.ref x)) (e2:m (zQ "a")=some (.ref one))
 (k:∀ h' t' m' od',Sd od' (as1 J (.ref one))→Wk g L' h' m' [(dx,od')]→Q .next (S σ h' t')):
 zZ (zW PW w) A (execs (dB (me PW 8 3)) (envX n95 (dS (me PW 8 3)) L' f (.ref 188) [])) Q E (S σ h t):=by
 with_unfolding_all refine x_cons ?_
 kd_p;k_call_by "gat" (.none);with_reducible refine is_ref_none ?_
 kd_p;with_reducible refine x_asgA ?_ (by wtm_at "u")
 kd_p;wtm_at "z";kd_p;with_reducible refine x_asg2 ?_ (by wtm_at "u") (by wtm_at "u")
 kd_p;with_reducible refine as_attr ?_
 kd_p;wtm_at "z";with_reducible refine as_attr ?_
 kd_p;wtm_at "z";kd_p;exact k _ _ _ _ (sdc sd (by k_ne)) W
theorem seq1_spec {w A L h₀ h t σ m rest} {x dx one:zV}{od:Obj}{J:zY}{Q E:VP}
 (Z:Site w A L h₀) (W:Wk h₀ L h m ((dx,od)::rest)) (room:A.depth<zS) (hx:(gnd h [(dx,od)]).get? x=some (instObj 257 dx)) (sd:Sd od (as0 J))
 (k:∀ h' t' od',Sd od' (as1 J (.ref one))→Wk h₀ L h' m ((dx,od')::rest)→Kp (gnd h [(dx,od)]) h'→Q .none (S σ h' t')):
 zZ (zW PW w) A (call (.ref 189) [.ref x,.ref one]) Q E (S σ h t):=
 fn_gen (mu:=[(dx,od)]) (rest:=rest) (binds:=[(zQ "self",.ref x),(zQ "a",.ref one)]) Z W room (by rfl) (by k_ne) (BindsTo.of_eq (by k_ne)) (locs (by k_ne)) (by decide) (by k_ne) (by k_ne) (by k_ne) fun L' h₁ t₁ Z' W'=>
  seq1_body (x:=x) (one:=one) Z' W' hx sd (by k_ne) (by k_ne) fun h' t' m' od' sd' W₂=>⟨h',t',_,_,rfl,W₂,fun W₃=>k h' t' od' sd' W₃ W₂.kp⟩
section
theorem entry_set_iter:entryFor table "set.__iter__"=some Builtin.«frozenset.__iter__»:=entryFor_alias (id':="frozenset.__iter__") (by k_ne) rfl (by decide+kernel) (by k_ne)
theorem slot_sit_next:Slot "set_iterator" "__next__" "set_iterator.__next__":=
 .of (owner:="set_iterator") (n:="__next__") (by rw [typeLookup_type,yI];k_ne) (by decide+kernel) (by decide+kernel) (by decide+kernel)
  (by first|exact .inl (by decide+kernel)|exact .inr (by decide+kernel)) (by rw [isSubtype_type];k_ne)
theorem entry_sit_next:entryFor table "set_iterator.__next__"=some Builtin.«set_iterator.__next__»:=entryFor_of_tree (by k_ne)
theorem args_sit_next (a:zY):argsOk "set_iterator.__next__" ⟨[a],[]⟩:=by unfold argsOk;k_ne
noncomputable def sit (a:zV) (slot i n ep:Nat):Obj:={ cls:=.type "set_iterator",data:=.fields #[rawInt slot,rawInt i,.ref a,rawInt n,rawInt ep] }
section
variable {w:zT}{A:zU}{E:VP}{s:zX}{a I:zV}{h0:Int}{x:zY}{pl:Bool}
theorem set_iter {es:Array (Int×zY)}{ep:Nat}{tb:SetTable}{Q:VP}(ho:s.heap.get? a=some { cls:=.type "set",data:=.set es ep tb }) (hz:es.size≤1) (hf:tb.place.size=es.size∧tb.fits es.size=true)
 (k:Q (.ref s.heap.objs.size) { s with heap:=s.heap.push (sit a 0 0 es.size ep) }):zZ (zW PW w) A (pyIter (.ref a)) Q E s:=by
 have hT:s.TypeIs (.ref a) "set":=⟨_,ho,rfl⟩;have st:∀ {A:zU}{E:VP}{Q:(Array (Int×zY)×Nat×SetTable)→zX→Prop},Q (es,ep,tb) s→zZ (zW PW w) A (setState a) Q E s:=fun q=>w_s ho rfl hf.2 q
 refine wpAny_pyIter_slot hT PySem.F.slot_set_iter (w_c PySem.F.slot_set_iter hT entry_set_iter ?_ (PySem.F.args_set_iter_1 _));unfold Builtin.«frozenset.__iter__»;refine w_b (w_p ?_);unfold Builtin.Frozenset.sizeOf setEntries;refine w_b (w_b (w_b (st ?_)));refine w_p (w_p ?_);unfold setDrawn setsByText;refine w_b (w_b (st ?_));refine w_b (w_b (wpAny_askSetting (w_p ?_)));show zZ _ _ (pure (!(w.params.followText "set-order")&&(!tb.plain&&decide (es.size > 1)))) _ _ _
 rw [show decide (es.size > 1)=false from l_f (by revert hz;k_in),Bool.and_false,Bool.and_false];refine w_p ?_;rw [if_neg (by decide)];refine w_b (w_p ?_);unfold setEpoch;refine w_b (w_b (st (w_p ?_)));exact w_b (yJ (w_p ⟨_,rfl,"set_iterator",_,⟨_,yO _ rfl,rfl⟩,slot_sit_next.lookup,k⟩))
theorem below0 (j:Nat):SetTable.below #[j] 0=0:=by
 show SetTable.below.go #[j] 0 (0+1) 0 1=0
 dsimp only [SetTable.below.go];rw [if_pos (by decide)];exact if_neg (Nat.not_lt_zero _)
theorem below1 (j:Nat):SetTable.below #[j] (j+1)=1:=by
 show SetTable.below.go #[j] (j+1) (0+1) 0 1=1
 dsimp only [SetTable.below.go];rw [if_pos (by decide)];exact if_pos (Nat.lt_succ_self _)
theorem pick1 {α:Type}(f:Nat→Nat) (x:α):pickOrder f #[x]=#[x]:=by
 show (match [x][f 0 % 1]? with|some x=>pickOrder.go f 0 1 ([x].eraseIdx (f 0 % 1)) (#[].push x)|none=>#[])=#[x]
 rw [Nat.mod_one];rfl
noncomputable def slotOf (w:zT) (h0:Int) (i:Nat):Nat:=if w.params.followText "set-order"=true then 0 else if i=0 then 0 else zC h0 % 8+1
theorem setNext1 {i:Nat}{Q:Option (zY×Nat)→zX→Prop}(ho:s.heap.get? a=some (sob1 w h0 x pl)) (hi:i≤1) (k:Q (if i=0 then some (x,slotOf w h0 1) else none) s):
 zZ (zW PW w) A (setNext a (slotOf w h0 i) i 1) Q E s:=by
 unfold setNext;refine w_b (w_s (o:=sob1 w h0 x pl) ho rfl (fits1 ..) ?_);unfold setsByText;refine w_b (w_b (wpAny_askSetting (w_p ?_)));dsimp only;by_cases hf:w.params.followText "set-order"=true
 · refine KFB.if_so hf ?_;refine KFB.if_not (by decide) ?_;refine w_b ?_;unfold setWalk;refine w_b (w_s (o:=sob1 w h0 x pl) ho rfl (fits1 ..) ?_);unfold setsByText;refine w_b (w_b (wpAny_askSetting (w_p ?_)));dsimp only;refine KFB.if_so hf ?_;refine w_b (wpAny_askSetting (w_p ?_));rw [pick1];have e1:slotOf w h0 i=0:=by unfold slotOf;rw [if_pos hf]
   have e2:slotOf w h0 1=0:=by unfold slotOf;rw [if_pos hf]
   rw [e1];rw [e2] at k;refine w_p ?_;rcases Nat.lt_or_ge i 1 with h|h
   · have:i=0:=by (revert h;k_in)
     subst this;exact k
   · have:i=1:=by (revert hi h;k_in)
     subst this;exact k
 · have hf':w.params.followText "set-order"=false:=by simpa using hf
   refine KFB.if_not hf' ?_;refine KFB.if_not (show (!pl&&decide ((1:Nat) > 1))=false by simp) ?_;refine w_b (m:=(if (!led w&&!(#[(h0,x)]:Array (Int×zY)).isEmpty)=true then unsupported "set:maker-not-led" else pure ())) ?_;refine KFB.if_not (by simp [led,hf']) (w_p ?_);have hs:∀ i,slotOf w h0 i=if i=0 then 0 else zC h0 % 8+1:=fun i=>by unfold slotOf;rw [if_neg hf]
   rw [hs];rw [hs] at k;refine w_p ?_;rcases Nat.lt_or_ge i 1 with h|h
   · have:i=0:=by (revert h;k_in)
     subst this;rw [if_pos rfl];show Q (match (#[(h0,x)]:Array (Int×zY))[SetTable.below #[zC h0 % 8] 0]?,(#[zC h0 % 8]:Array Nat)[SetTable.below #[zC h0 % 8] 0]? with|some (_,x),some j=>some (x,j+1)|_,_=>none) s
     rw [below0];simpa using k
   · have:i=1:=by (revert hi h;k_in)
     subst this;rw [if_neg (by decide)];show Q (match (#[(h0,x)]:Array (Int×zY))[SetTable.below #[zC h0 % 8] (zC h0 % 8+1)]?,(#[zC h0 % 8]:Array Nat)[SetTable.below #[zC h0 % 8] (zC h0 % 8+1)]? with|some (_,x),some j=>some (x,j+1)|_,_=>none) s
     rw [below1];simpa using k
theorem setNext0 {Q:Option (zY×Nat)→zX→Prop}(ho:s.heap.get? a=some (sob0 w)) (k:Q none s):zZ (zW PW w) A (setNext a 0 0 0) Q E s:=by
 unfold setNext;refine w_b (w_s (o:=sob0 w) ho rfl rfl ?_);unfold setsByText;refine w_b (w_b (wpAny_askSetting (w_p ?_)));dsimp only;by_cases hf:w.params.followText "set-order"=true
 · refine KFB.if_so hf ?_;refine KFB.if_not (by decide) ?_;refine w_b ?_;unfold setWalk;refine w_b (w_s (o:=sob0 w) ho rfl rfl ?_);unfold setsByText;refine w_b (w_b (wpAny_askSetting (w_p ?_)));dsimp only;refine KFB.if_so hf ?_;refine w_b (wpAny_askSetting (w_p ?_));refine w_p ?_;have e:∀ f,(pickOrder f (#[]:Array (Int×zY)))[0]? =none:=fun f=>rfl
   rw [e];exact k
 · have hf':w.params.followText "set-order"=false:=by simpa using hf
   refine KFB.if_not hf' ?_;refine KFB.if_not (show (!true&&decide ((0:Nat) > 1))=false by simp) ?_;refine w_b (m:=(if (!led w&&!(#[]:Array (Int×zY)).isEmpty)=true then unsupported "set:maker-not-led" else pure ())) ?_;refine KFB.if_not (by simp) (w_p ?_);exact w_p k
theorem stopIter {Q:Option zY→zX→Prop}(hh:A.handled=none) {h':Heap}(hs:Heap.SameBut I s.heap h') (k:∀ h'',Heap.ExtBut I s.heap h''→Q none { s with heap:=h'' }) {e:Sem Fin}
 (he:e=(newExc (.type "StopIteration") [] >>=fun x=>raiseNew x)):
 zZ (zW PW w) A.in1 e (fun _ _=>False) (fun x s'=>zZ (zW PW w) A (isInstance x (.type "StopIteration")) (fun b s''=>if b=true then Q none s'' else False) (fun _ _=>False) s') { s with heap:=h' }:=by
 subst he;refine w_b ?_;unfold newExc newTuple;refine w_b (yJ ?_ (by size_fits));refine w_b (m:=firstArgMember _ _) (yK (a:=Value.none) (by first|rfl|(simp only [firstArgMember];rfl)) ?_);refine yJ ?_ (by size_fits);unfold raiseNew;refine w_b (wpAny_handled ?_);rw [show A.in1.handled=none from hh];refine w_b (w_p (wpAny_throw ?_));refine wpAny_isInstance (T:="StopIteration") (b:=true) ⟨_,yO _ rfl,rfl⟩ isSubtype_stop ?_;rw [if_pos rfl];exact k _ ((hs.extBut.push _).push _)
end
section
variable {w:zT}{A:zU}
theorem stp_set1 {a:zV}{h0:Int}{x:zY}{pl:Bool}(hh:A.handled=none) (I:zV):Stp w A (.ref I) 1 (fun h=>h.get? a=some (sob1 w h0 x pl)) (fun i own=>own=[(I,sit a (slotOf w h0 i) i 1 1)]) (fun i v=>v=x) where
 item:=by
  rintro i h₀ L h m news own σ t Q E hi rfl hd W k;obtain rfl:i=0:=by (revert hi;k_in)
  have ho:=W.get (.head _);have hT:(S σ h t).TypeIs (.ref I) "set_iterator":=⟨_,ho,rfl⟩;unfold pyNext;refine w_b (wpAny_attempt (yH (name:=zQ "__next__") hT slot_sit_next (w_c slot_sit_next hT entry_sit_next ?_ (args_sit_next _))));unfold Builtin.«set_iterator.__next__»;refine w_b (w_p ?_);refine w_b (wpAny_fieldsOf (s:=S σ h t) ho rfl ?_);show zZ _ _ (setEntries a >>=_) _ _ _
  refine w_b ?_;unfold setEntries;refine w_b (w_s (s:=S σ h t) (o:=sob1 w h0 x pl) hd rfl (fits1 ..) (w_p ?_));refine KFB.if_not (by simp) ?_;show zZ _ _ (setNext a (slotOf w h0 0) 0 1 >>=_) _ _ _
  refine w_b (setNext1 (s:=S σ h t) hd (by decide) ?_);rw [if_pos rfl];show zZ _ _ (setField (.ref I) 0 (rawInt (slotOf w h0 1)) >>=_) _ _ _
  refine w_b (wpAny_setField (s:=S σ h t) ho rfl (by simp) ?_)
  have h1:(h.update I (Obj.mapFields (·.setIfInBounds 0 (rawInt (slotOf w h0 1))))).get? I=some (sit a (slotOf w h0 1) 0 1 1):=by
   refine (yL _ ho rfl).trans ?_;simp [sit,Obj.mapFields,rawInt]
  refine w_b (wpAny_setField (s:=S σ (h.update I (Obj.mapFields (·.setIfInBounds 0 (rawInt (slotOf w h0 1))))) t) h1 rfl (by simp) ?_)
  have h2:((h.update I (Obj.mapFields (·.setIfInBounds 0 (rawInt (slotOf w h0 1))))).update I (Obj.mapFields (·.setIfInBounds 1 (rawInt (((0:Nat):Int)+1))))).get? I=some (sit a (slotOf w h0 1) 1 1 1):=by
   refine (yL _ h1 rfl).trans ?_;simp [sit,Obj.mapFields,rawInt]
  refine w_p ⟨x,rfl,w_p (k _ x _ _ rfl rfl ((W.upd (l_u ..) h1).upd (l_u ..) h2))⟩
 done:=by
  rintro h₀ L h m news own σ t Q E rfl hd W k;have ho:=W.get (.head _);have hT:(S σ h t).TypeIs (.ref I) "set_iterator":=⟨_,ho,rfl⟩;unfold pyNext;refine w_b (wpAny_attempt (yH (name:=zQ "__next__") hT slot_sit_next (w_c slot_sit_next hT entry_sit_next ?_ (args_sit_next _))));unfold Builtin.«set_iterator.__next__»;refine w_b (w_p ?_);refine w_b (wpAny_fieldsOf (s:=S σ h t) ho rfl ?_);show zZ _ _ (setEntries a >>=_) _ _ _
  refine w_b ?_;unfold setEntries;refine w_b (w_s (s:=S σ h t) (o:=sob1 w h0 x pl) hd rfl (fits1 ..) (w_p ?_));refine KFB.if_not (by simp) ?_;show zZ _ _ (setNext a (slotOf w h0 1) 1 1 >>=_) _ _ _
  refine w_b (setNext1 (s:=S σ h t) hd (by decide) ?_);rw [if_neg (by decide)];show zZ _ _ (setField (.ref I) 2 .none >>=_) _ _ _
  refine w_b (wpAny_setField (s:=S σ h t) ho rfl (by simp) ?_);refine w_m (stopIter (s:=S σ h t) (I:=I) (Q:=Q) hh (l_u ..) (fun h'' hs=>k h'' t (W.off hs)) rfl) (fun _ _ f=>f.elim) (fun e s' q=>?_);refine w_b (w_m q (fun b s'' q=>?_) fun _ _ f=>f.elim);cases b with
  |true=>exact w_p q
  |false=>exact q.elim
theorem stp_set0 {a:zV}(hh:A.handled=none) (I:zV):Stp w A (.ref I) 0 (fun h=>h.get? a=some (sob0 w)) (fun i own=>own=[(I,sit a 0 0 0 0)]) (fun i v=>False) where
 item:=by
  intro i h₀ L h m news own σ t Q E hi;exact absurd hi (Nat.not_lt_zero _)
 done:=by
  rintro h₀ L h m news own σ t Q E rfl hd W k;have ho:=W.get (.head _);have hT:(S σ h t).TypeIs (.ref I) "set_iterator":=⟨_,ho,rfl⟩;unfold pyNext;refine w_b (wpAny_attempt (yH (name:=zQ "__next__") hT slot_sit_next (w_c slot_sit_next hT entry_sit_next ?_ (args_sit_next _))));unfold Builtin.«set_iterator.__next__»;refine w_b (w_p ?_);refine w_b (wpAny_fieldsOf (s:=S σ h t) ho rfl ?_);show zZ _ _ (setEntries a >>=_) _ _ _
  refine w_b ?_;unfold setEntries;refine w_b (w_s (s:=S σ h t) (o:=sob0 w) hd rfl rfl (w_p ?_));refine KFB.if_not (by simp) ?_;show zZ _ _ (setNext a 0 0 0 >>=_) _ _ _
  refine w_b (setNext0 (s:=S σ h t) hd ?_);show zZ _ _ (setField (.ref I) 2 .none >>=_) _ _ _
  refine w_b (wpAny_setField (s:=S σ h t) ho rfl (by simp) ?_);refine w_m (stopIter (s:=S σ h t) (I:=I) (Q:=Q) hh (l_u ..) (fun h'' hs=>k h'' t (W.off hs)) rfl) (fun _ _ f=>f.elim) (fun e s' q=>?_);refine w_b (w_m q (fun b s'' q=>?_) fun _ _ f=>f.elim);cases b with
  |true=>exact w_p q
  |false=>exact q.elim
end
end
section
section
variable {w:zT}{A:zU}{E:VP}{s:zX}
theorem set_made {Q₁:VP}(k:Q₁ (.ref s.heap.objs.size) { s with heap:=s.heap.push (sob0 w) }):
 codeAny (zW PW w) A (.call (.builtin "set.__new__") ⟨[.type "set"],[]⟩) (wants Q₁ E) s:=by
 refine codeAny_of_tree ?_;show zZ _ A.in1 (do checkBuiltinCall "set.__new__" ⟨[.type "set"],[]⟩;again (.builtin "set.__new__" ⟨[.type "set"],[]⟩)) _ _ s
 refine w_b (yK PySem.F.newCall_set_0 (w_p ⟨plainId_quiet PySem.F.plain_set_new _,codeAny_builtin PySem.F.entry_set_new ?_⟩));rw [Around.under_plainId PySem.F.plain_set_new _];unfold Builtin.«set.__new__» Builtin.Frozenset.newClass;have hsub:=sub_set_self;obtain ⟨hp,g,d,tk,os⟩:=s;dsimp only
 wp_walk
 refine wpAny_askSetting (w_p ?_);dsimp only;simp only [newObj];refine w_b (wpAny_alloc (w_p ?_));exact w_p k
theorem set_call {Q:VP}(k:Q (.ref s.heap.objs.size) { s with heap:=s.heap.push (sob0 w) }):zZ (zW PW w) A (call (.type "set") []) Q E s:=by
 obtain ⟨c,tl,hmro⟩:=PySem.F.called_set.mro;have hmade:=PySem.F.called_set.made;have hsub:=PySem.F.called_set.sub;refine wpAny_call (codeAny_of_tree ?_);show zZ _ _ (callAny (.type "set") _) _ _ _
 refine w_p ⟨Code.quiet_builtin _ (by decide+kernel),codeAny_builtin PySem.F.entry_type_call ?_⟩;rw [Around.under_plain (weight_type_call_type "set" [] []) rfl];have h1:=PySem.F.called_set.notType;have h2:=PySem.F.called_set.canCreate;have hct:=PySem.F.typeCall_set_0
 repeat (any_goals (first|assumption|wp_step))
 refine codeAny_mono (set_made (E:=E) (Q₁:=fun obj s₁=>obj= .ref s.heap.objs.size∧s₁={ s with heap:=s.heap.push (sob0 w) }) ⟨rfl,rfl⟩) fun r s₁ hr=>?_;cases r with
 |error e=>exact hr
 |ok fl=>
  cases fl with
  |ret obj=>
   obtain ⟨rfl,rfl⟩:=hr;have hS:(s.heap.push (sob0 w)).get? s.heap.objs.size=some (sob0 w):=yO _ rfl;have hT:Shared.TypeIs { s with heap:=s.heap.push (sob0 w) } (.ref s.heap.objs.size) "set":=⟨_,hS,rfl⟩;have hli:=PySem.F.called_set.init.lookup;have hbi:=PySem.F.called_set.init.bind (.ref s.heap.objs.size)
   repeat (any_goals (first|assumption|wp_step))
   refine codeAny_mono (codeAny_call_builtin (R:=wants (fun r s₂=>r= .none∧Q (.ref s.heap.objs.size) s₂) E) PySem.F.called_set.init.plain PySem.F.entry_set_init (check_set_init hT ?_)) fun r₂ s₂ hr₂=>?_
   · unfold Builtin.«set.__init__» noKeywords
     wp_walk
     exact ⟨rfl,k⟩
   · cases r₂ with
     |error e=>exact hr₂
     |ok fl₂=>
      cases fl₂ with
      |ret r=>
       obtain ⟨rfl,hq⟩:=hr₂
       repeat (any_goals (first|assumption|wp_step))
      |_=>exact hr₂.elim
  |_=>exact hr.elim
end
section
variable {w:zT}{A:zU}{E:VP}{σ:zX}{h₀ h:Heap}{t:Nat}{L:zV}{m:NM}{news:Led}
theorem c_set0 {Q:VP}(W:Wk h₀ L h m news) (k:∀ a h',Wk h₀ L h' m ((a,sob0 w)::news)→Kp h h'→a=h.objs.size→Q (.ref a) (S σ h' t)):zZ (zW PW w) A (call (.type "set") []) Q E (S σ h t):=
 set_call (s:=S σ h t) (k _ _ (W.new (sob0 w) rfl) (Kp.push _ _) rfl)
end
end
noncomputable def idxF (c:Int):Int→List El2→List Int
 |_,[]=>[]
 |k,y::r=>if y.2=c then k::idxF c (k+1) r else idxF c (k+1) r
noncomputable def idx (c:Int) (ys:List El2):List Int:=idxF c 0 ys
theorem idxF_app (c:Int) (y:El2):∀ (ys:List El2) (k:Int),idxF c k (ys++[y])=idxF c k ys++(if y.2=c then [k+(ys.length:Int)] else [])
 |[],k=>by
  by_cases h:y.2=c
  · rw [if_pos h];exact (if_pos h).trans (congrArg (fun a=>[a]) (Int.add_zero k).symm)
  · rw [if_neg h];exact if_neg h
 |z::ys,k=>by
  have ih:=idxF_app c y ys (k+1);have e:k+1+(ys.length:Int)=k+((ys.length+1:Nat):Int):=by k_in
  by_cases hz:z.2=c
  · rw [List.cons_append];dsimp only [idxF];rw [if_pos hz,if_pos hz,ih,e];rfl
  · rw [List.cons_append];dsimp only [idxF];rw [if_neg hz,if_neg hz,ih,e];rfl
theorem idx_app (c:Int) (ys:List El2) (y:El2):idx c (ys++[y])=idx c ys++(if y.2=c then [(ys.length:Int)] else []):=by
 unfold idx;rw [idxF_app,Int.zero_add]
theorem idx_none {c:Int}:∀ {ys:List El2}{k:Int},(∀ y∈ys,y.2≠c)→idxF c k ys=[]
 |[],_,_=>rfl
 |y::ys,k,h=>by
  dsimp only [idxF];rw [if_neg (h y (.head _))];exact idx_none fun z hz=>h z (.tail _ hz)
theorem idx_len (c:Int):∀ (ys:List El2) (k:Int),(idxF c k ys).length≤ys.length
 |[],_=>yX _
 |y::ys,k=>by
  have:=idx_len c ys (k+1);dsimp only [idxF];split <;> simp only [yU] <;> (revert this;k_in)
def BRow (ys:List El2) (r:Rw) (p:zV×Obj):Prop:=∃ vs n,r.2.2= .ref p.1∧p.2=lob vs n∧IntsL vs (idx r.1 ys)
inductive BRows (ys:List El2):List Rw→Led→Prop
 |nil:BRows ys [] []
 |cons {r p rs ps}:BRow ys r p→BRows ys rs ps→BRows ys (r::rs) (p::ps)
theorem IntsL.nil:IntsL [] []:=⟨rfl,fun k n h=>by simp at h⟩
theorem IntsL.snoc {vs:List zY}{ns:List Int}{n:Int}{t:Tok}(x:IntsL vs ns):IntsL (vs++[.int n t]) (ns++[n]):=by
 refine ⟨by simp [x.1],fun k m h=>?_⟩;by_cases hk:k<ns.length
 · rw [yD hk] at h;rw [yD (by rw [x.1];exact hk)];exact x.2 k m h
 · rw [yE (by lia)] at h;rw [yE (by rw [x.1];lia),x.1]
   have hk0:k - ns.length=0:=by
    have:=(l_i.mp h).1;simp at this;lia
   rw [hk0] at h ⊢;simp only [List.getElem?_cons_zero,Option.some.injEq] at h ⊢;exact ⟨t,by rw [h]⟩
theorem BRows.other {ys:List El2}{y:El2}{rs ps} (h:BRows ys rs ps) (hn:∀ r∈rs,r.1≠y.2):BRows (ys++[y]) rs ps:=by
 induction h with
 |nil=>exact .nil
 |@cons r p rs ps hb _ ih=>
  obtain ⟨vs,n,h1,h2,h3⟩:=hb;refine .cons ⟨vs,n,h1,h2,?_⟩ (ih fun r hr=>hn r (.tail _ hr));rw [idx_app,if_neg (Ne.symm (hn r (.head _))),List.append_nil];exact h3
theorem BRows.snoc {ys:List El2}{r:Rw}{p:zV×Obj}{rs ps} (h:BRows ys rs ps) (hb:BRow ys r p):BRows ys (rs++[r]) (ps++[p]):=by
 induction h with
 |nil=>exact .cons hb .nil
 |cons h1 _ ih=>exact .cons h1 ih
theorem atX_cons_eq {r:Rw}{rs:List Rw}{c:Int}(h:r.1=c):atX (r::rs) c=some r.2.2:=by
 unfold atX;rw [xX,l_t h];rfl
theorem atX_cons_ne {r:Rw}{rs:List Rw}{c:Int}(h:r.1≠c):atX (r::rs) c=atX rs c:=by
 unfold atX;rw [xX,l_f h]
theorem BRows.at {ys:List El2}{c:Int}{rs ps} (h:BRows ys rs ps):(rs.map (·.1)).Nodup→∀ {v},atX rs c=some v→∃ ps1 ps2 l vs n,v= .ref l∧ps=ps1++(l,lob vs n)::ps2∧IntsL vs (idx c ys)∧
 ∀ (y:El2) (vs':List zY) (n':Nat),y.2=c→IntsL vs' (idx c (ys++[y]))→BRows (ys++[y]) rs (ps1++(l,lob vs' n')::ps2):=by
 induction h with
 |nil=>intro _ v h;unfold atX at h;simp at h
 |@cons r p rs ps hb hr ih=>
  intro hn v h;rw [zM,zJ] at hn;by_cases hc:r.1=c
  · obtain ⟨vs,n,h1,h2,h3⟩:=hb;rw [atX_cons_eq hc] at h;have hv:v=r.2.2:=(l_j h).symm;obtain ⟨p1,p2⟩:=p;have h2':p2=lob vs n:=h2;subst h2';refine ⟨[],ps,p1,vs,n,by rw [hv];exact h1,rfl,by rw [← hc];exact h3,fun y vs' n' hy hi=>.cons ⟨vs',n',h1,rfl,by rw [hc];exact hi⟩ ?_⟩;exact BRows.other hr fun z hz e=>hn.1 (by rw [hc,← hy,← e];exact l_o hz)
  · rw [atX_cons_ne hc] at h;obtain ⟨ps1,ps2,l,vs,n,g1,g2,g3,g4⟩:=ih hn.2 h;refine ⟨p::ps1,ps2,l,vs,n,g1,by rw [g2];rfl,g3,fun y vs' n' hy hi=>.cons ?_ (g4 y vs' n' hy hi)⟩;obtain ⟨ws,k,k1,k2,k3⟩:=hb;refine ⟨ws,k,k1,k2,?_⟩;rw [idx_app,if_neg (by rw [hy];exact Ne.symm hc),List.append_nil];exact k3
theorem atX_mem {xs:List Rw}{c:Int}:atX xs c=none↔∀ r∈xs,r.1≠c:=by
 unfold atX;rw [Option.map_eq_none_iff,List.find?_eq_none];simp
def JS (w:zT) (K:Kd w) (odd:Int) (rs:List Rw) (o:Obj):Prop:=(o=sob0 w∧∀ r∈rs,r.1≠odd)∨(∃ r∈rs,r.1=odd∧∃ pl,o=sob1 w (K.hash odd) r.2.1 pl)
theorem addFirst_has {acc:List El2}{y:El2}{c:Int}:(∃ q∈addFirst acc y,q.2=c)↔((∃ q∈acc,q.2=c)∨y.2=c):=by
 unfold addFirst;split
 · rename_i h;rw [List.any_eq_true] at h;obtain ⟨z,hz,hzc⟩:=h;constructor
   · exact .inl
   · rintro (h|rfl)
     · exact h
     · exact ⟨z,hz,by simpa using hzc⟩
 · simp only [zE,zH];constructor
   · rintro ⟨q,hq|rfl,e⟩
     · exact .inl ⟨q,hq,e⟩
     · exact .inr e
   · rintro (⟨q,hq,e⟩|e)
     · exact ⟨q,.inl hq,e⟩
     · exact ⟨y,.inr rfl,e⟩
theorem foldFirst_has {c:Int}:∀ (ys acc:List El2),(∃ q∈ys.foldl addFirst acc,q.2=c)↔((∃ q∈acc,q.2=c)∨∃ q∈ys,q.2=c)
 |[],acc=>by simp
 |y::ys,acc=>by
  rw [xZ,foldFirst_has ys,addFirst_has];simp only [zL,exists_eq_or_imp,or_assoc]
theorem firsts_has {ys:List El2}{c:Int}:(∃ q∈firsts ys,q.2=c)↔∃ q∈ys,q.2=c:=by
 unfold firsts;rw [foldFirst_has];simp
section
theorem noBool_fn:typeLookup (.type "function") (zQ "__bool__")=pure none:=by rw [typeLookup_type,yI];k_ne
theorem noLen_fn:typeLookup (.type "function") (zQ "__len__")=pure none:=by rw [typeLookup_type,yI];k_ne
theorem kpu {h₀ h:Heap}{L:zV}{m:NM}{mu rest:Led}(W:Wk h₀ L h m (mu++rest)):Kp h₀ (gnd h mu):=fun b o e=>gnd_get (W.fr.keep _ _ e) fun q=>by
 obtain ⟨p,hp,rfl⟩:=zN.mp q;have:=(W.nw p (l_l _ hp)).2.2;rw [this] at e;cases e
structure Judge (w:zT) (K:Kd w) (j:zV) (odd:Int) (asked:zV) (H:Heap):Prop where
 fn:∃ od fd osl,H.get? j=some ⟨.type "function",od,.func fd,osl⟩
 call:∀ {A:zU}{L:zV}{h₀ h:Heap}{t:Nat}{σ:zX}{m:NM}{rest:Led}{n0:Nat}{vs:List zY}{v:zY}{c:Int}{Q E:VP},
  Site w A L h₀→Wk h₀ L h m ((asked,lob vs n0)::rest)→Kp H h₀→A.depth+3<zS→A.units+150<cLine→vs.length≤900→K.is h₀ v c→
  (∀ h' t' n',Wk h₀ L h' m ((asked,lob (vs++[v]) n')::rest)→Q (.bool (decide (c=odd))) (S σ h' t'))→zZ (zW PW w) A (PySem.call (.ref j) [v]) Q E (S σ h t)
theorem Judge.kp {w:zT}{K:Kd w}{j:zV}{odd:Int}{asked:zV}{H H':Heap}(x:Judge w K j odd asked H) (k:Kp H H'):Judge w K j odd asked H' where
 fn:=let ⟨od,fd,osl,e⟩:=x.fn;⟨od,fd,osl,k _ _ e⟩
 call:=fun Z W kk=>x.call Z W (k.trans kk)
section
variable {w:zT}{K:Kd w}{A:zU}{E:VP}{σ:zX}{h₀ h:Heap}{t:Nat}{L:zV}{m:NM}{news:Led}{env:Env}{j asked:zV}{odd:Int}{H:Heap}
theorem tr_fn {fd:FuncData}{od:Option zV}{osl:Array (Option zY)}{Q:Bool→zX→Prop}(ho:h.get? j=some ⟨.type "function",od,.func fd,osl⟩) (k:Q true (S σ h t)):zZ (zW PW w) A (truthy (.ref j)) Q E (S σ h t):=by
 have hT:(S σ h t).TypeIs (.ref j) "function":=⟨_,ho,rfl⟩;unfold truthy
 first
  |refine w_b (wpAny_callSpecial?_none (name:=zQ "__bool__") hT noBool_fn ?_)
  |refine w_b (w_p (w_b (wpAny_callSpecial?_none (name:=zQ "__bool__") hT noBool_fn ?_)))
 first
  |refine w_b (wpAny_specialOf (name:=zQ "__len__") hT noLen_fn ?_)
  |refine w_b (w_p (w_b (wpAny_specialOf (name:=zQ "__len__") hT noLen_fn ?_)))
 exact w_p k
theorem c_judge {M:Model}{pos:Pos}{e:Expr}{rest:List Expr}{Q:VP}{s:zX}{fd:FuncData}{od:Option zV}{osl:Array (Option zY)}
 (he:zR (e::rest) env=(false,eval e env)::zR rest env) (hp:(backTo pos (zR rest env)).any (·.1)=false)
 (k:zZ M A (spliced (backTo pos (zR (e::rest) env))) (fun vs s₁=>s₁.heap.get? j=some ⟨.type "function",od,.func fd,osl⟩∧zZ M A (call (.ref j) vs) Q E s₁) E s):
 zZ M A (callWith pos (.ref j) [] (backTo pos (zR (e::rest) env)) []) Q E s:=by
 have hk:keepIn [(j,(⟨.type "function",od,.func fd,osl⟩:Obj))] (.ref j)=true:=by unfold keepIn;simp [List.lookup]
 rw [he] at k ⊢;refine callWith_of (by show ((false||(backTo pos (zR rest env)).any (·.1))||false)=false;rw [hp];rfl) (keeps_K hk) (Calls.evalArgs_plain (w_m k (fun vs s₁ q=>⟨?_,q.2⟩) fun _ _ x=>x));intro a o e;simp only [List.lookup] at e;split at e
 · rename_i hj;have:a=j:=by simpa using hj
   subst this;cases e
   exact q.1
 · cases e
theorem g_dict {name:Str}{id:String}{pl:Sem Bool}{d:zV}{es:Array DictEntry}{ep:Nat}{Q:zY×List zY→zX→Prop}(slot:Slot "dict" name id) (hty:typeOf (.builtin id)=pure (.type "method_descriptor"))
 (ho:h.get? d=some { cls:=.type "dict",data:=.dict es ep }) (k:Q (.builtin id,[.ref d]) (S σ h t)):zZ (zW PW w) A (getMethod (.ref d) name pl) Q E (S σ h t):=
 getMethod_builtin (s:=S σ h t) (v:=.ref d) (T:="dict") ⟨_,ho,rfl⟩ PySem.F.plainAttrs_dict slot hty (fun a e=>by cases e;exact ⟨_,ho,rfl⟩) k
theorem g_setm {name:Str}{id:String}{pl:Sem Bool}{d:zV}{o:Obj}{Q:zY×List zY→zX→Prop}(slot:Slot "set" name id) (hty:typeOf (.builtin id)=pure (.type "method_descriptor"))
 (ho:h.get? d=some o) (hc:o.cls= .type "set") (hd:o.dict=none) (k:Q (.builtin id,[.ref d]) (S σ h t)):zZ (zW PW w) A (getMethod (.ref d) name pl) Q E (S σ h t):=
 getMethod_builtin (s:=S σ h t) (v:=.ref d) (T:="set") ⟨_,ho,hc⟩ PySem.F.plainAttrs_set slot hty (fun a e=>by cases e;exact ⟨_,ho,hd⟩) k
theorem m_keys {d:zV}{xs:List Rw}{ep:Nat}{Q:VP}(W:Wk h₀ L h m news) (ho:h.get? d=some (dob K xs ep)) (h1:d≠1)
 (k:∀ v h',Wk h₀ L h' m ((v,{ cls:=.type "dict_keys",data:=.fields #[.ref d] })::news)→Kp h h'→Q (.ref v) (S σ h' t)):zZ (zW PW w) A (call (.builtin "dict.keys") [.ref d]) Q E (S σ h t):=by
 refine w_c PySem.F.slot_dict_keys (dob_type ho) PySem.F.entry_dict_keys ?_ (PySem.F.args_dict_keys_1 _);refine w_b ?_;unfold Builtin.Dict.noArgs;refine w_b (wpAny_notOrdered_dict (dob_type ho) ?_);show zZ _ _ (pure d) _ _ _
 refine w_p ?_;show zZ _ _ (Builtin.Dict.showsAll d >>=_) _ _ _
 unfold Builtin.Dict.showsAll;rw [if_neg (by simpa [sysModules] using h1)];refine w_b (w_p ?_);exact w_b (yJ (w_p ⟨_,rfl,k _ _ (W.new { cls:=.type "dict_keys",data:=.fields #[.ref d] } rfl) (Kp.push _ _)⟩))
theorem m_setadd {a:zV}{x:zY}{c:Int}{Q:VP}(hu:A.units+80<cLine) (W:Wk h₀ L h m ((a,sob0 w)::news)) (hx:K.is h x c) (hxo:K.ok c)
 (k:∀ h' t' pl,Wk h₀ L h' m ((a,sob1 w (K.hash c) x pl)::news)→Q .none (S σ h' t')):zZ (zW PW w) A (call (.builtin "set.add") [.ref a,x]) Q E (S σ h t):=by
 have ho:=W.get (.head _);have hT:(S σ h t).TypeIs (.ref a) "set":=⟨_,ho,rfl⟩;refine w_c PySem.F.slot_set_add hT PySem.F.entry_set_add ?_ (PySem.F.args_set_add_2 _ _);unfold Builtin.«set.add» Builtin.Frozenset.oneOther;simp only [List.isEmpty_nil,bind_assoc];unfold Builtin.Frozenset.addrOf;refine w_b (w_p ?_)
 try dsimp only
 refine w_b (w_p ?_)
 try dsimp only
 refine w_b (set_add0 (K:=K) (s:=S σ h t) (by rw [yN];lia) ho hx hxo fun tk h' pl hs he=>?_);exact w_p ⟨_,rfl,k h' tk pl (W.upd hs he)⟩
theorem c_b10 {M:Model}{s:zX}{id:String}{pos:Pos}{self:zY}{Q:VP}(k:zZ M A (call (.builtin id) [self]) Q E s):zZ M A (callWith pos (.builtin id) [self] (backTo pos (zR [] env)) []) Q E s:=
 Calls.callWith_builtin rfl (PyProof.Rows.evalArgs_empty k)
theorem x_del1 {M:Model}{s:zX}{o i:Expr}{p pos:Pos}{Q:FP}(k:zZ M A (eval o env) (fun ov s₁=>zZ M A (eval i env) (fun iv s₂=>zZ M A (delItem ov iv) (fun _=>Q .next) E s₂) E s₁) E s):
 zZ M A (exec (.Delete [.Subscript o i p] pos) env) Q E s:=by
 refine wpAny_Delete (wpAny_deleteEach_cons ?_);rw [arm_delete_Subscript];refine w_b (w_m k (fun ov s₁ h₁=>w_b (w_h (w_m h₁ (fun iv s₂ h₂=>w_b (wpAny_standAt (w_b (w_h (w_m h₂ (fun _ s₃ h₃=>?_) fun _ _ x=>x))))) fun _ _ x=>x))) fun _ _ x=>x);exact wpAny_release (wpAny_deleteEach_nil h₃)
theorem p_view {v d:zV}{xs:List Rw}{ep:Nat}{Q:VP}(W:Wk h₀ L h m news) (hv:h.get? v=some { cls:=.type "dict_keys",data:=.fields #[.ref d] }) (ho:h.get? d=some (dob K xs ep))
 (k:∀ I h',Wk h₀ L h' m ((I,kit d 0 xs.length ep)::news)→Kp h h'→Q (.ref I) (S σ h' t)):zZ (zW PW w) A (pyIter (.ref v)) Q E (S σ h t):=by
 refine raw_view (s:=S σ h t) (d:=d) (es:=ents K xs) (ep:=ep) hv (raw_dob ho) ?_;rw [ents_size];exact k _ _ (W.new (kit d 0 xs.length ep) rfl) (Kp.push _ _)
theorem p_set0 {a:zV}{Q:VP}(W:Wk h₀ L h m news) (ho:h.get? a=some (sob0 w)) (k:∀ I h',Wk h₀ L h' m ((I,sit a 0 0 0 0)::news)→Kp h h'→Q (.ref I) (S σ h' t)):zZ (zW PW w) A (pyIter (.ref a)) Q E (S σ h t):=
 set_iter (s:=S σ h t) (es:=#[]) (ep:=0) (tb:=tb0 w) ho (by decide) ⟨rfl,rfl⟩ (k _ _ (W.new (sit a 0 0 0 0) rfl) (Kp.push _ _))
theorem p_set1 {a:zV}{hh:Int}{x:zY}{pl:Bool}{Q:VP}(W:Wk h₀ L h m news) (ho:h.get? a=some (sob1 w hh x pl)) (k:∀ I h',Wk h₀ L h' m ((I,sit a (slotOf w hh 0) 0 1 1)::news)→Kp h h'→Q (.ref I) (S σ h' t)):zZ (zW PW w) A (pyIter (.ref a)) Q E (S σ h t):=by
 have e:slotOf w hh 0=0:=by unfold slotOf;split <;> rfl
 rw [e] at k;exact set_iter (s:=S σ h t) (es:=#[(hh,x)]) (ep:=1) (tb:=tb1 w (zC hh % 8) pl) ho (by simp) ⟨rfl,rfl⟩ (k _ _ (W.new (sit a 0 0 1 1) rfl) (Kp.push _ _))
end
end
noncomputable def okX (odd:Int) (rows:List Rw):List Rw:=rows.filter fun r=>decide (r.1≠odd)
theorem del_junk {w A L' g h t σ} {K:Kd w}{bj bd:zV}{jo:Obj}{rows:List Rw}{ep:Nat}{rest:Led}{odd:Int}{f:zV}{m} {Q:FP}{E:VP}{p1 p2 p3 p4 p5 p6 p7:Pos}
 (Z:Site w A L' g) (W:Wk g L' h m ((bj,jo)::(bd,dob K rows ep)::rest)) (ru:A.units+160<cLine) (js:JS w K odd rows jo) (hX:Keyed K g rows) (hz:rows.length≤100)
 (e1:m (zQ "junk")=some (.ref bj)) (e2:m (zQ "b2j")=some (.ref bd))
 (k:∀ h' t' m' ep',(∀ y,(y==zQ "elt")=false→m' y=m y)→Wk g L' h' m' ((bj,jo)::(bd,dob K (okX odd rows) ep')::rest)→Q .next (S σ h' t')):
 zZ (zW PW w) A (exec (.For (.Name (zQ "elt") p1) (.Name (zQ "junk") p2) [.Delete [.Subscript (.Name (zQ "b2j") p3) (.Name (zQ "elt") p4) p5] p6] [] p7) (envX n107 (dS (me PW 8 5)) L' f (.ref 202) [])) Q E (S σ h t):=by
 refine x_for ?_ (by intro _;rfl);k_go;rcases js with ⟨rfl,hn⟩|⟨r,hr,hc,pl,rfl⟩
 · have e0:okX odd rows=rows:=List.filter_eq_self.mpr fun r hr=>by simpa using hn r hr
   rw [e0] at k;refine p_set0 W (W.get (.head _)) fun I h' W' _=>?_;wtm_at "w";refine for_loopX (own:=[(I,sit bj 0 0 0 0)]) (news:=(bj,sob0 w)::(bd,dob K rows ep)::rest) (fun i m' news'=>news'=(bj,sob0 w)::(bd,dob K rows ep)::rest∧m'=m) (StpT.of (stp_set0 Z.hh I) (by intro _;rfl)) ?_ ⟨rfl,rfl⟩ rfl W ?_ ?_
   · rintro i m' news' own' h' ⟨rfl,rfl⟩ W;exact W.get (by wtm_at "m")
   · intro i v m₁ news₁ own₁ h₁ t₁ hi;exact absurd hi (Nat.not_lt_zero _)
   · rintro h' t' m' news' ⟨rfl,rfl⟩ W;exact k h' t' m' ep (fun _ _=>rfl) W
 · refine p_set1 W (W.get (.head _)) fun I h' W' _=>?_;wtm_at "w"
   refine for_loopX (own:=[(I,sit bj (slotOf w (K.hash odd) 0) 0 1 1)]) (news:=(bj,sob1 w (K.hash odd) r.2.1 pl)::(bd,dob K rows ep)::rest)
    (fun i m' news'=>∃ ep',news'=(bj,sob1 w (K.hash odd) r.2.1 pl)::(bd,dob K (if i=0 then rows else okX odd rows) ep')::rest∧∀ y,(y==zQ "elt")=false→m' y=m y) (StpT.of (stp_set1 (x:=r.2.1) (pl:=pl) Z.hh I) (by intro _;rfl)) ?_ ⟨ep,by rfl,fun _ _=>rfl⟩ rfl W ?_ ?_
   · rintro i m' news' own' h' ⟨ep',rfl,_⟩ W;exact W.get (by wtm_at "m")
   · clear W;intro i v m₁ news₁ own₁ h₁ t₁ hi j8 j9 W;refine hid fun QQ hQ=>?_;obtain ⟨ho1,rfl⟩:=j8;obtain ⟨ep',rfl,f1⟩:=j9;obtain rfl:i=0:=by (revert hi;k_in)
     have g2:m₁ (zQ "b2j")=some (.ref bd):=by rw [f1 _ (by k_ne)];exact e2
     rw [if_pos rfl] at W;k_go;k_go;with_reducible refine x_del1 ?_
     kd_p;refine m_ddel (K:=K) (c:=odd) (news:=own₁++((bj,sob1 w (K.hash odd) r.2.1 pl)::rest)) (by lia) (W.perm (by wtm_at "p")) (hX.kp W.kp) (K.keeps (by rw [← hc];exact (hX.1 r hr).1) W.kp) (by rw [← hc];exact (hX.1 r hr).2) (by lia) ⟨r,hr,hc⟩ fun h' t' ep' W'=>?_;wtm_at "w";kd_p;refine hQ _ _ (tn_next (news:=(bj,sob1 w (K.hash odd) r.2.1 pl)::(bd,dob K (if 0+1=0 then rows else okX odd rows) ep')::rest) (by rw [if_neg (by decide)];exact W.perm (by wtm_at "p")) ⟨ep',by rfl,fun y hy=>by rw [setm_ne hy];exact f1 y hy⟩)
   · rintro h' t' m' news' ⟨ep',rfl,f1⟩ W;rw [if_neg (by decide)] at W;exact k h' t' m' ep' f1 W
inductive CI {w:zT}(K:Kd w) (ys:List El2) (x bd two dx asked:zV) (od':Obj) (n0:Nat) (i:Nat) (m':NM) (news':Led):Prop
 |mk (rows:List Rw) (ls:Led) (jk:Led) (ep:Nat) (x1:news'=(bd,dob K rows ep)::(ls++(jk++[(dx,od'),(asked,lob [] n0)]))) (x2:BRows (ys.take i) rows ls) (x3:rows.map (fun r=>(r.2.1,r.1))=firsts (ys.take i)) (x4:(∀ y∈ys.take i,K.ok y.2)) (x5:m' (zQ "self")=some (.ref x)) (x6:m' (zQ "b2j")=some (.ref bd)) (x7:m' (zQ "b")=some (.ref two))
inductive CJ {w:zT}(K:Kd w) (odd:Int) (rows:List Rw) (ep:Nat) (v dx x bd two j bj asked:zV) (od':Obj) (tl:Led) (i:Nat) (m':NM) (news':Led):Prop
 |mk (jo:Obj) (n1:Nat) (x1:news'=(bj,jo)::(asked,lob ((rows.take i).map (·.2.1)) n1)::(bd,dob K rows ep)::(v,{ cls:=.type "dict_keys",data:=.fields #[.ref bd] })::(dx,od')::tl) (x2:JS w K odd (rows.take i) jo) (x3:m' (zQ "self")=some (.ref x)) (x4:m' (zQ "b2j")=some (.ref bd)) (x5:m' (zQ "b")=some (.ref two)) (x6:m' (zQ "isjunk")=some (.ref j)) (x7:m' (zQ "junk")=some (.ref bj))
theorem chain_body {w A L' g h t σ} {K:Kd w}{x dx one two j asked:zV}{od:Obj}{ys:List El2}{odd:Int}{n0:Nat}{f:zV}{m} {Q:FP}{E:VP}
 (FA:Frm A (envX n107 (dS (me PW 8 5)) L' f (.ref 202) [])) (KF:KdF K) (Z:Site w A L' g) (W:Wk g L' h m [(dx,od),(asked,lob [] n0)]) (room:A.depth+3<zS) (ru:A.units+160<cLine) (hx:g.get? x=some (instObj 257 dx)) (sd:Sd od (as2 (.ref j) (.ref one) (.ref two)))
 (hz:ys.length≤100) (hl:∃ n,g.get? two=some (lob (ys.map (·.1)) n)) (hy:AsK K g ys) (hJ:Judge w K j odd asked g)
 (e1:m (zQ "self")=some (.ref x))
 (ke:∀ e d h' t',okd L' d→Fl A g [(asked,lob [] n0)] e d h'→(∃ y∈ys,¬ K.ok y.2)→E (.ref e) (S σ h' t'))
 (k:∀ h' t' m' od' bd bj bp rows ls jk ep' jo n',Sd od' (as5 (.ref j) (.ref one) (.ref two) .none (.ref bd) (.ref bj) (.ref bp))→
  Wk g L' h' m' ((dx,od')::(asked,lob (rows.map (·.2.1)) n')::(bd,dob K (okX odd rows) ep')::(bj,jo)::(bp,sob0 w)::(ls++jk))→JS w K odd rows jo→BRows ys rows ls→rows.map (fun r=>(r.2.1,r.1))=firsts ys→(∀ y∈ys,K.ok y.2)→bd≠1→Q .next (S σ h' t')):
 zZ (zW PW w) A (execs (dB (me PW 8 5)) (envX n107 (dS (me PW 8 5)) L' f (.ref 202) [])) Q E (S σ h t):=by
 obtain ⟨nl,hl⟩:=hl;with_unfolding_all refine x_cons ?_
 kd_p;k_call_by "gat" (.ref two);kd_p;with_reducible refine x_asg2 ?_ (by wtm_at "u") (by wtm_at "u")
 have n1:=W.ne1 Z;refine e_dict0 W fun bd h' W' _ ebd=>?_;rw [← ebd] at n1;replace W':Wk g L' h' _ ((dx,od)::(bd,dob K [] 0)::(asked,lob [] n0)::[]):=W'.perm (by wtm_at "p");wtm_at "w";with_reducible refine as_attr ?_
 kd_p;wtm_at "z";replace sd:=sdc (bs:=as3 (.ref j) (.ref one) (.ref two) (.ref bd)) sd (by k_ne);kd_p;refine x_for ?_ (by intro _;rfl);kd_p;refine c_enum W (W.kp _ _ hl) fun I it o h' hlo W' kp=>?_;wtm_at "w";have hI:=W.get (show (I,enob it 0 .none)∈_ by wtm_at "m");refine wpAny_pyIter_enum (e:=I) (it:=it) (i:=0) (old:=.none) hI ?_;have hL:Ls g two (ys.map (·.1)):=⟨_,hl,rfl,_,rfl⟩
 refine for_loopX (own:=[(it,o),(I,enob it 0 .none)]) (news:=[(bd,dob K [] 0),(dx,od'),(asked,lob [] n0)])
  (CI K ys x bd two dx asked od' n0)
  (stp_enum Z.hh I it two (ys.map (·.1))) (fun i m' news' own' h' _ W=>hL.kp W.kp) ⟨[],[],[],0,by rfl,.nil,by rfl,(by intro y hy;cases hy),by k_is,by k_is,by k_is⟩ ⟨.none,o,[],by rfl,hlo⟩ (W.perm (by wtm_at "p")) ?_ ?_
 · clear W hI kp hlo;intro i v m₁ news₁ own₁ h₁ t₁ hi j8 j9 W;refine hid fun QQ hQ=>?_;obtain ⟨old,o',junk,T,tk,x',rfl,ho',rfl,hxi⟩:=j8;obtain ⟨rows,ls,jk,ep,rfl,hB,hF,hok,f1,f2,f3⟩:=j9;have hi':i<ys.length:=by simpa using hi
   obtain ⟨y,hyi⟩:∃ y,ys[i]? =some y:=⟨ys[i],by simp [hi']⟩;have hvy:x'=y.1:=by rw [zF,hyi] at hxi;simpa using hxi.symm
   subst hvy;have hym:y∈ys:=l_m hyi;obtain ⟨ai,qa⟩:∃ ai:Int,ai=i:=⟨_,rfl⟩;rw [← qa] at W;kd_p;have hbd:=W.get (show (bd,dob K rows ep)∈_ by wtm_at "m");refine g_dict PySem.F.slot_dict_setdefault PySem.F.type_dict_setdefault hbd ?_;kd_p;with_reducible rename zV=>ln
   have nd:(rows.map (·.1)).Nodup:=by
    have h1:=firsts_nodup (ys.take i) [] List.nodup_nil;have h2:(rows.map (·.1))=(firsts (ys.take i)).map (·.2):=by rw [← hF,List.map_map];rfl
    rw [h2];exact h1
   have hlen:rows.length≤i:=by
    have h1:=firsts_len (ys.take i) [];have h2:rows.length=(firsts (ys.take i)).length:=by rw [← hF,zO]
    rw [yP,yA] at h1;unfold firsts at h2;have:=Nat.min_le_left i ys.length
    (revert h1 h2 this;k_in)
   have hX:Keyed K g rows:=by
    refine ⟨fun r hr=>?_,nd⟩;have hm:(r.2.1,r.1)∈firsts (ys.take i):=by rw [← hF];exact zN.mpr ⟨r,hr,rfl⟩
    have hm2:(r.2.1,r.1)∈ys.take i:=by
     rcases firsts_sub _ _ hm with h|h
     · cases h
     · exact h
    exact ⟨hy _ (List.mem_of_mem_take hm2),hok _ hm2⟩
   have tk1:ys.take (i+1)=ys.take i++[y]:=by rw [yS,hyi];rfl
   have hstep:firsts (ys.take (i+1))=addFirst (firsts (ys.take i)) y:=by rw [tk1];unfold firsts;rw [List.foldl_append];rfl
   by_cases hk:K.ok y.2
   · have hlt:(ys.take i).length=i:=by rw [yP];(revert hi';k_in)
     have hok':∀ z∈ys.take (i+1),K.ok z.2:=by
      intro z hz;rw [tk1] at hz;rcases zE.mp hz with hz|hz
      · exact hok z hz
      · rw [zH.mp hz];exact hk
     have hidx:idx y.2 (ys.take i++[y])=idx y.2 (ys.take i)++[ai]:=by rw [idx_app,if_pos rfl,hlt,qa]
     have hrow:∀ c:Int,rows.any (fun r=>decide (r.1=c))=(firsts (ys.take i)).any (fun z=>decide (z.2=c)):=fun c=>by rw [← hF,List.any_map];rfl
     refine m_setdefault (K:=K) (news:=(ln,lob [] 0)::(it,o')::(I,enob it (i+1) old)::(T,tob [.int ai tk,y.1] 0)::(junk++(ls++(jk++[(dx,od'),(asked,lob [] n0)])))) n1 (by lia) (W.perm (by wtm_at "p")) (hX.kp W.kp) (K.keeps (hy y hym) W.kp) hk (by revert hz hi' hlen;k_in) ?_ ?_
     · intro t' v hv;obtain ⟨ps1,ps2,l,vs,n,rfl,rfl,hi1,hnext⟩:=hB.at nd hv;kd_p
       have hvl:vs.length≤1000:=by
        rw [hi1.1];have:=idx_len y.2 (ys.take i) 0;unfold idx
        (revert hz hi' hlt this;k_in)
       refine m_append (news:=(ln,lob [] 0)::(it,o')::(I,enob it (i+1) old)::(T,tob [.int ai tk,y.1] 0)::(junk++((bd,dob K rows ep)::(ps1++(ps2++(jk++[(dx,od'),(asked,lob [] n0)])))))) (W.perm (by wtm_at "p")) hvl fun h' n' W'=>?_;wtm_at "w";kd_p;refine hQ _ _ (tn_next (news:=(bd,dob K rows ep)::((ps1++(l,lob (vs++[.int ai tk]) n')::ps2)++(((ln,lob [] 0)::jk)++[(dx,od'),(asked,lob [] n0)]))) (by rw [← qa];exact W.perm (by wtm_at "p")) ⟨rows,_,_,ep,by rfl,?_,?_,hok',by k_is,by k_is,by k_is⟩)
       · rw [tk1];exact hnext y _ _ rfl (by rw [hidx];exact hi1.snoc)
       · rw [hstep];unfold addFirst;rw [← hrow y.2]
         have:rows.any (fun r=>decide (r.1=y.2))=true:=by
          cases ha:rows.any (fun r=>decide (r.1=y.2)) with
          |true=>rfl
          |false=>
           rw [atX_mem.mpr (fun r hr e=>by rw [List.any_eq_false] at ha;exact ha r hr (by simpa using e))] at hv;cases hv
         rw [if_pos this];exact hF
     · intro h' t' ep' hv W';wtm_at "w";have hnr:=atX_mem.mp hv;kd_p;refine m_append (news:=(bd,dob K (rows++[(y.2,y.1,.ref ln)]) ep')::(it,o')::(I,enob it (i+1) old)::(T,tob [.int ai tk,y.1] 0)::(junk++(ls++(jk++[(dx,od'),(asked,lob [] n0)])))) (W.perm (by wtm_at "p")) (by simp) fun h' n' W'=>?_;wtm_at "w";kd_p;refine hQ _ _ (tn_next (news:=(bd,dob K (rows++[(y.2,y.1,.ref ln)]) ep')::((ls++[(ln,lob ([]++[.int ai tk]) n')])++(jk++[(dx,od'),(asked,lob [] n0)]))) (by rw [← qa];exact W.perm (by wtm_at "p")) ⟨_,_,_,ep',by rfl,?_,?_,hok',by k_is,by k_is,by k_is⟩)
       · rw [tk1];refine BRows.snoc (hB.other hnr) ⟨_,n',rfl,rfl,?_⟩;show IntsL _ (idx y.2 _)
         rw [hidx]
         have hno:idx y.2 (ys.take i)=[]:=idx_none fun z hz e=>by
          have hin:∃ q∈firsts (ys.take i),q.2=y.2:=firsts_has.mpr ⟨z,hz,e⟩;obtain ⟨q,hq,e'⟩:=hin;rw [← hF] at hq;obtain ⟨r,hr,rfl⟩:=zN.mp hq;exact hnr r hr e'
         rw [hno];exact IntsL.nil.snoc
       · rw [hstep,zK,hF];unfold addFirst;rw [← hrow y.2]
         have:rows.any (fun r=>decide (r.1=y.2))=false:=by
          rw [List.any_eq_false];intro r hr;simpa using hnr r hr
         rw [if_neg (by rw [this];decide)];rfl
   · refine m_setdefault_f (K:=K) Z.hh n1 (by lia) (W.get (show (bd,dob K rows ep)∈_ by wtm_at "m")) (KF (K.keeps (hy y hym) W.kp) hk) fun h' t' e xx=>?_;obtain ⟨y1,-⟩:=fl_new Z W xx;exact fl_loop' (L:=L') FA (by rfl) y1 trivial fun h'' y2 _=>ke _ _ _ _ (by rfl) (y2.sub (by intro q hq;simp only [zL,List.not_mem_nil,or_false] at hq;subst hq;wtm_at "m")) ⟨y,hym,hk⟩
 · clear W hI kp hlo;rintro h' t' m' news' ⟨rows,ls,jk,ep,rfl,hB,hF,hok,f1,f2,f3⟩ W;have tka:ys.take (ys.map (·.1)).length=ys:=by rw [zO,yR]
   rw [tka] at hB hF hok;kd_p;with_reducible refine x_asg2 ?_ (by wtm_at "u") (by wtm_at "u")
   kd_p;with_reducible refine c_type0 ?_
   refine c_set0 W fun bj h' W' _ _=>?_;wtm_at "w";replace W:=W.perm (news':=(dx,od')::(bj,sob0 w)::(bd,dob K rows ep)::(asked,lob [] n0)::(ls++jk)) (by wtm_at "p");with_reducible refine as_attr ?_
   kd_p;wtm_at "z";replace sd:=sdc (bs:=as4 (.ref j) (.ref one) (.ref two) (.ref bd) (.ref bj)) sd (by k_ne);kd_p;k_call_by "gat" (.ref j);kd_p;obtain ⟨jod,jfd,josl,hjf⟩:=hJ.fn;refine tr_fn (kpg W.kp hjf) ?_;kd_p;refine x_for ?_ (by intro _;rfl);k_go;k_go;refine g_dict PySem.F.slot_dict_keys PySem.F.type_dict_keys (W.get (show (bd,dob K rows ep)∈_ by wtm_at "m")) ?_;with_reducible refine c_b10 ?_
   refine m_keys (K:=K) W (W.get (show (bd,dob K rows ep)∈_ by wtm_at "m")) n1 fun v h' W' _=>?_;wtm_at "w";refine p_view W (W.get (.head _)) (W.get (show (bd,dob K rows ep)∈_ by wtm_at "m")) fun I2 h' W' _=>?_;wtm_at "w"
   have nd:(rows.map (·.1)).Nodup:=by
    have h1:=firsts_nodup ys [] List.nodup_nil;have h2:(rows.map (·.1))=(firsts ys).map (·.2):=by rw [← hF,List.map_map];rfl
    rw [h2];exact h1
   have hlen:rows.length≤100:=by
    have h1:=firsts_len ys [];have h2:rows.length=(firsts ys).length:=by rw [← hF,zO]
    rw [yA] at h1;unfold firsts at h2
    (revert hz h1 h2;k_in)
   have hX:Keyed K g rows:=by
    refine ⟨fun r hr=>?_,nd⟩;have hm:(r.2.1,r.1)∈firsts ys:=by rw [← hF];exact zN.mpr ⟨r,hr,rfl⟩
    have hm2:(r.2.1,r.1)∈ys:=by
     rcases firsts_sub _ _ hm with h|h
     · cases h
     · exact h
    exact ⟨hy _ hm2,hok _ hm2⟩
   refine for_loopX (own:=[(I2,kit bd 0 rows.length ep)]) (news:=(bj,sob0 w)::(asked,lob [] n0)::(bd,dob K rows ep)::(v,{ cls:=.type "dict_keys",data:=.fields #[.ref bd] })::(dx,od')::(ls++jk))
    (CJ K odd rows ep v dx x bd two j bj asked od' (ls++jk))
    (StpT.of (stp_keys (K:=K) (xs:=rows) (ep:=ep) Z.hh I2 bd) (by intro _;rfl)) ?_ ⟨_,n0,by rfl,.inl ⟨rfl,(by intro r hr;cases hr)⟩,by k_is,by k_is,by k_is,by k_is,by k_is⟩ rfl (W.perm (by wtm_at "p")) ?_ ?_
   · rintro i m' news' own' h' ⟨jo,n1,rfl,_⟩ W;exact W.get (by wtm_at "m")
   · clear W;intro i v' m₁ news₁ own₁ h₁ t₁ hi j8 j9 W;refine hid fun QQ hQ=>?_;obtain ⟨ho1,hv'⟩:=j8;obtain ⟨jo,n2,rfl,hjs,f1,f2,f3,f4,f5⟩:=j9;obtain ⟨r,hr⟩:∃ r,rows[i]? =some r:=⟨rows[i],by simp [hi]⟩;rw [hr] at hv';have hvr:v'=r.2.1:=(l_j hv').symm;subst hvr;have hrm:r∈rows:=l_m hr;have tk1:rows.take (i+1)=rows.take i++[r]:=by rw [yS,hr];rfl
     k_go;k_go;k_go;k_go;k_go;k_go;with_reducible refine c_judge (fd:=jfd) (od:=jod) (osl:=josl) (by wtm_at "u") (by wtm_at "u") ?_
     k_go;refine ⟨kpg W.kp hjf,?_⟩;refine hJ.call (vs:=(rows.take i).map (·.2.1)) (n0:=n2) (rest:=(I2,kit bd (i+1) rows.length ep)::(bj,jo)::(bd,dob K rows ep)::(v,{ cls:=.type "dict_keys",data:=.fields #[.ref bd] })::(dx,od')::(ls++jk)) Z (by rw [ho1] at W;exact W.perm (by wtm_at "p")) (Kp.refl g) room (by lia) (by rw [zO,yP];(revert hlen hi;k_in)) (hX.1 r hrm).1 fun h' t' n' W'=>?_;wtm_at "w";have hseq:(rows.take i).map (·.2.1)++[r.2.1]=(rows.take (i+1)).map (·.2.1):=by rw [tk1,zK];rfl
     rw [hseq] at W;by_cases hc:r.1=odd
     · rw [l_t hc];kd_p
       have hjo:jo=sob0 w:=by
        rcases hjs with ⟨e,-⟩|⟨r',hr',e,-⟩
        · exact e
        · exfalso;obtain ⟨q,hq⟩:=yB.mp hr'
          have hq1:q<i:=by
           have:=(l_i.mp hq).1;rw [yP] at this
           (revert hi this;k_in)
          rw [List.getElem?_take_of_lt hq1] at hq;have:=key_unique nd hq hr (by rw [e,hc])
          (revert hq1 this;k_in)
       subst hjo;refine g_setm PySem.F.slot_set_add PySem.F.type_set_add (W.get (show (bj,sob0 w)∈_ by wtm_at "m")) rfl rfl ?_;kd_p;refine m_setadd (K:=K) (c:=r.1) (news:=(asked,lob ((rows.take (i+1)).map (·.2.1)) n')::(I2,kit bd (i+1) rows.length ep)::(bd,dob K rows ep)::(v,{ cls:=.type "dict_keys",data:=.fields #[.ref bd] })::(dx,od')::(ls++jk)) (by lia) (W.perm (by wtm_at "p")) (K.keeps (hX.1 r hrm).1 W.kp) (hX.1 r hrm).2 fun h' t' pl W'=>?_;wtm_at "w";kd_p;refine hQ _ _ (tn_next (news:=(bj,sob1 w (K.hash r.1) r.2.1 pl)::(asked,lob ((rows.take (i+1)).map (·.2.1)) n')::(bd,dob K rows ep)::(v,{ cls:=.type "dict_keys",data:=.fields #[.ref bd] })::(dx,od')::(ls++jk)) (by rw [ho1];exact W.perm (by wtm_at "p")) ⟨_,n',by rfl,.inr ⟨r,?_,hc,pl,by rw [hc]⟩,by k_is,by k_is,by k_is,by k_is,by k_is⟩);rw [tk1];exact l_r _ (.head _)
     · rw [l_f hc];kd_p;refine hQ _ _ (tn_next (news:=(bj,jo)::(asked,lob ((rows.take (i+1)).map (·.2.1)) n')::(bd,dob K rows ep)::(v,{ cls:=.type "dict_keys",data:=.fields #[.ref bd] })::(dx,od')::(ls++jk)) (by rw [ho1];exact W.perm (by wtm_at "p")) ⟨_,n',by rfl,?_,by k_is,by k_is,by k_is,by k_is,by k_is⟩);rcases hjs with ⟨e,hn⟩|⟨r',hr',e,pl,ejo⟩
       · refine .inl ⟨e,fun z hz=>?_⟩;rw [tk1] at hz;rcases zE.mp hz with hz|hz
         · exact hn z hz
         · rw [zH.mp hz];exact hc
       · exact .inr ⟨r',by rw [tk1];exact l_l _ hr',e,pl,ejo⟩
   · clear W;rintro h' t' m' news' ⟨jo,n2,rfl,hjs,f1,f2,f3,f4,f5⟩ W;rw [yR] at hjs W;kd_p;refine del_junk (K:=K) (rest:=(asked,lob (rows.map (·.2.1)) n2)::(v,{ cls:=.type "dict_keys",data:=.fields #[.ref bd] })::(dx,od')::(ls++jk)) Z (W.perm (by wtm_at "p")) ru hjs hX hlen f5 f2 fun h' t' m'' ep2 hm W'=>?_;wtm_at "w";have f1':m'' (zQ "self")=some (.ref x):=by rw [hm _ (by k_ne)];exact f1
     have f3':m'' (zQ "b")=some (.ref two):=by rw [hm _ (by k_ne)];exact f3
     kd_p;with_reducible refine x_asg2 ?_ (by wtm_at "u") (by wtm_at "u")
     kd_p;with_reducible refine c_type0 ?_
     refine c_set0 W fun bp h' W' _ _=>?_;wtm_at "w";replace W:=W.perm (news':=(dx,od')::(asked,lob (rows.map (·.2.1)) n2)::(bd,dob K (okX odd rows) ep2)::(bj,jo)::(bp,sob0 w)::(ls++((v,{ cls:=.type "dict_keys",data:=.fields #[.ref bd] })::jk))) (by wtm_at "p");with_reducible refine as_attr ?_
     kd_p;wtm_at "z";replace sd:=sdc (bs:=as5 (.ref j) (.ref one) (.ref two) .none (.ref bd) (.ref bj) (.ref bp)) sd (by k_ne);kd_p;refine b_len (vs:=ys.map (·.1)) (hL.kp W.kp) (by rw [zO];lia) fun tk t'=>?_;obtain ⟨ln,qln⟩:∃ ln:Int,ln=((ys.map (·.1)).length:Nat):=⟨_,rfl⟩;rw [← qln];kd_p;k_call_by "gat" (.bool true);kd_p
     · rename_i hge;rw [zO] at qln;lia
     · exact k _ _ _ _ _ _ _ _ _ _ _ _ _ sd W hjs hB hF hok n1
def Made (w:zT) (K:Kd w) (j one two dx asked:zV) (odd:Int) (ys:List El2) (news:Led):Prop:=∃ od bd bj bp rows ls jk ep jo n,
 news=(dx,od)::(asked,lob ((firsts ys).map (·.1)) n)::(bd,dob K (okX odd rows) ep)::(bj,jo)::(bp,sob0 w)::(ls++jk)∧Sd od (as5 (.ref j) (.ref one) (.ref two) .none (.ref bd) (.ref bj) (.ref bp))∧
 JS w K odd rows jo∧BRows ys rows ls∧rows.map (fun r=>(r.2.1,r.1))=firsts ys∧(∀ y∈ys,K.ok y.2)∧bd≠1
structure Giv (w:zT) (K:Kd w) (x dx two j asked:zV) (odd:Int) (ys:List El2) (g:Heap):Prop where
 x:g.get? x=some (instObj 257 dx)
 two:∃ n,g.get? two=some (lob (ys.map (·.1)) n)
 ys:AsK K g ys
 J:Judge w K j odd asked g
theorem Giv.kp {w K x dx two j asked odd ys g g'} (a:Giv w K x dx two j asked odd ys g) (k:Kp g g'):Giv w K x dx two j asked odd ys g':=
 ⟨k _ _ a.x,let ⟨n,e⟩:=a.two;⟨n,k _ _ e⟩,a.ys.kp k,a.J.kp k⟩
theorem c_fn10 {w:zT}{A:zU}{L:zV}{h₀ h:Heap}{m:NM}{news:Led}{σ:zX}{t:Nat}{E:VP}{f self:zY}{env:Env}{pos:Pos}{Q:VP}(Z:Site w A L h₀) (W:Wk h₀ L h m news) (hk:keepIn (KF PW w.params) f=true)
 (k:zZ (zW PW w) A (call f [self]) Q E (S σ h t)):zZ (zW PW w) A (callWith pos f [self] (backTo pos (zR [] env)) []) Q E (S σ h t):=callWith_K0 (first:=[self]) (W.inK Z) hk k
theorem chain_spec {w A L h₀ h t σ m rest} {K:Kd w}{x dx one two j asked:zV}{od:Obj}{ys:List El2}{odd:Int}{n0:Nat}{Q E:VP}
 (KF:KdF K) (Z:Site w A L h₀) (W:Wk h₀ L h m ([(dx,od),(asked,lob [] n0)]++rest)) (room:A.depth+4<zS) (ru:A.units+170<cLine) (sd:Sd od (as2 (.ref j) (.ref one) (.ref two)))
 (hz:ys.length≤100) (G:Giv w K x dx two j asked odd ys (gnd h [(dx,od),(asked,lob [] n0)]))
 (ke:∀ e h' t',Fl A h₀ ((asked,lob [] n0)::rest) e .fly h'→h'.Ns L m→(∃ y∈ys,¬ K.ok y.2)→E (.ref e) (S σ h' t'))
 (k:∀ h' t' news',Made w K j one two dx asked odd ys news'→Wk h₀ L h' m (news'++rest)→Q .none (S σ h' t')):
 zZ (zW PW w) A (call (.ref 203) [.ref x]) Q E (S σ h t):=by
 refine fn_genE (mu:=[(dx,od),(asked,lob [] n0)]) (rest:=rest) (binds:=[(zQ "self",.ref x)]) [(asked,lob [] n0)] (∃ y∈ys,¬ K.ok y.2) Z W (by lia) (by rfl) (by k_ne) (BindsTo.of_eq (by k_ne)) (locs (by k_ne)) (by decide) (by k_ne) (by k_ne) (by k_ne)
  (fun e h' t' x y hb=>ke e h' t' x y hb) fun L' h₁ t₁ et FA SBf Z' W'=>
  chain_body (K:=K) (x:=x) (dx:=dx) (one:=one) (two:=two) (j:=j) (asked:=asked) (od:=od) (ys:=ys) (odd:=odd) (n0:=n0) FA KF Z' W' (by show A.depth+1+3<_;lia) (by show A.units+3+160<_;lia) G.x sd hz G.two G.ys G.J (by k_ne)
   (fun e d h' t' hd x hb=>⟨e,d,h',t',rfl,rfl,hd,x,hb⟩) fun h' t' m' od' bd bj bp rows ls jk ep' jo n' sd' W₂ js hB hF hok n1=>?_
 refine ⟨h',t',_,_,rfl,W₂,fun W₃=>k h' t' _ ⟨od',bd,bj,bp,rows,ls,jk,ep',jo,n',?_,sd',js,hB,hF,hok,n1⟩ W₃⟩;rw [← hF,List.map_map];rfl
theorem seq2_body {w A L' g h t σ} {K:Kd w}{x dx one two j asked:zV}{od:Obj}{ys:List El2}{odd:Int}{n0:Nat}{f:zV}{m} {Q:FP}{E:VP}
 (KF:KdF K) (Z:Site w A L' g) (W:Wk g L' h m [(dx,od),(asked,lob [] n0)]) (room:A.depth+4<zS) (ru:A.units+170<cLine) (sd:Sd od (as1 (.ref j) (.ref one)))
 (hz:ys.length≤100) (G:Giv w K x dx two j asked odd ys g) (e1:m (zQ "self")=some (.ref x)) (e2:m (zQ "b")=some (.ref two))
 (ke:∀ e d h' t',okd L' d→Fl A g [(asked,lob [] n0)] e d h'→(∃ y∈ys,¬ K.ok y.2)→E (.ref e) (S σ h' t'))
 (k:∀ h' t' m' news',Made w K j one two dx asked odd ys news'→Wk g L' h' m' news'→Q .next (S σ h' t')):
 zZ (zW PW w) A (execs (dB (me PW 8 4)) (envX n96 (dS (me PW 8 4)) L' f (.ref 195) [])) Q E (S σ h t):=by
 have hx:=G.x;with_unfolding_all refine x_cons ?_
 kd_p;k_call_by "gat" (.none);with_reducible refine is_ref_none ?_
 kd_p;with_reducible refine x_asgA ?_ (by wtm_at "u")
 kd_p;wtm_at "z";kd_p;with_reducible refine x_asg2 ?_ (by wtm_at "u") (by wtm_at "u")
 kd_p;with_reducible refine as_attr ?_
 kd_p;wtm_at "z";with_reducible refine as_attr ?_
 kd_p;wtm_at "z";kd_p;with_reducible refine x_asgA ?_ (by wtm_at "u")
 kd_p;wtm_at "z";replace sd:=sdc (bs:=as2 (.ref j) (.ref one) (.ref two)) sd (by k_ne);kd_p;refine g_meth (f:=203) Z W (by wtm_at "o") (by wtm_at "o") sd (by k_ne) (by k_ne) (by k_ne) (by k_ne) ?_;refine c_fn10 Z W (by k_ne) ?_;refine chain_spec (K:=K) (rest:=[]) KF Z W room ru sd hz (G.kp (kpu (rest:=[]) W)) ?_ ?_
 · intro e h' t' x1 _ hb;exact ke e .fly h' t' trivial x1 hb
 · intro h' t' news' hm W';rw [List.append_nil] at W';wtm_at "w";kd_p;exact k _ _ _ _ hm W
theorem seq2_spec {w A L h₀ h t σ m rest} {K:Kd w}{x dx one two j asked:zV}{od:Obj}{ys:List El2}{odd:Int}{n0:Nat}{Q E:VP}
 (KF:KdF K) (Z:Site w A L h₀) (W:Wk h₀ L h m ([(dx,od),(asked,lob [] n0)]++rest)) (room:A.depth+5<zS) (ru:A.units+180<cLine) (sd:Sd od (as1 (.ref j) (.ref one)))
 (hz:ys.length≤100) (G:Giv w K x dx two j asked odd ys (gnd h [(dx,od),(asked,lob [] n0)]))
 (ke:∀ e h' t',Fl A h₀ ((asked,lob [] n0)::rest) e .fly h'→h'.Ns L m→(∃ y∈ys,¬ K.ok y.2)→E (.ref e) (S σ h' t'))
 (k:∀ h' t' news',Made w K j one two dx asked odd ys news'→Wk h₀ L h' m (news'++rest)→Q .none (S σ h' t')):
 zZ (zW PW w) A (call (.ref 196) [.ref x,.ref two]) Q E (S σ h t):=
 fn_genE (mu:=[(dx,od),(asked,lob [] n0)]) (rest:=rest) (binds:=[(zQ "self",.ref x),(zQ "b",.ref two)]) [(asked,lob [] n0)] (∃ y∈ys,¬ K.ok y.2) Z W (by lia) (by rfl) (by k_ne) (BindsTo.of_eq (by k_ne)) (locs (by k_ne)) (by decide) (by k_ne) (by k_ne) (by k_ne)
  (fun e h' t' x y hb=>ke e h' t' x y hb) fun L' h₁ t₁ et FA SBf Z' W'=>
  seq2_body (K:=K) (x:=x) (dx:=dx) (one:=one) (two:=two) (j:=j) (asked:=asked) (od:=od) (ys:=ys) (odd:=odd) (n0:=n0) KF Z' W' (by show A.depth+1+4<_;lia) (by show A.units+3+170<_;lia) sd hz G (by k_ne) (by k_ne)
   (fun e d h' t' hd x hb=>⟨e,d,h',t',rfl,rfl,hd,x,hb⟩) fun h' t' m' news' hm W₂=>⟨h',t',_,_,rfl,W₂,fun W₃=>k h' t' _ hm W₃⟩
theorem seqs_body {w A L' g h t σ} {K:Kd w}{x dx one two j asked:zV}{od:Obj}{ys:List El2}{odd:Int}{n0:Nat}{f:zV}{m} {Q:FP}{E:VP}
 (KF:KdF K) (Z:Site w A L' g) (W:Wk g L' h m [(dx,od),(asked,lob [] n0)]) (room:A.depth+5<zS) (ru:A.units+180<cLine) (sd:Sd od (as0 (.ref j)))
 (hz:ys.length≤100) (G:Giv w K x dx two j asked odd ys g) (e1:m (zQ "self")=some (.ref x)) (e2:m (zQ "a")=some (.ref one)) (e3:m (zQ "b")=some (.ref two))
 (ke:∀ e d h' t',okd L' d→Fl A g [(asked,lob [] n0)] e d h'→(∃ y∈ys,¬ K.ok y.2)→E (.ref e) (S σ h' t'))
 (k:∀ h' t' m' news',Made w K j one two dx asked odd ys news'→Wk g L' h' m' news'→Q .next (S σ h' t')):
 zZ (zW PW w) A (execs (dB (me PW 8 2)) (envX n94 (dS (me PW 8 2)) L' f (.ref 181) [])) Q E (S σ h t):=by
 have hx:=G.x;with_unfolding_all refine x_cons ?_
 kd_p;refine g_meth (f:=189) Z W (by wtm_at "o") (by wtm_at "o") sd (by k_ne) (by k_ne) (by k_ne) (by k_ne) ?_;kd_p;refine seq1_spec (J:=.ref j) (od:=od) (rest:=[(asked,lob [] n0)]) Z W (by lia) (kpu (mu:=[(dx,od)]) (rest:=[(asked,lob [] n0)]) W _ _ hx) sd fun h' t' od' sd' W' kp=>?_;wtm_at "w";replace sd:=sd';kd_p;refine g_meth (f:=196) Z W (by wtm_at "o") (by wtm_at "o") sd (by k_ne) (by k_ne) (by k_ne) (by k_ne) ?_;kd_p;refine seq2_spec (K:=K) (rest:=[]) KF Z W room ru sd hz (G.kp (kpu (rest:=[]) W)) ?_ ?_
 · intro e h' t' x1 _ hb;exact ke e .fly h' t' trivial x1 hb
 · intro h' t' news' hm W';rw [List.append_nil] at W';wtm_at "w";kd_p;exact k _ _ _ _ hm W
theorem seqs_spec {w A L h₀ h t σ m rest} {K:Kd w}{x dx one two j asked:zV}{od:Obj}{ys:List El2}{odd:Int}{n0:Nat}{Q E:VP}
 (KF:KdF K) (Z:Site w A L h₀) (W:Wk h₀ L h m ([(dx,od),(asked,lob [] n0)]++rest)) (room:A.depth+6<zS) (ru:A.units+190<cLine) (sd:Sd od (as0 (.ref j)))
 (hz:ys.length≤100) (G:Giv w K x dx two j asked odd ys (gnd h [(dx,od),(asked,lob [] n0)]))
 (ke:∀ e h' t',Fl A h₀ ((asked,lob [] n0)::rest) e .fly h'→h'.Ns L m→(∃ y∈ys,¬ K.ok y.2)→E (.ref e) (S σ h' t'))
 (k:∀ h' t' news',Made w K j one two dx asked odd ys news'→Wk h₀ L h' m (news'++rest)→Q .none (S σ h' t')):
 zZ (zW PW w) A (call (.ref 182) [.ref x,.ref one,.ref two]) Q E (S σ h t):=
 fn_genE (mu:=[(dx,od),(asked,lob [] n0)]) (rest:=rest) (binds:=[(zQ "self",.ref x),(zQ "a",.ref one),(zQ "b",.ref two)]) [(asked,lob [] n0)] (∃ y∈ys,¬ K.ok y.2) Z W (by lia) (by rfl) (by k_ne) (BindsTo.of_eq (by k_ne)) (locs (by k_ne)) (by decide) (by k_ne) (by k_ne) (by k_ne)
  (fun e h' t' x y hb=>ke e h' t' x y hb) fun L' h₁ t₁ et FA SBf Z' W'=>
  seqs_body (K:=K) (x:=x) (dx:=dx) (one:=one) (two:=two) (j:=j) (asked:=asked) (od:=od) (ys:=ys) (odd:=odd) (n0:=n0) KF Z' W' (by show A.depth+1+5<_;lia) (by show A.units+3+180<_;lia) sd hz G (by k_ne) (by k_ne) (by k_ne)
   (fun e d h' t' hd x hb=>⟨e,d,h',t',rfl,rfl,hd,x,hb⟩) fun h' t' m' news' hm W₂=>⟨h',t',_,_,rfl,W₂,fun W₃=>k h' t' _ hm W₃⟩
section
section
variable {w:zT}{A:zU}{σ:zX}{h₀ h:Heap}{t:Nat}{L:zV}{m:NM}{mu rest:Led}{R:Result→zX→Prop}
theorem code_genE {f:zV}{name qual:Str}{params:Arguments}{body:List Stmt}{scope:Scope}{dV kV doc pm cdv ct oc:zY}{an od:Option zV}{osl:Array (Option zY)}{pos:List zY}{kw binds:List (Str×zY)}(keep:Led) (P:Prop)
 (Z:Site w A L h₀) (W:Wk h₀ L h m (mu++rest)) (hroom:A.depth<zS)
 (ho:(KF PW w.params).lookup f=some ⟨oc,od,.func (fnOf name qual params body scope dV kV doc pm an cdv ct),osl⟩) (hcd:codeIn (KF PW w.params) cdv qual=true)
 (hbind:BindsTo (S σ h t) (fnOf name qual params body scope dV kV doc pm an cdv ct) ⟨pos,kw⟩ binds) (hloc:∀ y∈binds,scope.names.lookup y.1=some .local)
 (hcell:∀ x∈scope.names,x.2≠ .cell) (hco:scope.isCoroutine=false) (hgen:scope.isGenerator=false) (hk:scope.kind= .function)
 (ke:∀ e h' t',Fl A h₀ (keep++rest) e .fly h'→h'.Ns L m→P→R (.error (.ref e)) (S σ h' t'))
 (k:∀ L' h₁ t₁,t₁=t+binds.length→Frm (A.deeper (envX qual scope L' f cdv [])) (envX qual scope L' f cdv [])→Site w (A.deeper (envX qual scope L' f cdv [])) L' (gnd h mu)→Wk (gnd h mu) L' h₁ (fun y=>binds.reverse.lookup y) mu→
  zZ (zW PW w) (A.deeper (envX qual scope L' f cdv [])) (execs body (envX qual scope L' f cdv []))
   (fun fl s'=>∃ h' t' m' mu',s'=S σ h' t'∧Wk (gnd h mu) L' h' m' mu'∧(Wk h₀ L h' m (mu'++rest)→R (.ok (.ret (retv fl))) (S σ h' t')))
   (Xp (A.deeper (envX qual scope L' f cdv [])) (gnd h mu) L' σ keep P) (S σ h₁ t₁)):
 codeAny (zW PW w) A (.call (.ref f) ⟨pos,kw⟩) R (S σ h t):=by
 have Z0:=Z;obtain ⟨⟨A₀,base,outer,env,B,hA,hf,hke⟩,X,⟨pT,lT,mean,mg,mb,T⟩,hh⟩:=Z;have N:News h₀ L h mu:=fun p hp=>W.nw p (l_l _ hp)
 obtain ⟨FG,BG,st,-⟩:=groundX (R:=fun _ _=>True) (s:=S σ h t) B W.fr N hA hf hke;refine codeAny_call_def (fd:=fnX name qual params body scope [] dV kV doc pm an cdv ct) (body:=body) (binds:=binds) hroom ((X.keeps W.fr.keep) _ _ ho) rfl (T.nolimit.keeps W.fr.keep) (codeRec_of (X.keeps W.fr.keep) hcd) rfl hbind hcell hloc (fun h₁ hns hk₁=>?_) hco hgen hk
 have W₁:Wk (gnd h mu) h.objs.size h₁ (fun y=>binds.reverse.lookup y) mu:=
  ⟨⟨hns,fun b o e=>hk₁ b o (of_hideAll _ e),Nat.le_of_eq (hideAll_size _ _)⟩,
   fun p hp=>⟨hk₁ _ _ (N p hp).1,Nat.ne_of_lt (zB (N p hp).1),hideAll_none _ (l_o hp)⟩,by
   have:=W.nd;rw [zK,yQ] at this;exact this.1⟩
 refine w_m (k h.objs.size h₁ _ rfl ⟨_,yM hA⟩ ⟨⟨A,base,env::outer,_,BG,yM hA,rfl,hk⟩,X.keeps st,⟨pT,lT,mean,mg,mb,T.keeps st⟩,hh⟩ W₁) ?_ ?_
 · rintro fl s' ⟨h',t',m',mu',rfl,W',kk⟩;have:=kk (W.back W');cases fl <;> exact this
 · rintro v s' ⟨e,d,h',t',rfl,rfl,hd,x,hP⟩;refine fl_leave (l:=env::outer) hA rfl ?_ x hd fun h'' y=>?_
   · exact gnd_new
   · obtain ⟨y1,y2⟩:=fl_up Z0 W y;exact ke e h'' t' y1 y2 hP
theorem site_under {C:zV}{vals:List zY}(Z:Site w A L h₀):Site w (A.under (.builtin "type.__call__" ⟨.ref C::vals,[]⟩)) L h₀:=by
 obtain ⟨⟨A₀,base,outer,env,B,hA,hf,hke⟩,X,T,hh⟩:=Z;exact ⟨⟨A₀,base,outer,env,B,hA,hf,hke⟩,X,T,hh⟩
theorem gndall {p:zV×Obj}(W:Wk h₀ L h m (mu++rest)) (hp:p∈rest):(gnd h mu).get? p.1=some p.2:=gnd_get (W.nw p (l_r _ hp)).1 fun q=>by
 obtain ⟨x,hx,e⟩:=zN.mp q;exact W.apart hx hp e
end
theorem init_body {w A L' g h t σ} {K:Kd w}{x dx one two j asked:zV}{od:Obj}{ys:List El2}{odd:Int}{n0:Nat}{f:zV}{m} {Q:FP}{E:VP}
 (KF:KdF K) (Z:Site w A L' g) (W:Wk g L' h m [(dx,od),(asked,lob [] n0)]) (room:A.depth+6<zS) (ru:A.units+190<cLine) (sd:Sd od [])
 (hz:ys.length≤100) (G:Giv w K x dx two j asked odd ys g) (e1:m (zQ "self")=some (.ref x)) (e2:m (zQ "a")=some (.ref one)) (e3:m (zQ "b")=some (.ref two))
 (e4:m (zQ "isjunk")=some (.ref j)) (e5:m (zQ "autojunk")=some (.bool true))
 (ke:∀ e d h' t',okd L' d→Fl A g [(asked,lob [] n0)] e d h'→(∃ y∈ys,¬ K.ok y.2)→E (.ref e) (S σ h' t'))
 (k:∀ h' t' m' news',Made w K j one two dx asked odd ys news'→Wk g L' h' m' news'→Q .next (S σ h' t')):
 zZ (zW PW w) A (execs (dB (me PW 8 1)) (envX n93 (dS (me PW 8 1)) L' f (.ref 174) [])) Q E (S σ h t):=by
 have hx:=G.x;with_unfolding_all refine x_cons ?_
 kd_p;with_reducible refine x_asgA ?_ (by wtm_at "u")
 kd_p;wtm_at "z";kd_p;with_reducible refine x_asg2 ?_ (by wtm_at "u") (by wtm_at "u")
 kd_p;with_reducible refine as_attr ?_
 kd_p;wtm_at "z";with_reducible refine as_attr ?_
 kd_p;wtm_at "z";kd_p;with_reducible refine x_asgA ?_ (by wtm_at "u")
 kd_p;wtm_at "z";replace sd:=sdc (bs:=as0 (.ref j)) sd (by k_ne);kd_p;refine g_meth (f:=182) Z W (by wtm_at "o") (by wtm_at "o") sd (by k_ne) (by k_ne) (by k_ne) (by k_ne) ?_;kd_p;refine seqs_spec (K:=K) (rest:=[]) KF Z W room ru sd hz (G.kp (kpu (rest:=[]) W)) ?_ ?_
 · intro e h' t' x1 _ hb;exact ke e .fly h' t' trivial x1 hb
 · intro h' t' news' hm W';rw [List.append_nil] at W';wtm_at "w";kd_p;exact k _ _ _ _ hm W
end
theorem bind_init {w:zT}{σ:zX}{h h₀:Heap}{t:Nat}{A:zU}{L:zV}{m:NM}{news:Led}{x j one two:zV}(Z:Site w A L h₀) (W:Wk h₀ L h m news):
 BindsTo (S σ h t) (fnOf n27 n93 (dA (me PW 8 1)) (dB (me PW 8 1)) (dS (me PW 8 1)) (.ref 168) .none (.str (docS (dB (me PW 8 1))) 436) (.str n4 214) none (.ref 174) .none) ⟨[.ref x,.ref j,.ref one,.ref two],[]⟩
  [(zQ "self",.ref x),(zQ "isjunk",.ref j),(zQ "a",.ref one),(zQ "b",.ref two),(zQ "autojunk",.bool true)]:=
 kp_binds (X:=W.inK Z) fun _=>by k_ne
def GivL (w:zT) (K:Kd w) (two j asked:zV) (odd:Int) (ys:List El2) (h₀:Heap) (rest:Led):Prop:=
 ∀ H,Kp h₀ H→(∀ p∈rest,H.get? p.1=some p.2)→(∃ n,H.get? two=some (lob (ys.map (·.1)) n))∧AsK K H ys∧Judge w K j odd asked H
theorem make_spec {w A L h₀ h t σ m rest} {K:Kd w}{one two j asked:zV}{ys:List El2}{odd:Int}{n0:Nat}{Q E:VP}
 (KF:KdF K) (Z:Site w A L h₀) (W:Wk h₀ L h m ((asked,lob [] n0)::rest)) (room:A.depth+9<zS) (ru:A.units+200<cLine)
 (hz:ys.length≤100) (G:GivL w K two j asked odd ys h₀ rest)
 (ke:∀ e h' t',Fl A h₀ ((asked,lob [] n0)::rest) e .fly h'→h'.Ns L m→(∃ y∈ys,¬ K.ok y.2)→E (.ref e) (S σ h' t'))
 (k:∀ x dx h' t' news',Made w K j one two dx asked odd ys news'→Wk h₀ L h' m (news'++((x,instObj 257 dx)::rest))→Q (.ref x) (S σ h' t')):
 zZ (zW PW w) A (call (.ref 257) [.ref j,.ref one,.ref two]) Q E (S σ h t):=by
 refine call_cls (s:=S σ h t) (fI:=175) W.fr Z.X W.nw (by k_ne) (by k_ne) (by k_ne) fun x dx h' F' N' lt1 lt2=>?_
 have W':Wk h₀ L h' m ([(dx,PySem.W.dictOf [] 0),(asked,lob [] n0)]++((x,instObj 257 dx)::rest)):=by
  refine Wk.perm (news:=(x,instObj 257 dx)::(dx,PySem.W.dictOf [] 0)::(asked,lob [] n0)::rest) ⟨F',N',?_⟩ (by wtm_at "p");have nd:=W.nd;rw [zM,zM,zJ,zJ];refine ⟨fun q=>?_,fun q=>?_,nd⟩
  · rcases zL.mp q with e|q
    · have e':x=dx:=e;rw [e'] at lt2;exact yY _ lt2
    · obtain ⟨p,hp,e⟩:=zN.mp q;have:=lt1 p hp;have e':p.1=x:=e;rw [e'] at this;exact yY _ (Nat.lt_trans this lt2)
  · obtain ⟨p,hp,e⟩:=zN.mp q;have:=lt1 p hp;have e':p.1=dx:=e;rw [e'] at this;exact yY _ this
 obtain ⟨g1,g2,g3⟩:=G (gnd h' [(dx,PySem.W.dictOf [] 0),(asked,lob [] n0)]) (kpu W') (fun p hp=>gndall W' (.tail _ hp));have G':Giv w K x dx two j asked odd ys (gnd h' [(dx,PySem.W.dictOf [] 0),(asked,lob [] n0)]):=⟨gndall W' (.head _),g1,g2,g3⟩
 refine code_genE (mu:=[(dx,PySem.W.dictOf [] 0),(asked,lob [] n0)]) (rest:=(x,instObj 257 dx)::rest) (binds:=[(zQ "self",.ref x),(zQ "isjunk",.ref j),(zQ "a",.ref one),(zQ "b",.ref two),(zQ "autojunk",.bool true)])
  [(asked,lob [] n0)] (∃ y∈ys,¬ K.ok y.2) (site_under Z) W' (by show A.depth+1<_;lia) (by rfl) (by k_ne) (bind_init Z W') (locs (by k_ne)) (by decide) (by k_ne) (by k_ne) (by k_ne)
  (fun e h' t' x y hb=>ke e h' t' (x.sub (by intro q hq;rcases zL.mp hq with rfl|hq;exact .head _;exact .tail _ (.tail _ hq))) y hb) fun L' h₁ t₁ et FA Z' W₁=>
  init_body (K:=K) (x:=x) (dx:=dx) (one:=one) (two:=two) (j:=j) (asked:=asked) (ys:=ys) (odd:=odd) (n0:=n0) KF Z' W₁ (by show A.depth+1+1+6<_;lia) (by show A.units+1+3+190<_;(revert ru;k_in)) ⟨[],0,rfl,trivial⟩ hz G' (by k_ne) (by k_ne) (by k_ne) (by k_ne) (by k_ne)
   (fun e d h' t' hd x hb=>⟨e,d,h',t',rfl,rfl,hd,x,hb⟩) fun h' t' m' news' hm W₂=>⟨h',t',_,_,rfl,W₂,fun W₃=>⟨rfl,k x dx h' t' news' hm W₃⟩⟩
theorem made_body {w A L' g h t σ} {K:Kd w}{one two j asked:zV}{ys:List El2}{odd:Int}{n0:Nat}{f:zV}{m} {Q:FP}{E:VP}
 (FA:Frm A (envX n152 (dS (st PW 17)) L' f (.ref 316) [])) (sb:SB w A L' g) (KF:KdF K) (Z:Site w A L' g) (W:Wk g L' h m [(asked,lob [] n0)]) (room:A.depth+9<zS) (ru:A.units+200<cLine)
 (hz:ys.length≤100) (G:GivL w K two j asked odd ys g []) (e1:m (zQ "judge")=some (.ref j)) (e2:m (zQ "things")=some (.ref one)) (e3:m (zQ "others")=some (.ref two))
 (ke:∀ e h' t',Fl A g [(asked,lob [] n0)] e .fly h'→(∃ y∈ys,¬ K.ok y.2)→Q (.ret .none) (S σ h' t'))
 (k:∀ x dx h' t' m' news',Made w K j one two dx asked odd ys news'→Wk g L' h' m' (news'++[(x,instObj 257 dx)])→Q (.ret (.ref x)) (S σ h' t')):
 zZ (zW PW w) A (execs (dB (st PW 17)) (envX n152 (dS (st PW 17)) L' f (.ref 316) [])) Q E (S σ h t):=by
 have ab:=W.fr.above;with_unfolding_all refine x_cons ?_
 with_reducible refine x_tryNone (m:=m) (keep:=[(asked,lob [] n0)]) FA sb ab ?_ (by k_ne) (by k_ne)
 kd_p;refine make_spec (K:=K) (rest:=[]) KF Z W room ru hz G ?_ ?_
 · intro e h' t' x hn hb;exact ⟨e,.fly,h',t',rfl,rfl,trivial,x,hn,fun h'' t'' y=>ke e h'' t'' y hb⟩
 · intro x dx h' t' news' hm W';with_reducible refine x_ret ?_
   exact k x dx h' t' _ news' hm W'
theorem made_spec {w A L h₀ h t σ m rest} {K:Kd w}{one two j asked:zV}{ys:List El2}{odd:Int}{n0:Nat}{Q E:VP}
 (KF:KdF K) (l1:L1 A) (Z:Site w A L h₀) (W:Wk h₀ L h m ([(asked,lob [] n0)]++rest)) (room:A.depth+10<zS) (ru:A.units+210<cLine) (hz:ys.length≤100) (G:GivL w K two j asked odd ys h₀ rest)
 (k:∀ x dx h' t' news',Made w K j one two dx asked odd ys news'→Wk h₀ L h' m (news'++((x,instObj 257 dx)::rest))→Q (.ref x) (S σ h' t'))
 (ke:∀ h' t',Wk h₀ L h' m ((asked,lob [] n0)::rest)→(∃ y∈ys,¬ K.ok y.2)→Q .none (S σ h' t')):
 zZ (zW PW w) A (call (.ref 317) [.ref j,.ref one,.ref two]) Q E (S σ h t):=
 fn_try1 (mu:=[(asked,lob [] n0)]) (rest:=rest) (binds:=[(zQ "judge",.ref j),(zQ "things",.ref one),(zQ "others",.ref two)]) [(asked,lob [] n0)] Z l1 W (by lia) (by rfl) (by k_ne) (BindsTo.of_eq (by k_ne)) (locs (by k_ne)) (by decide) (by k_ne) (by k_ne) (by k_ne) (by simp)
  fun L' h₁ t₁ et FA sb Z' W'=>
  made_body (K:=K) (one:=one) (two:=two) (j:=j) (asked:=asked) (ys:=ys) (odd:=odd) FA sb KF Z' W' (by show A.depth+1+9<_;lia) (by show A.units+3+200<_;lia) hz
   (fun H k1 _=>G H ((kpu W).trans k1) fun p hp=>k1 _ _ (gndall W hp)) (by k_ne) (by k_ne) (by k_ne)
   (fun e h' t' x hb=>.inr ⟨h',t',e,_,rfl,x,fun W₃=>ke h' t' W₃ hb⟩)
   (fun x dx h' t' m' news' hm W₂=>.inl ⟨h',t',_,_,rfl,W₂,fun W₃=>k x dx h' t' news' hm (by rw [List.append_assoc] at W₃;exact W₃)⟩)
section
theorem slot_md_get:Slot "method_descriptor" "__get__" "method_descriptor.__get__":=
 .of (owner:="method_descriptor") (n:="__get__") (by rw [typeLookup_type,yI];k_ne) (by decide+kernel) (by decide+kernel) (by decide+kernel)
  (by first|exact .inl (by decide+kernel)|exact .inr (by decide+kernel)) (by rw [isSubtype_type];k_ne)
theorem noset_md:typeLookup (.type "method_descriptor") (zQ "__set__")=pure none:=by rw [typeLookup_type,yI];k_ne
theorem nodel_md:typeLookup (.type "method_descriptor") (zQ "__delete__")=pure none:=by rw [typeLookup_type,yI];k_ne
theorem entry_md_get:entryFor table "method_descriptor.__get__"=some Builtin.«method_descriptor.__get__»:=entryFor_of_tree (by k_ne)
theorem args_md_get (a b c:zY):argsOk "method_descriptor.__get__" ⟨[a,b,c],[]⟩:=by unfold argsOk;k_ne
theorem type_contains:typeOf (.builtin "set.__contains__")=pure (.type "method_descriptor"):=by show builtinType _=_;rw [builtinType_eq_fast];k_ne
theorem told_dget:Manifest.toldItsClass.contains "dict.get"=false:=by decide+kernel
section
variable {w:zT}{A:zU}{E:VP}{h:Heap}{g:Array GenState}{d:Drawn}{t:Nat}{os:OsState}{a:zV}{o:Obj}
noncomputable def bdo (id:String) (a:zV):Obj:={ cls:=.type "builtin_function_or_method",data:=.fields #[.builtin id,.ref a] }
theorem bget_get {R:Result→zX→Prop}(hx:h.get? a=some o) (hc:o.cls= .type "dict") (hq:R (.ok (.ret (.ref h.objs.size))) ⟨h.push (bdo "dict.get" a),g,d,t,os⟩):
 codeAny (zW PW w) A (.call (.builtin "method_descriptor.__get__") ⟨[.builtin "dict.get",.ref a,.type "dict"],[]⟩) R ⟨h,g,d,t,os⟩:=by
 have hT:(⟨h,g,d,t,os⟩:zX).TypeIs (.ref a) "dict":=⟨_,hx,hc⟩;have hT5:(⟨h,g,d,t,os⟩:zX).TypeIs (.builtin "dict.get") "method_descriptor":=PySem.F.type_dict_get;have f8:=isSubtype_dict_dict;refine codeAny_call_builtin slot_md_get.plain entry_md_get (slot_md_get.check _ _ _ _ _ _ _ _ hT5 (args_md_get _ _ _) ?_);unfold Builtin.«method_descriptor.__get__»;refine w_b (yK (a:=(.builtin "dict.get",some (.ref a),some (.type "dict"))) (by first|rfl|k_ne) ?_);dsimp only;refine KFB.if_not told_dget ?_;refine w_b (m:=(kfb_private% "checkInstance") (.builtin "dict.get") (.ref a)) ?_;refine w_b (yK (a:=(zQ "get",.type "dict")) (by first|rfl|k_ne) ?_);refine w_b (wpAny_isInstance hT isSubtype_dict_dict ?_);refine KFB.if_not rfl ?_;refine w_p ?_;exact w_b (yJ (w_p hq))
theorem bget_entry {es:Array DictEntry}{ep:Nat}{tk:Tok}{Q:Fin→zX→Prop}(hx:h.get? a=some { cls:=.type "dict",data:=.dict es ep }) (hq:Q (.done (.ret (.ref h.objs.size))) ⟨h.push (bdo "dict.get" a),g,d,t,os⟩):
 zZ (zW PW w) A (Builtin.«object.__getattribute__» ⟨[.ref a,.str (zQ "get") tk],[]⟩) Q E ⟨h,g,d,t,os⟩:=by
 have hT:(⟨h,g,d,t,os⟩:zX).TypeIs (.ref a) "dict":=⟨_,hx,rfl⟩;have hT5:(⟨h,g,d,t,os⟩:zX).TypeIs (.builtin "dict.get") "method_descriptor":=PySem.F.type_dict_get;have f4:=PySem.F.slot_dict_get.lookup;have f5:=PySem.F.type_dict_get;have f6:=slot_md_get.lookup;have f7:=noset_md;have f8:=nodel_md
 repeat (any_goals (first|assumption|wp_step))
 refine bget_get hx rfl ?_
 repeat (any_goals (first|assumption|wp_step))
theorem bget_call {es:Array DictEntry}{ep:Nat}{tk:Tok}{R:Result→zX→Prop}(hx:h.get? a=some { cls:=.type "dict",data:=.dict es ep }) (hq:R (.ok (.ret (.ref h.objs.size))) ⟨h.push (bdo "dict.get" a),g,d,t,os⟩):
 codeAny (zW PW w) A (.call (.builtin "dict.__getattribute__") ⟨[.ref a,.str (zQ "get") tk],[]⟩) R ⟨h,g,d,t,os⟩:=
 codeAny_call_builtin PySem.F.slot_dict_getattribute.plain PySem.F.entry_dict_ga (PySem.F.slot_dict_getattribute.check _ _ _ _ _ _ _ _ (show (⟨h,g,d,t,os⟩:zX).TypeIs (.ref a) "dict" from ⟨_,hx,rfl⟩) (PySem.F.args_dict_getattribute_2 _ _) (bget_entry hx hq))
theorem bget_attr {es:Array DictEntry}{ep:Nat}{Q:VP}(hx:h.get? a=some { cls:=.type "dict",data:=.dict es ep }) (hq:Q (.ref h.objs.size) ⟨h.push (bdo "dict.get" a),g,d,t+1,os⟩):
 zZ (zW PW w) A (getAttr (.ref a) (zQ "get") true) Q E ⟨h,g,d,t,os⟩:=by
 have hT:(⟨h,g,d,t+1,os⟩:zX).TypeIs (.ref a) "dict":=⟨_,hx,rfl⟩;have f2:=PySem.F.slot_dict_getattribute.lookup;have f3:=PySem.F.slot_dict_getattribute.bind (.ref a);unfold getAttr
 repeat (any_goals (first|assumption|wp_step))
 refine bget_call hx ?_
 repeat (any_goals (first|assumption|wp_step))
theorem told_cont:Manifest.toldItsClass.contains "set.__contains__"=false:=by decide+kernel
theorem bcon_get {R:Result→zX→Prop}(hx:h.get? a=some o) (hc:o.cls= .type "set") (hq:R (.ok (.ret (.ref h.objs.size))) ⟨h.push (bdo "set.__contains__" a),g,d,t,os⟩):
 codeAny (zW PW w) A (.call (.builtin "method_descriptor.__get__") ⟨[.builtin "set.__contains__",.ref a,.type "set"],[]⟩) R ⟨h,g,d,t,os⟩:=by
 have hT:(⟨h,g,d,t,os⟩:zX).TypeIs (.ref a) "set":=⟨_,hx,hc⟩;have hT5:(⟨h,g,d,t,os⟩:zX).TypeIs (.builtin "set.__contains__") "method_descriptor":=type_contains;refine codeAny_call_builtin slot_md_get.plain entry_md_get (slot_md_get.check _ _ _ _ _ _ _ _ hT5 (args_md_get _ _ _) ?_);unfold Builtin.«method_descriptor.__get__»;refine w_b (yK (a:=(.builtin "set.__contains__",some (.ref a),some (.type "set"))) (by first|rfl|k_ne) ?_);dsimp only;refine KFB.if_not told_cont ?_;refine w_b (m:=(kfb_private% "checkInstance") (.builtin "set.__contains__") (.ref a)) ?_;refine w_b (yK (a:=(zQ "__contains__",.type "set")) (by first|rfl|k_ne) ?_);refine w_b (wpAny_isInstance hT sub_set_self ?_);refine KFB.if_not rfl ?_;refine w_p ?_;exact w_b (yJ (w_p hq))
theorem bcon_entry {es:Array (Int×zY)}{ep:Nat}{tb:SetTable}{tk:Tok}{Q:Fin→zX→Prop}(hx:h.get? a=some { cls:=.type "set",data:=.set es ep tb }) (hq:Q (.done (.ret (.ref h.objs.size))) ⟨h.push (bdo "set.__contains__" a),g,d,t,os⟩):
 zZ (zW PW w) A (Builtin.«object.__getattribute__» ⟨[.ref a,.str (zQ "__contains__") tk],[]⟩) Q E ⟨h,g,d,t,os⟩:=by
 have hT:(⟨h,g,d,t,os⟩:zX).TypeIs (.ref a) "set":=⟨_,hx,rfl⟩;have hT5:(⟨h,g,d,t,os⟩:zX).TypeIs (.builtin "set.__contains__") "method_descriptor":=type_contains;have f4:=PySem.F.slot_set_contains.lookup;have f5:=type_contains;have f6:=slot_md_get.lookup;have f7:=noset_md;have f8:=nodel_md
 repeat (any_goals (first|assumption|wp_step))
 refine bcon_get hx rfl ?_
 repeat (any_goals (first|assumption|wp_step))
theorem bcon_call {es:Array (Int×zY)}{ep:Nat}{tb:SetTable}{tk:Tok}{R:Result→zX→Prop}(hx:h.get? a=some { cls:=.type "set",data:=.set es ep tb }) (hq:R (.ok (.ret (.ref h.objs.size))) ⟨h.push (bdo "set.__contains__" a),g,d,t,os⟩):
 codeAny (zW PW w) A (.call (.builtin "set.__getattribute__") ⟨[.ref a,.str (zQ "__contains__") tk],[]⟩) R ⟨h,g,d,t,os⟩:=
 codeAny_call_builtin PySem.F.slot_set_getattribute.plain PySem.F.entry_set_ga (PySem.F.slot_set_getattribute.check _ _ _ _ _ _ _ _ (show (⟨h,g,d,t,os⟩:zX).TypeIs (.ref a) "set" from ⟨_,hx,rfl⟩) (PySem.F.args_set_getattribute_2 _ _) (bcon_entry hx hq))
theorem bcon_attr {es:Array (Int×zY)}{ep:Nat}{tb:SetTable}{Q:VP}(hx:h.get? a=some { cls:=.type "set",data:=.set es ep tb }) (hq:Q (.ref h.objs.size) ⟨h.push (bdo "set.__contains__" a),g,d,t+1,os⟩):
 zZ (zW PW w) A (getAttr (.ref a) (zQ "__contains__") true) Q E ⟨h,g,d,t,os⟩:=by
 have hT:(⟨h,g,d,t+1,os⟩:zX).TypeIs (.ref a) "set":=⟨_,hx,rfl⟩;have f2:=PySem.F.slot_set_getattribute.lookup;have f3:=PySem.F.slot_set_getattribute.bind (.ref a);unfold getAttr
 repeat (any_goals (first|assumption|wp_step))
 refine bcon_call hx ?_
 repeat (any_goals (first|assumption|wp_step))
end
end
section
theorem sub_dict_module:isSubtype (.type "dict") (.type "module")=pure false:=by rw [isSubtype_type];k_ne
theorem sub_dict_type:isSubtype (.type "dict") (.type "type")=pure false:=by rw [isSubtype_type];k_ne
theorem sub_set_module:isSubtype (.type "set") (.type "module")=pure false:=by rw [isSubtype_type];k_ne
theorem sub_set_type:isSubtype (.type "set") (.type "type")=pure false:=by rw [isSubtype_type];k_ne
section
variable {w:zT}{K:Kd w}{A:zU}{E:VP}{σ:zX}{h₀ h:Heap}{t:Nat}{L:zV}{m:NM}{news:Led}{d:zV}{xs:List Rw}{ep:Nat}{key:zY}{c:Int}
theorem dget_tree {dflt:zY}{Q:VP}(h1:d≠1) (hu:A.units+70<cLine) (ho:h.get? d=some (dob K xs ep)) (hX:Keyed K h xs) (hkey:K.is h key c) (hok:K.ok c) (k:∀ t',Q ((atX xs c).getD dflt) (S σ h t')):
 zZ (zW PW w) A (Builtin.«dict.get» ⟨[.ref d,key,dflt],[]⟩) (fun fin s'=>∃ v,fin= .done (.ret v)∧Q v s') E (S σ h t):=by
 show zZ _ _ (dictGet d key >>=_) _ _ _
 refine w_b (d_get (K:=K) hu ho hX hkey hok fun t'=>?_);have:=k t';cases hf:atX xs c with
 |some v=>rw [hf] at this;exact w_p ⟨v,rfl,this⟩
 |none=>
  rw [hf] at this;show zZ _ _ (Builtin.Dict.missed d key >>=_) _ _ _
  exact w_b (wpAny_missed_other (by simpa [sysModules] using h1) (w_p ⟨dflt,rfl,this⟩))
end
section
variable {M:Model}{A:zU}{E:VP}{h:Heap}{g:Array GenState}{dr:Drawn}{t:Nat}{os:OsState}{d:zV}{o:Obj}
theorem chk_dget {a b:zY}{es:Array DictEntry}{ep:Nat}{Q:UP}(ho:h.get? d=some { cls:=.type "dict",data:=.dict es ep }) (k:Q () ⟨h,g,dr,t,os⟩):zZ M A (checkBoundCall "dict.get" ⟨[.ref d,a,b],[]⟩) Q E ⟨h,g,dr,t,os⟩:=by
 have hT:(⟨h,g,dr,t,os⟩:zX).TypeIs (.ref d) "dict":=⟨_,ho,rfl⟩;unfold checkBoundCall;have f1:=sub_dict_module;have f2:=sub_dict_type
 repeat (any_goals (first|assumption|wp_step))
theorem chk_con {b:zY}{es:Array (Int×zY)}{ep:Nat}{tb:SetTable}{Q:UP}(ho:h.get? d=some { cls:=.type "set",data:=.set es ep tb }) (k:Q () ⟨h,g,dr,t,os⟩):zZ M A (checkBoundCall "set.__contains__" ⟨[.ref d,b],[]⟩) Q E ⟨h,g,dr,t,os⟩:=by
 have hT:(⟨h,g,dr,t,os⟩:zX).TypeIs (.ref d) "set":=⟨_,ho,rfl⟩;unfold checkBoundCall;have f1:=sub_set_module;have f2:=sub_set_type
 repeat (any_goals (first|assumption|wp_step))
end
section
variable {w:zT}{K:Kd w}{A:zU}{E:VP}{σ:zX}{h₀ h:Heap}{t:Nat}{L:zV}{m:NM}{news:Led}{d x:zV}{xs:List Rw}{ep:Nat}{key:zY}{c:Int}{id:String}{env:Env}
theorem plain_dget:plainId "dict.get"=true:=by decide+kernel
theorem plain_con:plainId "set.__contains__"=true:=by decide+kernel
theorem call_bget {dflt:zY}{Q:VP}(hb:h.get? x=some (bdo "dict.get" d)) (h1:d≠1) (hu:A.units+80<cLine) (ho:h.get? d=some (dob K xs ep)) (hX:Keyed K h xs) (hkey:K.is h key c) (hok:K.ok c) (k:∀ t',Q ((atX xs c).getD dflt) (S σ h t')):
 zZ (zW PW w) A (call (.ref x) [key,dflt]) Q E (S σ h t):=by
 refine wpAny_call (codeAny_of_tree ?_);show zZ _ A.in1 (callAny (.ref x) ⟨[key,dflt],[]⟩) _ _ _
 unfold callAny;refine w_b (wpAny_load (s:=S σ h t) hb ?_);simp -iota only [bdo,show (Value.type "builtin_function_or_method"==Value.type "method"||Value.type "builtin_function_or_method"==Value.type "builtin_function_or_method"||Value.type "builtin_function_or_method"==Value.type "method-wrapper")=true by decide,if_true];refine KFB.if_so (by decide) ?_;refine w_b (chk_dget (ho:h.get? d=some { cls:=.type "dict",data:=.dict (ents K xs) ep }) ?_);refine w_b (w_p (w_p ?_));refine ⟨plainId_quiet plain_dget _,codeAny_builtin PySem.F.entry_dict_get ?_⟩;rw [Around.under_plainId plain_dget _];refine w_m (dget_tree (K:=K) (Q:=Q) h1 (by rw [yN];lia) ho hX hkey hok k) (fun fin s' q=>?_) fun _ _ x=>x
 obtain ⟨v,rfl,q⟩:=q;exact q
theorem con_tree {Q:VP}{b:Bool}(kk:∀ (Q':Bool→zX→Prop) (E':VP),(∀ t',Q' b (S σ h t'))→zZ (zW PW w) A (setContains d key) Q' E' (S σ h t)) (k:∀ t',Q (.bool b) (S σ h t')):
 zZ (zW PW w) A (Builtin.«frozenset.__contains__» ⟨[.ref d,key],[]⟩) (fun fin s'=>∃ v,fin= .done (.ret v)∧Q v s') E (S σ h t):=by
 unfold Builtin.«frozenset.__contains__» Builtin.Frozenset.oneOther;simp only [List.isEmpty_nil,bind_assoc];unfold Builtin.Frozenset.addrOf Builtin.Frozenset.withSetAsKey;refine w_b (w_p ?_)
 try dsimp only
 refine w_b (w_p ?_)
 try dsimp only
 refine w_b (wpAny_tryCatch (kk _ _ fun t'=>?_));exact w_p ⟨_,rfl,k t'⟩
theorem call_bcon {Q:VP}{b:Bool}{es:Array (Int×zY)}{ep:Nat}{tb:SetTable}(hb:h.get? x=some (bdo "set.__contains__" d)) (ho:h.get? d=some { cls:=.type "set",data:=.set es ep tb })
 (kk:∀ (Q':Bool→zX→Prop) (E':VP),(∀ t',Q' b (S σ h t'))→zZ (zW PW w) A.in1 (setContains d key) Q' E' (S σ h t)) (k:∀ t',Q (.bool b) (S σ h t')):
 zZ (zW PW w) A (call (.ref x) [key]) Q E (S σ h t):=by
 refine wpAny_call (codeAny_of_tree ?_);show zZ _ A.in1 (callAny (.ref x) ⟨[key],[]⟩) _ _ _
 unfold callAny;refine w_b (wpAny_load (s:=S σ h t) hb ?_);simp -iota only [bdo,show (Value.type "builtin_function_or_method"==Value.type "method"||Value.type "builtin_function_or_method"==Value.type "builtin_function_or_method"||Value.type "builtin_function_or_method"==Value.type "method-wrapper")=true by decide,if_true];refine KFB.if_so (by decide) ?_;refine w_b (chk_con ho ?_);refine w_b (w_p (w_p ?_));refine ⟨plainId_quiet plain_con _,codeAny_builtin entry_set_contains ?_⟩;rw [Around.under_plainId plain_con _];refine w_m (con_tree (Q:=Q) kk k) (fun fin s' q=>?_) fun _ _ x=>x
 obtain ⟨v,rfl,q⟩:=q;exact q
theorem callWith_bd {s:zX}{M:Model}{pos:Pos}{u:zV}{first:List zY}{args:List (Bool×Sem zY)}{Q:VP}(hplain:args.any (·.1)=false)
 (k:zZ M A (evalArgs (.ref u) true args []) (fun x s₁=>s₁.heap.get? u=some (bdo id d)∧zZ M A (call (.ref u) (first++x.pos) x.kw) Q E s₁) E s):zZ M A (callWith pos (.ref u) first args []) Q E s:=by
 unfold callWith;refine w_b (w_h (w_m k (fun x s₁ h₁=>w_b (wpAny_standAt ?_)) fun _ _ x=>x));obtain ⟨ho,hcall⟩:=h₁;rw [hplain,List.any_nil,Bool.or_false];refine w_b (m:=keeperOf (.ref u)) ?_;unfold keeperOf;refine w_b (wpAny_load ho ?_);simp -iota only [bdo,show (Value.type "builtin_function_or_method" !=Value.type "method")=true by decide,show (Value.type "builtin_function_or_method"==Value.type "builtin_function_or_method"||Value.type "builtin_function_or_method"==Value.type "method-wrapper")=true by decide,if_true];refine w_p ?_;exact w_b (w_m hcall (fun r s₂ hr=>w_b (w_h (wpAny_point (w_p hr)))) fun _ _ x=>x)
theorem c_bd {s:zX}{M:Model}{pos:Pos}{u:zV}{e:Expr}{rest:List Expr}{Q:VP}
 (he:zR (e::rest) env=(false,eval e env)::zR rest env) (hplain:(backTo pos (zR rest env)).any (·.1)=false)
 (k:zZ M A (spliced (backTo pos (zR (e::rest) env))) (fun vs s₁=>s₁.heap.get? u=some (bdo id d)∧zZ M A (call (.ref u) vs) Q E s₁) E s):
 zZ M A (callWith pos (.ref u) [] (backTo pos (zR (e::rest) env)) []) Q E s:=by
 rw [he] at k ⊢;refine callWith_bd (id:=id) (d:=d) (by show (false||(backTo pos (zR rest env)).any (·.1))=false;rw [hplain];rfl) ?_;exact Calls.evalArgs_plain k
theorem g_bget {Q:VP}(W:Wk h₀ L h m news) (ho:h.get? d=some (dob K xs ep)) (k:∀ x h' t',Wk h₀ L h' m ((x,bdo "dict.get" d)::news)→Q (.ref x) (S σ h' t')):zZ (zW PW w) A (getAttr (.ref d) (zQ "get") true) Q E (S σ h t):=
 bget_attr (es:=ents K xs) (ep:=ep) ho (k _ _ _ (W.new (bdo "dict.get" d) rfl))
theorem g_bcon {Q:VP}{es:Array (Int×zY)}{ep:Nat}{tb:SetTable}(W:Wk h₀ L h m news) (ho:h.get? d=some { cls:=.type "set",data:=.set es ep tb }) (k:∀ x h' t',Wk h₀ L h' m ((x,bdo "set.__contains__" d)::news)→Q (.ref x) (S σ h' t')):zZ (zW PW w) A (getAttr (.ref d) (zQ "__contains__") true) Q E (S σ h t):=
 bcon_attr (es:=es) (ep:=ep) (tb:=tb) ho (k _ _ _ (W.new (bdo "set.__contains__" d) rfl))
end
end
section
noncomputable def mob (dd:zV) (vs:List zY):Obj:={ cls:=.ref 150,dict:=some dd,data:=.seq vs.toArray 0 }
theorem entry_collect:entryFor table "proto.collect"=some Builtin.«proto.collect»:=entryFor_of_tree (by k_ne)
theorem entry_iadd:entryFor table "list.__iadd__"=some Builtin.«list.__iadd__»:=entryFor_of_tree (by k_ne)
section
variable {w:zT}{A:zU}{E:VP}{σ:zX}{h₀ h:Heap}{t:Nat}{L:zV}{m:NM}{news:Led}
theorem collect_tup {T:zV}{vs:List zY}{n:Nat}{Q:List zY→zX→Prop}(W:Wk h₀ L h m news) (ht:h.get? T=some (tob vs n)) (hz:vs.length≤1000) (k:∀ a n' h',Wk h₀ L h' m ((a,lob vs n')::news)→Kp h h'→Q vs (S σ h' t)):
 zZ (zW PW w) A (collect (.ref T)) Q E (S σ h t):=by
 unfold collect;refine w_b (wpAny_runValue (codeAny_builtin entry_collect ?_));show zZ _ _ (do again (.builtin "list.__iadd__" ⟨[← newList [],.ref T],[]⟩)) _ _ _
 refine w_b (wpAny_newList (w_p ⟨Code.quiet_builtin _ (by decide+kernel),codeAny_builtin entry_iadd ?_⟩));show zZ _ _ (Builtin.List.listExtendWith (.ref h.objs.size) (.ref T) (.ref h.objs.size)) _ _ (S σ (h.push (seqObj "list" #[] 0)) t)
 unfold Builtin.List.listExtendWith;have ho':(h.push (seqObj "list" #[] 0)).get? T=some (tob vs n):=Heap.get?_push_of_some _ ht;refine w_b (wpAny_typeOf (s:=S σ (h.push (seqObj "list" #[] 0)) t) (T:="tuple") ⟨_,ho',rfl⟩ ?_);have ht':(Value.type "tuple"==Value.type "tuple")=true:=by rfl
 rw [if_pos (by rw [ht'];simp)];refine w_b (listItems_at (s:=S σ (h.push (seqObj "list" #[] 0)) t) ho' rfl ?_);refine w_b (listItems_at (s:=S σ (h.push (seqObj "list" #[] 0)) t) (xs:=#[]) (n:=0) (yO _ rfl) rfl ?_);rw [if_neg (by simp)];refine w_b (listUpdate_at (s:=S σ (h.push (seqObj "list" #[] 0)) t) (xs:=#[]) (n:=0) (yO _ rfl) rfl ?_ (Nat.zero_le _) (by show (#[]++vs.toArray).size≤sizeLine+1;simp only [Array.size_append,zI,yA,yF];(revert hz;k_in)));refine w_p ?_
 show zZ (zW PW w) A (do
  let o ← load h.objs.size
  match o.data with
  | .seq xs _=>pure xs.toList
  |_=>unsupported "internal:collect") Q E (S σ ((h.push (seqObj "list" #[] 0)).update h.objs.size (Obj.mapSeq (· ++vs.toArray))) t)
 have hu:=get?_update_seq (yO h (o:=seqObj "list" #[] 0) rfl) (· ++vs.toArray);refine w_b (wpAny_load (s:=S σ ((h.push (seqObj "list" #[] 0)).update h.objs.size (Obj.mapSeq (· ++vs.toArray))) t) hu ?_);show zZ _ _ (pure ((#[]:Array zY)++vs.toArray).toList) Q E _
 rw [show ((#[]:Array zY)++vs.toArray).toList=vs by simp];have e1:((#[]:Array zY)++vs.toArray)=vs.toArray:=by simp
 have W1:Wk h₀ L (h.push (seqObj "list" #[] 0)) m ((h.objs.size,seqObj "list" #[] 0)::news):=W.new _ rfl;rw [e1] at hu;exact w_p (k h.objs.size _ _ (W1.upd (l_u ..) hu) fun b o e=>(Heap.get?_update_other _ _ (Nat.ne_of_gt (zB e))).trans (Heap.get?_push_of_some _ e))
theorem mro150 {M:Model}{P:Params}{h:Heap}(X:(KF PW P).In h):Looks M h (mroOf (.ref 150)) [(.ref 150),(.type "tuple"),(.type "object")]:=
 (looks_clsIn X (cd:={ name:=n44,bases:=[(.type "tuple")],mro:=[(.ref 150),(.type "tuple"),(.type "object")],ns:=149,qualname:=n44,hasDict:=false,slotNames:=[],subclasses:=[],abstract:=false,collection:=none,hasDel:=false }) (by k_ne)).andThen .now
theorem made150 {M:Model}{P:Params}{h:Heap}(X:(KF PW P).In h):Looks M h (Bind.madeBy (.ref 150)) none:=by
 intro A Q E s k q;unfold Bind.madeBy;refine w_b (mro150 X A _ E s k ?_);rw [List.forIn_cons];refine w_b (w_b (w_b (w_b (wpAny_loadPart (k _ _ (X _ _ (show (KF PW P).lookup 150=some _ from rfl))) (w_p ?_)))));dsimp only;exact w_p (w_p (w_p q))
end
end
section
theorem entry_tnew:entryFor table "tuple.__new__"=some Builtin.«tuple.__new__»:=entryFor_of_tree (by k_ne)
theorem plain_tnew:plainId "tuple.__new__"=true:=by decide+kernel
section
variable {w:zT}{A:zU}{E:VP}{σ:zX}{h₀ h:Heap}{t:Nat}{L:zV}{m:NM}{news:Led}
theorem tnew_check {M:Model}{T:zV}{Q:UP}{P:Params}(X:(KF PW P).In h) (k:Q () (S σ h t)):zZ M A (checkBuiltinCall "tuple.__new__" ⟨[.ref 150,.ref T],[]⟩) Q E (S σ h t):=
 (Looks.of_peek X (show peek (KF PW P) ⟨M.prog,M.w.params⟩ (checkBuiltinCall "tuple.__new__" ⟨[.ref 150,.ref T],[]⟩)=some () by k_ne)).at k
theorem c_tnew {T:zV}{vs:List zY}{n:Nat}{Q:VP}(Z:Site w A L h₀) (W:Wk h₀ L h m news) (ht:h.get? T=some (tob vs n)) (hz:vs.length≤1000)
 (k:∀ a dd h' jk,Wk h₀ L h' m ((a,mob dd vs)::(jk++news))→Q (.ref a) (S σ h' t)):zZ (zW PW w) A (call (.builtin "tuple.__new__") [.ref 150,.ref T]) Q E (S σ h t):=by
 have X:=W.inK Z;refine wpAny_call (codeAny_call_builtin plain_tnew entry_tnew (tnew_check X ?_));unfold Builtin.«tuple.__new__»;refine w_b ((Looks.of_peek X (show peek (KF PW w.params) _ _=some true by k_ne)).at ?_);refine KFB.if_not rfl ?_;refine w_b ((Looks.of_peek X (show peek (KF PW w.params) _ _=some true by k_ne)).at ?_);refine KFB.if_not rfl ?_;refine w_b (m:=Bind.madeHere "tuple.__new__" (.ref 150)) ((Looks.of_peek X (show peek (KF PW w.params) _ _=some () by k_ne)).at ?_);refine w_b ((Looks.of_peek X (show peek (KF PW w.params) _ _=some (some (.builtin "object.__init__")) by k_ne)).at ?_);refine KFB.if_so (by decide) ?_;refine w_b (yK (a:=()) (by first|rfl|k_ne) ?_);refine w_b (yK (a:=()) (by first|rfl|k_ne) ?_);refine w_b ?_;show zZ _ _ (collect (.ref T)) _ _ (S σ h t)
 refine collect_tup W ht hz fun cl n' h' W' kp=>?_;refine w_b (w_p ?_);show zZ _ _ (alloc { cls:=.type "dict",data:=.dict #[] } >>=_) _ _ (S σ h' t)
 refine w_b (wpAny_alloc ?_);have W1:=W'.new { cls:=.type "dict",data:=.dict #[] } rfl;have X1:=W1.inK Z;have hsz:(vs.toArray.size > sizeLine)=False:=by rw [zI,yF];simp;lia
 refine w_b ?_;unfold newObj;dsimp only;simp -iota only [hsz,if_false];unfold newObjAsIs classHasDel;have hC:=(W1.inK Z) 150 _ (show (KF PW w.params).lookup 150=some _ from rfl);refine w_b (wpAny_alloc (w_b (w_b (wpAny_load (Heap.get?_push_of_some _ hC) (w_p ?_)))));rw [if_neg (by decide)];refine w_p (w_p ?_);have W2:=W1.new (mob h'.objs.size vs) rfl;exact k _ _ _ [(h'.objs.size,{ cls:=.type "dict",data:=.dict #[] }),(cl,lob vs n')] W2
end
end
section
theorem find_tnew {P:Params}:findCls (KF PW P) (.type "tuple") (.type "type") (PySem.Str.ofString "__new__")=some (.val (.builtin "tuple.__new__")):=by k_ne
section
variable {w:zT}{A:zU}{E:VP}{σ:zX}{h₀ h:Heap}{t:Nat}{L:zV}{m:NM}{news:Led}{env:Env}
theorem g_tnew {pl:Sem Bool}{Q:zY×List zY→zX→Prop}(Z:Site w A L h₀) (W:Wk h₀ L h m news) (k:∀ t',Q (.builtin "tuple.__new__",[]) (S σ h t')):
 zZ (zW PW w) A (getMethod (.type "tuple") (PySem.Str.ofString "__new__") pl) Q E (S σ h t):=by
 have X:=W.inK Z;have hstub:opaqueClassAbove (.type "tuple")=pure none:=by unfold opaqueClassAbove;dsimp only;rw [show Manifest.isStub "tuple"=false by decide+kernel];rfl
 have ht:typeOf (.type "tuple")=pure (.type "type"):=by first|rfl|k_ne
 have L0:Looks (zW PW w) (S σ h t).heap (typeOf (.type "tuple")) (.type "type"):=Looks.of_pure ht;have hg:findIn (KF PW w.params) (.type "type") "__getattribute__"=some (some (.builtin "type.__getattribute__")):=type_tga;unfold getMethod specialOf;refine w_b (w_b (L0.here ((looks_findIn X hg).here ?_)));dsimp only;rw [if_pos canon_tga];refine w_b (w_m (Q:=fun v=>Q (v,[])) (E:=E) ?_ (fun _ _ z=>w_p z) fun _ _ z=>z);have LO:Looks (zW PW w) (S σ h t).heap (opaqueClassAbove (.type "tuple")) none:=Looks.of_pure hstub;refine cls_open X LO L0 hg (looks_hook X (r:=none) (by rfl)) (by show subIn (KF PW w.params) _ _=_;rfl) find_tnew ?_;exact w_p (handed_on (by k_ne) (k _))
end
theorem mnew_body {w A L' g h t σ} {a b c:Int}{ta tb tc:Tok}{f:zV}{m} {Q:FP}{E:VP}
 (Z:Site w A L' g) (W:Wk g L' h m []) (e0:m (zQ "_cls")=some (.ref 150)) (e1:m (zQ "a")=some (.int a ta)) (e2:m (zQ "b")=some (.int b tb)) (e3:m (zQ "size")=some (.int c tc))
 (k:∀ M dd h' t' m' jk,Wk g L' h' m' ((M,mob dd [.int a ta,.int b tb,.int c tc])::jk)→Q (.ret (.ref M)) (S σ h' t')):
 zZ (zW PW w) A (execs (dB (me PW 6 4)) (envX n62 (dS (me PW 6 4)) L' f (.ref 96) [])) Q E (S σ h t):=by
 with_unfolding_all refine x_cons ?_
 kd_p;refine g_tnew Z W fun t'=>?_;with_reducible refine c_bltin0 (by wtm_at "u") (by wtm_at "u") ?_
 kd_p;refine c_tnew (vs:=[.int a ta,.int b tb,.int c tc]) Z W (W.get (.head _)) (by simp) fun M dd h' jk W'=>?_;with_reducible refine x_ret ?_
 exact k _ _ _ _ _ _ W'
theorem mnew_spec {w A L h₀ h t σ m news} {a b c:Int}{ta tb tc:Tok}{R:Result→zX→Prop}
 (Z:Site w A L h₀) (W:Wk h₀ L h m news) (room:A.depth<zS)
 (k:∀ M dd h' t' jk,Wk h₀ L h' m ((M,mob dd [.int a ta,.int b tb,.int c tc])::(jk++news))→R (.ok (.ret (.ref M))) (S σ h' t')):
 codeAny (zW PW w) A (.call (.ref 97) ⟨[.ref 150,.int a ta,.int b tb,.int c tc],[]⟩) R (S σ h t):=
 code_genE (mu:=[]) (rest:=news) (binds:=[(zQ "_cls",.ref 150),(zQ "a",.int a ta),(zQ "b",.int b tb),(zQ "size",.int c tc)]) [] False Z W room (by rfl) (by k_ne) (BindsTo.of_eq (by k_ne)) (locs (by k_ne)) (by decide) (by k_ne) (by k_ne) (by k_ne)
  (fun _ _ _ _ _ q=>q.elim) fun L' h₁ t₁ et FA Z' W'=>
  w_m (mnew_body (E:=fun _ _=>False) (a:=a) (b:=b) (c:=c) (ta:=ta) (tb:=tb) (tc:=tc) (Q:=fun fl s'=>∃ h' t' m' mu',s'=S σ h' t'∧Wk (gnd h []) L' h' m' mu'∧(Wk h₀ L h' m (mu'++news)→R (.ok (.ret (retv fl))) (S σ h' t'))) Z' W' (by k_ne) (by k_ne) (by k_ne) (by k_ne) fun M dd h' t' m' jk W₂=>⟨h',t',_,_,rfl,W₂,fun W₃=>k M dd h' t' jk W₃⟩) (fun _ _ x=>x) fun _ _ x=>x.elim
end
section
theorem find_mnew {P:Params}:findCls (KF PW P) (.ref 150) (.type "type") (PySem.Str.ofString "__new__")=some (.get (.builtin "staticmethod.__get__") (.ref 151) .none (.ref 150)):=by k_ne
theorem oi_args4 (a b c d:zY):argsOk "object.__init__" ⟨[a,b,c,d],[]⟩:=by unfold argsOk;k_ne
section
variable {w:zT}{A:zU}{E:VP}{σ:zX}{h₀ h:Heap}{t:Nat}{L:zV}{m:NM}{news:Led}{env:Env}
theorem c_match {a b c:Int}{ta tb tc:Tok}{Q:VP}(Z:Site w A L h₀) (W:Wk h₀ L h m news) (room:A.depth+2<zS) (k:∀ M dd h' t' jk,Wk h₀ L h' m ((M,mob dd [.int a ta,.int b tb,.int c tc])::(jk++news))→Q (.ref M) (S σ h' t')):
 zZ (zW PW w) A (call (.ref 150) [.int a ta,.int b tb,.int c tc]) Q E (S σ h t):=by
 have X:=W.inK Z;have hC:=X 150 _ (show (KF PW w.params).lookup 150=some _ from rfl);refine wpAny_call ?_;refine codeAny_of_tree ?_;show zZ _ _ (callAny (.ref 150) _) _ _ (S σ h t)
 refine nd_load hC ?_;show zZ _ _ (callAny.viaDunder (.ref 150) _) _ _ (S σ h t)
 unfold callAny.viaDunder;refine w_b ((Looks.of_peek X (show peek (KF PW w.params) _ _=some (some (.builtin "type.__call__")) by k_ne)).at ?_);dsimp only;rw [tc_bind];refine w_b (w_p (w_b (w_p ?_)));refine w_p (a:=Fin.again (.call (.builtin "type.__call__") ⟨.ref 150::[.int a ta,.int b tb,.int c tc],[]⟩)) (And.intro rfl ?_);refine codeAny_call_builtin_at (Code.quiet_builtin _ (by decide+kernel)) entry_typeCall (check_slot tc_kind tc_split (Looks.of_peek X (show peek (KF PW w.params) _ _=some true by k_ne)) (tc_args _ _ _) ?_);unfold Builtin.«type.__call__»;refine KFB.if_not (by decide) ?_;refine w_b ((Looks.of_peek X (show peek (KF PW w.params) _ _=some [(.ref 150),(.type "tuple"),(.type "object")] by k_ne)).at ?_);refine KFB.if_not (by decide) ?_;refine w_b ((made150 X).at ?_);refine w_b ?_;show zZ _ _ (getAttr (.ref 150) (zQ "__new__")) _ _ (S σ h t)
 refine cls_sm (s:=S σ h t) (p:=151) (f:=.ref 97) (rest:=[]) W.fr Z.X (by k_ne) (by k_ne) find_mnew (by k_ne) rfl ?_;refine w_b (w_h (wpAny_call ?_));refine mnew_spec (σ:=σ) (h:=h) (a:=a) (b:=b) (c:=c) (site_under Z) W (by show A.depth+1<_;lia) fun M dd h' t' jk W'=>?_;have hM:=W'.get (.head _);have X':=W'.inK Z;have tM:Looks (zW PW w) h' (typeOf (.ref M)) (.ref 150):=(Looks.ld hM).andThen .now;refine w_b ((tM.andThen (Looks.of_peek X' (show peek (KF PW w.params) _ _=some true by k_ne))).at ?_);refine KFB.if_not (by decide) ?_;have tI:Looks (zW PW w) h' (specialOf (.ref M) (zQ "__init__")) (some (.builtin "object.__init__")):=tM.andThen (Looks.of_peek X' (show peek (KF PW w.params) _ (typeLookup (.ref 150) (zQ "__init__"))=some (some (Value.builtin "object.__init__")) by k_ne));refine w_b (w_h ?_);unfold callSpecial?;refine w_b (tI.at ?_);refine w_h ?_;rw [oi_bind];refine w_b (w_p ?_);refine w_b (wpAny_call (codeAny_call_builtin oi_plain entry_oi ?_));refine @check_slot (zW PW w) _ _ _ "object.__init__" "object" "__init__" (.ref M) [.int a ta,.int b tb,.int c tc] [] _ oi_kind oi_split (tM.andThen (Looks.of_peek X' (show peek (KF PW w.params) _ _=some true by k_ne))) (oi_args4 _ _ _ _) ?_;unfold Builtin.«object.__init__»;show zZ _ _ (typeOf (.ref M) >>=_) _ _ (S σ h' t')
 refine w_b (tM.at ?_);refine w_b ((Looks.of_peek X' (show peek (KF PW w.params) _ (typeLookup (.ref 150) (zQ "__init__"))=some (some (Value.builtin "object.__init__")) by k_ne)).at ?_);refine w_b ((made150 X').at ?_);refine KFB.if_not (by decide) ?_;refine KFB.if_not (by decide) ?_;refine w_p ?_;refine w_p ?_;exact w_p (k M dd h' t' jk W')
end
end
def KdE {w:zT}(K:Kd w):Prop:=∀ {A:zU}{E:VP}{s:zX}{x y:zY}{c d:Int}{Q:VP},K.is s.heap x c→K.is s.heap y d→K.ok c→K.ok d→A.units+90<cLine→
 Q (.bool (decide (c=d))) s→zZ (zW PW w) A (compareOp .Eq x y) Q E s
theorem kde_int {w:zT}:KdE (intKd w):=by
 rintro A E s x y c d Q ⟨t,rfl⟩ ⟨u,rfl⟩ - - hu q;exact PySem.P.eq_int (by rw [show (c==d)=decide (c=d) from by by_cases q:c=d <;> simp [q]];exact q)
theorem kde_el {w:zT}{num hnum}:KdE (elKd w num hnum):=by
 rintro A E s x y c d Q ⟨k,hx,rfl⟩ ⟨l,hy,rfl⟩ ⟨k',hk',ek⟩ ⟨l',hl',el⟩ hu q;have hk:k<10:=kind_lt hk' hx.lt ((hnum k' k (by lia) hx.lt).mp ek);have hl:l<10:=kind_lt hl' hy.lt ((hnum l' l (by lia) hy.lt).mp el);obtain ⟨h1,as,r⟩:=hx.plain (by revert hk;k_in) (by revert hk;k_in);obtain ⟨h2,bs,r'⟩:=hy.plain (by revert hl;k_in) (by revert hl;k_in);have a:=datK_lay k h1 (by revert hk;k_in) (by revert hk;k_in);have b:=datK_lay l h2 (by revert hl;k_in) (by revert hl;k_in);rw [show decide (num k=num l)=decide (kindN k=kindN l) from decide_eq_decide.mpr (hnum k l hx.lt hy.lt),← datK_eqv k h1 l h2 (by revert hk;k_in) (by revert hk;k_in) (by revert hl;k_in) (by revert hl;k_in)] at q;exact PySem.SeqAt.rcAt_reads r r' a.1 b.1 (by have:=Nat.min_le_left (datK k).depth (datK l).depth;lia) PW w E Q q
inductive IR:List Rw→List (Int×Int)→Prop
 |nil:IR [] []
 |cons {j k:Int}{t u:Tok}{rs ps}:IR rs ps→IR ((j,.int j t,.int k u)::rs) ((j,k)::ps)
noncomputable def getI (ps:List (Int×Int)) (j:Int):Int:=((ps.find? fun p=>decide (p.1=j)).map (·.2)).getD 0
noncomputable def putI (j k:Int):List (Int×Int)→List (Int×Int)
 |[]=>[(j,k)]
 |p::r=>if p.1=j then (j,k)::r else p::putI j k r
theorem IR.get {rs ps} (h:IR rs ps) (j:Int):(atX rs j=none∧getI ps j=0)∨∃ u,atX rs j=some (.int (getI ps j) u):=by
 induction h with
 |nil=>exact .inl ⟨rfl,rfl⟩
 |@cons j' k t u rs ps _ ih=>
  by_cases hj:j'=j
  · exact .inr ⟨u,by rw [atX_cons_eq hj];unfold getI;rw [xX,l_t hj];rfl⟩
  · rw [atX_cons_ne hj];have:getI ((j',k)::ps) j=getI ps j:=by unfold getI;rw [xX,l_f hj]
    rw [this];exact ih
theorem IR.keys {rs ps} (h:IR rs ps):∀ r∈rs,∃ t,r.2.1= .int r.1 t:=by
 induction h with
 |nil=>intro r hr;cases hr
 |@cons j k t u rs ps _ ih=>
  intro r hr;rcases zL.mp hr with rfl|hr
  · exact ⟨t,rfl⟩
  · exact ih r hr
theorem IR.put_new {rs ps} (h:IR rs ps) {j k:Int}{t u:Tok}(hn:∀ r∈rs,r.1≠j):IR (rs++[(j,.int j t,.int k u)]) (putI j k ps):=by
 induction h with
 |nil=>exact .cons .nil
 |@cons j' k' t' u' rs ps _ ih=>
  have:=hn _ (.head _);simp only at this;dsimp only [putI];rw [if_neg this];exact .cons (ih fun r hr=>hn r (.tail _ hr))
theorem IR.same {rs ps} (h:IR rs ps) {j:Int}(v:zY) (hn:j∉rs.map (·.1)):rs.map (fun x=>if x.1=j then (x.1,x.2.1,v) else x)=rs:=by
 conv=>rhs;rw [← List.map_id rs]
 refine List.map_congr_left fun r hr=>?_;rw [if_neg fun e=>hn (by rw [← e];exact l_o hr)];rfl
theorem IR.put_old {rs ps} (h:IR rs ps) {j k:Int}{u:Tok}:(rs.map (·.1)).Nodup→(∃ r∈rs,r.1=j)→IR (rs.map fun x=>if x.1=j then (x.1,x.2.1,.int k u) else x) (putI j k ps):=by
 induction h with
 |nil=>rintro - ⟨r,hr,_⟩;cases hr
 |@cons j' k' t' u' rs ps hr ih=>
  rintro hn ⟨r,hm,e⟩;rw [zM,zJ] at hn;dsimp only [putI];by_cases hj:j'=j
  · subst hj;rw [if_pos rfl,zM,if_pos rfl,hr.same _ hn.1];exact .cons hr
  · rw [if_neg hj,zM,if_neg hj];rcases zL.mp hm with rfl|hm
    · exact absurd e hj
    · exact .cons (ih hn.2 ⟨r,hm,e⟩)
theorem IR.set {rs ps} (h:IR rs ps) {j k:Int}{t u:Tok}(hn:(rs.map (·.1)).Nodup):IR (setX rs j (.int j t) (.int k u)) (putI j k ps)∧((setX rs j (.int j t) (.int k u)).map (·.1)).Nodup∧(setX rs j (.int j t) (.int k u)).length≤rs.length+1:=by
 unfold setX;by_cases ha:rs.any (fun x=>decide (x.1=j))=true
 · rw [if_pos ha];rw [List.any_eq_true] at ha;obtain ⟨r,hr,e⟩:=ha;refine ⟨h.put_old hn ⟨r,hr,by simpa using e⟩,?_,by rw [zO];k_in⟩;rw [List.map_map,show ((fun x:Rw=>x.1) ∘ fun x:Rw=>if x.1=j then (x.1,x.2.1,Value.int k u) else x)=fun x=>x.1 from by funext x;simp only [Function.comp_def];split <;> rfl];exact hn
 · rw [if_neg ha];have hn':∀ r∈rs,r.1≠j:=fun r hr e=>ha (List.any_eq_true.mpr ⟨r,hr,l_t e⟩)
   refine ⟨h.put_new hn',?_,by simp⟩;rw [zK,yQ];refine ⟨hn,by simp,fun a ha b hb e=>?_⟩;simp only [zM,List.map_nil,zH] at hb;obtain ⟨r,hr,rfl⟩:=zN.mp ha;exact hn' r hr (e.trans hb)
theorem IR.keyed {w:zT}{h:Heap}{rs ps} (x:IR rs ps) (hn:(rs.map (·.1)).Nodup):Keyed (intKd w) h rs:=by
 refine ⟨fun r hr=>?_,hn⟩;obtain ⟨t,e⟩:=x.keys r hr;exact ⟨⟨t,e⟩,trivial⟩
abbrev Tri:=Int×Int×Int
noncomputable def idxO (odd c:Int) (ys:List El2):List Int:=if c=odd then [] else idx c ys
noncomputable def fiStep (old:List (Int×Int)) (i:Int) (st:List (Int×Int)×Tri) (j:Int):List (Int×Int)×Tri:=
 (putI j (getI old (j - 1)+1) st.1,if st.2.2.2<getI old (j - 1)+1 then (i - (getI old (j - 1)+1)+1,j - (getI old (j - 1)+1)+1,getI old (j - 1)+1) else st.2)
noncomputable def fiRow (old:List (Int×Int)) (i blo bhi:Int):List Int→List (Int×Int)×Tri→List (Int×Int)×Tri
 |[],st=>st
 |j::r,st=>if j<blo then fiRow old i blo bhi r st else if bhi≤j then st else fiRow old i blo bhi r (fiStep old i st j)
noncomputable def nAt (xs:List El2) (i:Int):Int:=(xs[i.toNat]?.map (·.2)).getD 0
noncomputable def fiAll (xs ys:List El2) (odd blo bhi:Int):Nat→Int→List (Int×Int)→Tri→Tri
 |0,i,old,best=>best
 |n+1,i,old,best=>fiAll xs ys odd blo bhi n (i+1) (fiRow old i blo bhi (idxO odd (nAt xs i) ys) ([],best)).1 (fiRow old i blo bhi (idxO odd (nAt xs i) ys) ([],best)).2
noncomputable def bkC (xs ys:List El2) (odd:Int) (want:Bool) (alo blo:Int) (s:Tri):Bool:=decide (alo<s.1)&&decide (blo<s.2.1)&&(decide (nAt ys (s.2.1 - 1)=odd)==want)&&decide (nAt xs (s.1 - 1)=nAt ys (s.2.1 - 1))
noncomputable def exBack (xs ys:List El2) (odd:Int) (want:Bool) (alo blo:Int):Nat→Tri→Tri
 |0,s=>s
 |f+1,s=>if bkC xs ys odd want alo blo s then exBack xs ys odd want alo blo f (s.1 - 1,s.2.1 - 1,s.2.2+1) else s
noncomputable def fwC (xs ys:List El2) (odd:Int) (want:Bool) (ahi bhi:Int) (s:Tri):Bool:=decide (s.1+s.2.2<ahi)&&decide (s.2.1+s.2.2<bhi)&&(decide (nAt ys (s.2.1+s.2.2)=odd)==want)&&decide (nAt xs (s.1+s.2.2)=nAt ys (s.2.1+s.2.2))
noncomputable def exFwd (xs ys:List El2) (odd:Int) (want:Bool) (ahi bhi:Int):Nat→Tri→Tri
 |0,s=>s
 |f+1,s=>if fwC xs ys odd want ahi bhi s then exFwd xs ys odd want ahi bhi f (s.1,s.2.1,s.2.2+1) else s
def back (xs ys:List El2) (odd:Int) (want:Bool) (alo blo:Int) (s:Tri):Tri:=exBack xs ys odd want alo blo (s.1 - alo).toNat s
def fwd (xs ys:List El2) (odd:Int) (want:Bool) (ahi bhi:Int) (s:Tri):Tri:=exFwd xs ys odd want ahi bhi (ahi - (s.1+s.2.2)).toNat s
theorem back_step {xs ys odd want alo blo s} (h:bkC xs ys odd want alo blo s=true):back xs ys odd want alo blo s=back xs ys odd want alo blo (s.1 - 1,s.2.1 - 1,s.2.2+1):=by
 unfold back;have h1:alo<s.1:=by unfold bkC at h;simp only [yT,decide_eq_true_eq] at h;exact h.1.1.1
 obtain ⟨n,hn⟩:∃ n,(s.1 - alo).toNat=n+1:=⟨(s.1 - alo).toNat - 1,by revert h1;k_in⟩;rw [hn];dsimp only [exBack];rw [if_pos h];rw [show (s.1 - 1 - alo).toNat=n by revert h1 hn;k_in]
theorem back_stop {xs ys odd want alo blo s} (h:bkC xs ys odd want alo blo s=false):back xs ys odd want alo blo s=s:=by
 unfold back;cases (s.1 - alo).toNat with
 |zero=>rfl
 |succ n=>dsimp only [exBack];rw [h];rfl
theorem fwd_step {xs ys odd want ahi bhi s} (h:fwC xs ys odd want ahi bhi s=true):fwd xs ys odd want ahi bhi s=fwd xs ys odd want ahi bhi (s.1,s.2.1,s.2.2+1):=by
 unfold fwd;have h1:s.1+s.2.2<ahi:=by unfold fwC at h;simp only [yT,decide_eq_true_eq] at h;exact h.1.1.1
 obtain ⟨n,hn⟩:∃ n,(ahi - (s.1+s.2.2)).toNat=n+1:=⟨(ahi - (s.1+s.2.2)).toNat - 1,by revert h1;k_in⟩;rw [hn];dsimp only [exFwd];rw [if_pos h];rw [show (ahi - (s.1+(s.2.2+1))).toNat=n by revert h1 hn;k_in]
theorem fwd_stop {xs ys odd want ahi bhi s} (h:fwC xs ys odd want ahi bhi s=false):fwd xs ys odd want ahi bhi s=s:=by
 unfold fwd;cases (ahi - (s.1+s.2.2)).toNat with
 |zero=>rfl
 |succ n=>dsimp only [exFwd];rw [h];rfl
def fiBest (xs ys:List El2) (odd alo ahi blo bhi:Int):Tri:=fiAll xs ys odd blo bhi (ahi - alo).toNat alo [] (alo,blo,0)
def flm (xs ys:List El2) (odd alo ahi blo bhi:Int):Tri:=
 fwd xs ys odd true ahi bhi (back xs ys odd true alo blo (fwd xs ys odd false ahi bhi (back xs ys odd false alo blo (fiBest xs ys odd alo ahi blo bhi))))
def InB (alo ahi blo bhi:Int) (s:Tri):Prop:=alo≤s.1∧s.1+s.2.2≤ahi∧blo≤s.2.1∧s.2.1+s.2.2≤bhi∧0≤s.2.2
section
structure Ms (w:zT) (K:Kd w) (x dx one two bd bj:zV) (od jo:Obj) (ep:Nat) (j bp:zV) (mb:zY) (odd:Int) (xs ys:List El2) (rows:List Rw) (g:Heap):Prop where
 hx:g.get? x=some (instObj 257 dx)
 hd:g.get? dx=some od
 sd:Sd od (as5 (.ref j) (.ref one) (.ref two) mb (.ref bd) (.ref bj) (.ref bp))
 hbd:g.get? bd=some (dob K (okX odd rows) ep)
 bd1:bd≠1
 hbj:g.get? bj=some jo
 js:JS w K odd rows jo
 br:∀ r∈rows,∃ l vs n,r.2.2= .ref l∧g.get? l=some (lob vs n)∧IntsL vs (idx r.1 ys)
 fi:rows.map (fun r=>(r.2.1,r.1))=firsts ys
 ok:∀ y∈ys,K.ok y.2
 hone:∃ n,g.get? one=some (lob (xs.map (·.1)) n)
 htwo:∃ n,g.get? two=some (lob (ys.map (·.1)) n)
 ex:AsK K g xs
 ey:AsK K g ys
 zx:xs.length≤100
 zy:ys.length≤100
section
variable {w:zT}{K:Kd w}{x dx one two bd bj:zV}{od jo:Obj}{ep:Nat}{j bp:zV}{mb:zY}{odd:Int}{xs ys:List El2}{rows:List Rw}{g:Heap}
theorem Ms.nd (M:Ms w K x dx one two bd bj od jo ep j bp mb odd xs ys rows g):(rows.map (·.1)).Nodup:=by
 have h1:=firsts_nodup ys [] List.nodup_nil;have h2:(rows.map (·.1))=(firsts ys).map (·.2):=by rw [← M.fi,List.map_map];rfl
 rw [h2];exact h1
theorem Ms.sub (M:Ms w K x dx one two bd bj od jo ep j bp mb odd xs ys rows g) {r:Rw}(hr:r∈rows):(r.2.1,r.1)∈ys:=by
 have hm:(r.2.1,r.1)∈firsts ys:=by rw [← M.fi];exact zN.mpr ⟨r,hr,rfl⟩
 rcases firsts_sub _ _ hm with h|h
 · cases h
 · exact h
theorem Ms.keyed (M:Ms w K x dx one two bd bj od jo ep j bp mb odd xs ys rows g):Keyed K g (okX odd rows):=by
 refine ⟨fun r hr=>?_,?_⟩
 · have hr':r∈rows:=(List.mem_filter.mp hr).1;exact ⟨M.ey _ (M.sub hr'),M.ok _ (M.sub hr')⟩
 · exact M.nd.sublist (List.Sublist.map _ List.filter_sublist)
theorem Ms.row (M:Ms w K x dx one two bd bj od jo ep j bp mb odd xs ys rows g) {y:El2}(hy:y∈ys):∃ r∈rows,r.1=y.2:=by
 obtain ⟨q,hq,e⟩:=firsts_has.mpr ⟨y,hy,rfl⟩;rw [← M.fi] at hq;obtain ⟨r,hr,rfl⟩:=zN.mp hq;exact ⟨r,hr,e⟩
theorem atX_find {rs:List Rw}{c:Int}:(∀ r∈rs,r.1≠c)∨∃ r∈rs,r.1=c∧atX rs c=some r.2.2:=by
 unfold atX;cases h:rs.find? (fun r=>decide (r.1=c)) with
 |none=>exact .inl fun r hr e=>by have:=List.find?_eq_none.mp h r hr;simp [e] at this
 |some r=>exact .inr ⟨r,List.mem_of_find?_eq_some h,by simpa using List.find?_some h,rfl⟩
theorem Ms.look (M:Ms w K x dx one two bd bj od jo ep j bp mb odd xs ys rows g) (c:Int):(atX (okX odd rows) c=none∧idxO odd c ys=[])∨∃ l vs n,atX (okX odd rows) c=some (.ref l)∧g.get? l=some (lob vs n)∧IntsL vs (idxO odd c ys):=by
 unfold idxO;by_cases hc:c=odd
 · rw [if_pos hc];refine .inl ⟨atX_mem.mpr fun r hr e=>?_,rfl⟩;have:=(List.mem_filter.mp hr).2;simp only [decide_eq_true_eq] at this;exact this (e.trans hc)
 · rw [if_neg hc];rcases atX_find (rs:=okX odd rows) (c:=c) with h|⟨r,hr,e,ha⟩
   · refine .inl ⟨atX_mem.mpr h,idx_none fun y hy e=>?_⟩;obtain ⟨r,hr,e'⟩:=M.row hy;exact h r (List.mem_filter.mpr ⟨hr,by simp [e',e,hc]⟩) (e'.trans e)
   · obtain ⟨l,vs,n,h1,h2,h3⟩:=M.br r (List.mem_filter.mp hr).1;exact .inr ⟨l,vs,n,by rw [ha,h1],h2,by rw [← e];exact h3⟩
theorem Ms.junk (M:Ms w K x dx one two bd bj od jo ep j bp mb odd xs ys rows g) {A:zU}{σ:zX}{h:Heap}{t:Nat}{u:zV}{y:El2}{Q E:VP}(kp:Kp g h) (hb:h.get? u=some (bdo "set.__contains__" bj)) (hy:y∈ys) (hu:A.units+80<cLine)
 (k:∀ t',Q (.bool (decide (y.2=odd))) (S σ h t')):zZ (zW PW w) A (call (.ref u) [y.1]) Q E (S σ h t):=by
 have hj:=kp _ _ M.hbj;have hk:K.is h y.1 y.2:=K.keeps (M.ey y hy) kp;have ho:=M.ok y hy;rcases M.js with ⟨rfl,hn⟩|⟨r,hr,hc,pl,rfl⟩
 · refine call_bcon (b:=decide (y.2=odd)) hb hj (fun Q' E' q=>?_) k;have:y.2≠odd:=fun e=>by obtain ⟨r,hr,e'⟩:=M.row hy;exact hn r hr (e'.trans e)
   rw [l_f this] at q;exact set_has0 (K:=K) (by rw [yN];lia) hj hk ho fun tk=>q tk
 · refine call_bcon (b:=decide (y.2=odd)) hb hj (fun Q' E' q=>?_) k;have e:decide (y.2=odd)=decide (odd=y.2):=decide_eq_decide.mpr eq_comm;rw [e] at q;have h1:K.is h r.2.1 odd:=by rw [← hc];exact K.keeps (M.ey _ (M.sub hr)) kp
   have h2:K.ok odd:=by rw [← hc];exact M.ok _ (M.sub hr)
   exact set_has1 (K:=K) (pl:=pl) (by rw [yN];lia) hj h1 h2 hk ho fun tk=>q tk
end
section
variable {w:zT}{A:zU}{E:VP}{σ:zX}{h₀ h:Heap}{t:Nat}{L:zV}{m:NM}{news:Led}
variable {cn:Str}{cs:Scope}{a:zV}{ccd:zY}{cl:List (Str×zV)}
theorem u_tup4 {k' pos} {x y z u:Str}{p1 p2 p3 p4} {T:zV}{v1 v2 v3 v4:zY}{Q:UP}(W:Wk h₀ L h m news) (hh:A.handled=none) (ht:Tp h T [v1,v2,v3,v4])
 (k:∀ h'' t'',Wk h₀ L h'' (setm (setm (setm (setm m x v1) y v2) z v3) u v4) news→Q () (S σ h'' t''))
 (hk:cs.kind= .function) (hx:(envX cn cs L a ccd cl).kindOf x=some .local) (hy:(envX cn cs L a ccd cl).kindOf y=some .local) (hz:(envX cn cs L a ccd cl).kindOf z=some .local) (hu:(envX cn cs L a ccd cl).kindOf u=some .local):
 zZ (zW PW w) A (assign (.Tuple [.Name x p1,.Name y p2,.Name z p3,.Name u p4] k' pos) (envX cn cs L a ccd cl) (.ref T)) Q E (S σ h t):=by
 refine assign_Tuple_tuple hh ht (by rfl) (by rfl) fun h₂ he=>?_;have W₂:=W.grow (Kp.ext he);show zZ _ _ (assignInOrder [assign (.Name x p1) _,assign (.Name y p2) _,assign (.Name z p3) _,assign (.Name u p4) _] [v1,v2,v3,v4]) _ _ _
 exact ai_cons (x_assign_name (t:=t) W₂ (fun h₃ t₃ W₃=>ai_cons (x_assign_name W₃ (fun h₄ t₄ W₄=>ai_cons (x_assign_name W₄ (fun h₅ t₅ W₅=>ai_cons (x_assign_name W₅ (fun h₆ t₆ W₆=>ai_nil (k h₆ t₆ W₆)) hk hu)) hk hz)) hk hy)) hk hx)
theorem r_attr2 {env:Env}{value:Expr}{attr:Str}{pos:Pos}{s:zX}{Q:VP}(k:zZ (zW PW w) A (eval value env) (fun o s₁=>zZ (zW PW w) A (getAttr o attr true) Q E s₁) E s)
 (he:eval (.Attribute value attr pos) env=(do
  let o ← eval value env
  standAt pos.atName
  let r ← holding [o] (getAttr o attr true)
  letTemporaryGo value o r
  pure r)):zZ (zW PW w) A (eval (.Attribute value attr pos) env) Q E s:=Attribute_any_ k he
theorem as_sub {env:Env}{o i:Expr}{pos:Pos}{v:zY}{s:zX}{M:Model}{Q:UP}
 (k:zZ M A (eval o env) (fun ov s₂=>zZ M A (eval i env) (fun iv s₃=>zZ M A (setItem ov iv v) (fun _ s₄=>Q () s₄) E s₃) E s₂) E s):zZ M A (assign (.Subscript o i pos) env v) Q E s:=kas_sub k
theorem l_local {x:Str}{v:zY}{Q:VP}(W:Wk h₀ L h m news) (hv:m x=some v) (k:Q v (S σ h t))
 (hk:cs.kind= .function) (hx:(envX cn cs L a ccd cl).kindOf x=some .local):zZ (zW PW w) A (loadName (envX cn cs L a ccd cl) x) Q E (S σ h t):=wpAny_loadName_local hk hx W.fr.ns hv k
end
theorem nAt_of {xs:List El2}{i:Int}{y:El2}(h:xs[i.toNat]? =some y):nAt xs i=y.2:=by unfold nAt;rw [h];rfl
theorem get_el {xs:List El2}{i:Int}(h0:0≤i) (h1:i<xs.length):∃ y,y∈xs∧xs[i.toNat]? =some y∧(xs.map (·.1))[i.toNat]? =some y.1∧nAt xs i=y.2:=by
 have hl:i.toNat<xs.length:=by (revert h0 h1;k_in)
 have e:xs[i.toNat]? =some xs[i.toNat]:=l_e hl;exact ⟨xs[i.toNat],List.getElem_mem hl,e,by rw [zF,e];rfl,nAt_of e⟩
end
theorem getI_put (j k:Int):∀ (ps:List (Int×Int)) (c:Int),getI (putI j k ps) c=if j=c then k else getI ps c
 |[],c=>by
  dsimp only [putI];unfold getI;by_cases h:j=c <;> simp [h]
 |p::r,c=>by
  have ih:=getI_put j k r c;dsimp only [putI];by_cases hp:p.1=j
  · rw [if_pos hp];unfold getI;by_cases h:j=c
    · subst h;simp
    · rw [xX,xX,l_f h,l_f (by rw [hp];exact h),if_neg h]
  · rw [if_neg hp];unfold getI at ih ⊢;by_cases h:p.1=c
    · rw [xX,xX,l_t h,if_neg (by rw [← h];exact Ne.symm hp)]
    · rw [xX,xX,l_f h];exact ih
def GI (alo blo bhi i:Int) (ps:List (Int×Int)):Prop:=∀ j,0≤getI ps j∧getI ps j≤i - alo∧(0<getI ps j→getI ps j≤j - blo+1∧j<bhi)
theorem fiStep_inv {alo ahi blo bhi i j:Int}{old ps:List (Int×Int)}{best:Tri}(ho:GI alo blo bhi i old) (hp:GI alo blo bhi (i+1) ps) (hb:InB alo ahi blo bhi best) (h1:alo≤i) (h2:i<ahi) (h3:blo≤j) (h4:j<bhi):
 GI alo blo bhi (i+1) (fiStep old i (ps,best) j).1∧InB alo ahi blo bhi (fiStep old i (ps,best) j).2:=by
 obtain ⟨o1,o2,o3⟩:=ho (j - 1);unfold fiStep;dsimp only
 have hk:getI old (j - 1)+1≤j - blo+1:=by
  by_cases h:0<getI old (j - 1)
  · have:=(o3 h).1;(revert o3 h;k_in)
  · (revert h3 o1 h;k_in)
 refine ⟨fun c=>?_,?_⟩
 · rw [getI_put];split
   · rename_i e;subst e;exact ⟨by revert o1;k_in,by revert o2;k_in,fun _=>⟨hk,h4⟩⟩
   · exact hp c
 · split
   · exact ⟨by dsimp only;(revert o2;k_in),by dsimp only;(revert h2;k_in),by dsimp only;(revert hk;k_in),by dsimp only;(revert h4;k_in),by dsimp only;(revert o1;k_in)⟩
   · exact hb
theorem fiRow_inv {alo ahi blo bhi i:Int}{old:List (Int×Int)}(ho:GI alo blo bhi i old) (h1:alo≤i) (h2:i<ahi):∀ (l:List Int) (st:List (Int×Int)×Tri),GI alo blo bhi (i+1) st.1→InB alo ahi blo bhi st.2→
 GI alo blo bhi (i+1) (fiRow old i blo bhi l st).1∧InB alo ahi blo bhi (fiRow old i blo bhi l st).2
 |[],st,hp,hb=>⟨hp,hb⟩
 |j::r,st,hp,hb=>by
  dsimp only [fiRow];split
  · exact fiRow_inv ho h1 h2 r st hp hb
  · split
    · exact ⟨hp,hb⟩
    · obtain ⟨a,b⟩:=fiStep_inv (j:=j) (best:=st.2) ho hp hb h1 h2 (by lia) (by lia);exact fiRow_inv ho h1 h2 r _ a b
theorem GI.nil {alo blo bhi i:Int}(h:alo≤i):GI alo blo bhi i []:=fun j=>⟨yW _,by show (0:Int)≤_;(revert h;k_in),fun x=>absurd x (by show ¬ (0:Int)<0;decide)⟩
theorem fiAll_inv {xs ys:List El2}{odd alo ahi blo bhi:Int}:∀ (n:Nat) (i:Int) (old:List (Int×Int)) (best:Tri),alo≤i→i+n≤ahi→GI alo blo bhi i old→InB alo ahi blo bhi best→InB alo ahi blo bhi (fiAll xs ys odd blo bhi n i old best)
 |0,i,old,best,_,_,_,hb=>hb
 |n+1,i,old,best,h1,h2,ho,hb=>by
  dsimp only [fiAll];obtain ⟨a,b⟩:=fiRow_inv ho h1 (by revert h2;k_in) (idxO odd (nAt xs i) ys) ([],best) (GI.nil (by revert h1;k_in)) hb;exact fiAll_inv n (i+1) _ _ (by revert h1;k_in) (by revert h2;k_in) a b
theorem fiBest_inB {xs ys:List El2}{odd alo ahi blo bhi:Int}(h1:alo≤ahi) (h2:blo≤bhi):InB alo ahi blo bhi (fiBest xs ys odd alo ahi blo bhi):=
 fiAll_inv _ _ _ _ (yW _) (by revert h1;k_in) (GI.nil (yW _)) ⟨yW _,by dsimp only;(revert h1;k_in),yW _,by dsimp only;(revert h2;k_in),yW _⟩
section
noncomputable def ltK (key:Nat→Int) (i j:Nat):Bool:=decide (key i<key j)
def KOk (n:Nat) (key:Nat→Int) {α:Type}(P:α→Prop):KasT α→Prop
 | .ret a=>P a
 | .ask i j k=>i<n∧j<n∧key i≠key j∧KOk n key P (k (ltK key i j))
theorem KOk.bind {n:Nat}{key:Nat→Int}{α β:Type}{P:α→Prop}{R:β→Prop}{f:α→KasT β}:∀ {t:KasT α},KOk n key P t→(∀ a,P a→KOk n key R (f a))→KOk n key R (t.bind f)
 | .ret a,h,k=>k a h
 | .ask i j c,h,k=>⟨h.1,h.2.1,h.2.2.1,KOk.bind (t:=c (ltK key i j)) h.2.2.2 k⟩
theorem KOk.mono {n:Nat}{key:Nat→Int}{α:Type}{P R:α→Prop}(k:∀ a,P a→R a):∀ {t:KasT α},KOk n key P t→KOk n key R t
 | .ret a,h=>k a h
 | .ask i j c,h=>⟨h.1,h.2.1,h.2.2.1,KOk.mono k (t:=c (ltK key i j)) h.2.2.2⟩
theorem KOk.wp {n:Nat}{key:Nat→Int}{α:Type}{P:α→Prop}{I:zX→Prop}{Q:α→zX→Prop}{cmp:Nat→Nat→(Bool→zX→Prop)→zX→Prop}
 (hc:∀ i j (C:Bool→zX→Prop) s,i<n→j<n→key i≠key j→I s→(∀ s',I s'→C (ltK key i j) s')→cmp i j C s) (hq:∀ a s,P a→I s→Q a s):∀ {t:KasT α}{s:zX},KOk n key P t→I s→t.kasWp cmp Q s
 | .ret a,s,h,i=>hq a s h i
 | .ask i j c,s,h,hi=>hc i j _ s h.1 h.2.1 h.2.2.1 hi fun s' i'=>KOk.wp hc hq (t:=c (ltK key i j)) h.2.2.2 i'
section
variable {n:Nat}{key:Nat→Int}
noncomputable def Kp2 (key:Nat→Int) (p:Array Nat) (k:Nat):Int:=key (p.getD k 0)
def Inv (n:Nat) (p:Array Nat):Prop:=p.size=n∧p.toList.Perm (xY n)
def SP (key:Nat→Int) (p:Array Nat) (r:Nat):Prop:=∀ a b,a<b→b<r→Kp2 key p a<Kp2 key p b
def DP (key:Nat→Int) (p:Array Nat) (r:Nat):Prop:=∀ a b,a<b→b<r→Kp2 key p b<Kp2 key p a
def Inj (n:Nat) (key:Nat→Int):Prop:=∀ i j,i<n→j<n→key i=key j→i=j
theorem Inv.lt {p:Array Nat}(h:Inv n p) {k:Nat}(hk:k<n):p.getD k 0<n:=by
 have hk':k<p.size:=by rw [h.1];exact hk
 have:p.getD k 0=p[k]:=by simp [Array.getD,hk']
 rw [this];have hm:p[k]∈p.toList:=by simp
 have:=(h.2.mem_iff).mp hm;exact List.mem_range.mp this
theorem Inv.ne {p:Array Nat}(h:Inv n p) (hI:Inj n key) {a b:Nat}(ha:a<n) (hb:b<n) (hab:a≠b):Kp2 key p a≠Kp2 key p b:=by
 intro e;have e':=hI _ _ (h.lt ha) (h.lt hb) e;have nd:p.toList.Nodup:=(h.2.nodup_iff).mpr List.nodup_range;have ha':a<p.size:=by rw [h.1];exact ha
 have hb':b<p.size:=by rw [h.1];exact hb
 have e1:p.getD a 0=p[a]:=by simp [Array.getD,ha']
 have e2:p.getD b 0=p[b]:=by simp [Array.getD,hb']
 rw [e1,e2] at e';have hp:=List.pairwise_iff_getElem.mp nd;rcases Nat.lt_or_gt_of_ne hab with q|q
 · exact hp a b (by simpa using ha') (by simpa using hb') q (by simpa using e')
 · exact hp b a (by simpa using hb') (by simpa using ha') q (by simpa using e'.symm)
theorem asc_ok (hI:Inj n key) {p:Array Nat}(h:Inv n p):∀ (f m:Nat),1≤m→m+f≤n→SP key p m→KOk n key (fun r=>m≤r∧r≤m+f∧SP key p r∧(r<m+f→Kp2 key p r<Kp2 key p (r - 1))) (kas_asc p f m)
 |0,m,h1,h2,hs=>⟨yX _,yX _,hs,fun x=>absurd x (yY _)⟩
 |f+1,m,h1,h2,hs=>by
  refine ⟨h.lt (by revert h1 h2;k_in),h.lt (by revert h1 h2;k_in),h.ne hI (by revert h1 h2;k_in) (by revert h1 h2;k_in) (by revert h1;k_in),?_⟩;by_cases hc:key (p.getD m 0)<key (p.getD (m - 1) 0)
  · rw [show ltK key (p.getD m 0) (p.getD (m - 1) 0)=true from l_t hc];dsimp only;rw [if_pos rfl];exact ⟨yX _,by k_in,hs,fun _=>hc⟩
  · rw [show ltK key (p.getD m 0) (p.getD (m - 1) 0)=false from l_f hc];dsimp only;rw [if_neg (by decide)];have hne:=h.ne hI (a:=m) (b:=m - 1) (by revert h1 h2;k_in) (by revert h1 h2;k_in) (by revert h1;k_in);refine KOk.mono ?_ (asc_ok hI h f (m+1) (by k_in) (by revert h2;k_in) fun a b hab hb=>?_)
    · rintro r ⟨x1,x2,x3,x4⟩;exact ⟨by revert x1;k_in,by revert x2;k_in,x3,fun y=>x4 (by revert x2 y;k_in)⟩
    · have hlt:Kp2 key p (m - 1)<Kp2 key p m:=by
       have:¬ Kp2 key p m<Kp2 key p (m - 1):=hc
       (revert hne this;k_in)
      by_cases e:b=m
      · subst e;by_cases e2:a=b - 1
        · rw [e2];exact hlt
        · exact Int.lt_trans (hs a (b - 1) (by revert hab h1 e2;k_in) (by revert h1;k_in)) hlt
      · exact hs a b hab (by revert hb e;k_in)
theorem desc_ok (hI:Inj n key) {p:Array Nat}(h:Inv n p):∀ (f m:Nat),1≤m→m+f≤n→DP key p m→KOk n key (fun r=>r.1=p∧r.2.2=0∧m≤r.2.1∧r.2.1≤m+f∧DP key p r.2.1) (kas_desc f p m 0)
 |0,m,h1,h2,hs=>⟨rfl,rfl,yX _,yX _,hs⟩
 |f+1,m,h1,h2,hs=>by
  refine ⟨h.lt (by revert h1 h2;k_in),h.lt (by revert h1 h2;k_in),h.ne hI (by revert h1 h2;k_in) (by revert h1 h2;k_in) (by revert h1;k_in),?_⟩;by_cases hc:key (p.getD m 0)<key (p.getD (m - 1) 0)
  · rw [show ltK key (p.getD m 0) (p.getD (m - 1) 0)=true from l_t hc];dsimp only;rw [if_pos rfl,if_neg (by k_in)];refine KOk.mono ?_ (desc_ok hI h f (m+1) (by k_in) (by revert h2;k_in) fun a b hab hb=>?_)
    · rintro r ⟨x1,x2,x3,x4,x5⟩;exact ⟨x1,x2,by revert x3;k_in,by revert x4;k_in,x5⟩
    · have hlt:Kp2 key p m<Kp2 key p (m - 1):=hc;by_cases e:b=m
      · subst e;by_cases e2:a=b - 1
        · rw [e2];exact hlt
        · exact Int.lt_trans hlt (hs a (b - 1) (by revert hab h1 e2;k_in) (by revert h1;k_in))
      · exact hs a b hab (by revert hb e;k_in)
  · rw [show ltK key (p.getD m 0) (p.getD (m - 1) 0)=false from l_f hc];dsimp only;rw [if_neg (by decide)];have hne:=h.ne hI (a:=m) (b:=m - 1) (by revert h1 h2;k_in) (by revert h1 h2;k_in) (by revert h1;k_in);refine ⟨h.lt (by revert h1 h2;k_in),h.lt (by revert h1 h2;k_in),h.ne hI (by revert h1 h2;k_in) (by revert h1 h2;k_in) (by revert h1;k_in),?_⟩
    have:key (p.getD (m - 1) 0)<key (p.getD m 0):=by
     have h1:¬ Kp2 key p m<Kp2 key p (m - 1):=hc;have h2:Kp2 key p (m - 1)<Kp2 key p m:=by (revert hne h1;k_in)
     exact h2
    rw [show ltK key (p.getD (m - 1) 0) (p.getD m 0)=true from l_t this];dsimp only;rw [if_pos rfl];exact ⟨rfl,rfl,yX _,by show m≤_;k_in,hs⟩
theorem rev_inv {p:Array Nat}(h:Inv n p) (i j:Nat):Inv n (kas_rev p i j):=⟨by rw [kas_rev_size];exact h.1,(mirror_perm p i j _).toList.trans h.2⟩
theorem Kp2_at {p:Array Nat}{k:Nat}:Kp2 key p k=key ((p[k]?).getD 0):=by unfold Kp2;rw [Array.getD_eq_getD_getElem?]
theorem rev_sp {p:Array Nat}{r:Nat}(hr:r≤p.size) (hs:DP key p r):SP key (kas_rev p 0 r) r:=by
 intro a b hab hb
 have e:∀ k,k<r→Kp2 key (kas_rev p 0 r) k=Kp2 key p (r - 1 - k):=fun k hk=>by
  rw [Kp2_at,Kp2_at];unfold kas_rev;rw [getElem?_mirror_all hr,if_pos ⟨Nat.zero_le _,hk⟩,Nat.zero_add]
 rw [e a (by revert hab hb;k_in),e b hb];exact hs _ _ (by revert hab hb;k_in) (by revert hab hb;k_in)
theorem count_ok (hI:Inj n key) {p:Array Nat}(h:Inv n p) (h1:1≤n):KOk n key (fun r=>Inv n r.2∧SP key r.2 r.1∧1≤r.1∧r.1≤n) (kas_count n p):=by
 refine KOk.bind (asc_ok hI h (n - 1) 1 (yX _) (by revert h1;k_in) fun a b _ _=>by rename_i z1 z0;revert z1 z0;k_in) ?_;rintro r ⟨x1,x2,x3,x4⟩;by_cases e:r=n
 · subst e;rw [if_pos (by simp)];exact ⟨h,x3,x1,yX _⟩
 · rw [if_neg (by simpa using e)];by_cases e1:r > 1
   · rw [if_pos e1];refine ⟨h.lt (by revert h1 x1 x2 e;k_in),h.lt (by revert h1 x1 x2 e;k_in),h.ne hI (by revert h1 x1 x2 e;k_in) (by revert h1 x1 x2 e;k_in) (by revert x1 e1;k_in),?_⟩;rw [show ltK key (p.getD 0 0) (p.getD (r - 1) 0)=true from l_t (x3 0 (r - 1) (by revert x1 e1;k_in) (by revert x1;k_in))];dsimp only;rw [if_pos rfl];exact ⟨h,x3,x1,by revert h1 x2 e;k_in⟩
   · rw [if_neg e1];obtain rfl:r=1:=by (revert x1 e1;k_in)
     refine KOk.bind (desc_ok hI h (n - 2) 2 (by k_in) (by revert h1 e;k_in) fun a b hab hb=>?_) ?_
     · obtain rfl:a=0:=by (revert hab hb;k_in)
       obtain rfl:b=1:=by (revert hb hab;k_in)
       exact x4 (by revert h1 e;k_in)
     · rintro ⟨p',m,q⟩ ⟨y1,y2,y3,y4,y5⟩;dsimp only at y1 y2 y3 y4 y5 ⊢;subst y1 y2;rw [if_neg (by k_in)];have hinv:=rev_inv h 0 m;refine KOk.bind (asc_ok hI hinv (n - m) m (by revert y3;k_in) (by revert h1 e y4;k_in) (rev_sp (by rw [h.1];(revert h1 e y4;k_in)) y5)) ?_;rintro r ⟨z1,z2,z3,-⟩;exact ⟨hinv,z3,by revert y3 z1;k_in,by revert h1 e y4 z2;k_in⟩
theorem place_ok (hI:Inj n key) {p:Array Nat}(h:Inv n p) {k:Nat}(hk:k<n) (hs:SP key p k):∀ (f l r:Nat),r - l≤f→l≤r→r≤k→(∀ a,a<l→Kp2 key p a<Kp2 key p k)→(∀ b,r≤b→b<k→Kp2 key p k<Kp2 key p b)→
 KOk n key (fun l'=>l'≤k∧(∀ a,a<l'→Kp2 key p a<Kp2 key p k)∧∀ b,l'≤b→b<k→Kp2 key p k<Kp2 key p b) (kas_place p k f l r)
 |0,l,r,h1,h2,h3,h4,h5=>by
  obtain rfl:l=r:=by (revert h1 h2;k_in)
  exact ⟨h3,h4,h5⟩
 |f+1,l,r,h1,h2,h3,h4,h5=>by
  unfold kas_place;by_cases e:l≥r
  · rw [if_pos e];obtain rfl:l=r:=by (revert h2 e;k_in)
    exact ⟨h3,h4,h5⟩
  · rw [if_neg e];have md:2*((l+r) / 2)≤l+r∧l+r≤2*((l+r) / 2)+1:=by lia
    refine ⟨h.lt hk,h.lt (by revert md e h2 h3 hk;k_in),h.ne hI hk (by revert md e h2 h3 hk;k_in) (by revert md e h2 h3 hk;k_in),?_⟩;by_cases hc:key (p.getD k 0)<key (p.getD ((l+r) / 2) 0)
    · rw [show ltK key (p.getD k 0) (p.getD ((l+r) / 2) 0)=true from l_t hc];dsimp only;rw [if_pos rfl];refine place_ok hI h hk hs f l ((l+r) / 2) (by revert md e h1 h2 h3;k_in) (by revert md e h1 h2 h3;k_in) (by revert md e h1 h2 h3;k_in) h4 fun b hb hbk=>?_;by_cases eb:b=(l+r) / 2
      · rw [eb];exact hc
      · exact Int.lt_trans hc (hs _ _ (by revert hb eb;k_in) hbk)
    · rw [show ltK key (p.getD k 0) (p.getD ((l+r) / 2) 0)=false from l_f hc];dsimp only;rw [if_neg (by decide)];have hne:=h.ne hI (a:=k) (b:=(l+r) / 2) hk (by revert md e h2 h3 hk;k_in) (by revert md e h2 h3 hk;k_in)
      have hlt:Kp2 key p ((l+r) / 2)<Kp2 key p k:=by
       have:¬ Kp2 key p k<Kp2 key p ((l+r) / 2):=hc
       (revert hne this;k_in)
      refine place_ok hI h hk hs f ((l+r) / 2+1) r (by revert md e h1 h2 h3;k_in) (by revert md e h1 h2 h3;k_in) h3 (fun a ha=>?_) h5;by_cases ea:a=(l+r) / 2
      · rw [ea];exact hlt
      · exact Int.lt_trans (hs a _ (by revert ha ea;k_in) (by revert md e h2 h3;k_in)) hlt
theorem bin_ok (hI:Inj n key):∀ (f:Nat) (p:Array Nat) (k:Nat),Inv n p→k+f≤n→SP key p k→KOk n key (fun p'=>Inv n p'∧SP key p' (k+f)) (kas_bin f p k)
 |0,p,k,h,h1,hs=>⟨h,hs⟩
 |f+1,p,k,h,h1,hs=>by
  dsimp only [kas_bin];refine KOk.bind (place_ok hI h (by revert h1;k_in) hs k 0 k (by k_in) (Nat.zero_le _) (yX _) (fun a ha=>absurd ha (Nat.not_lt_zero _)) fun b h1 h2=>by revert h1 h2;k_in) ?_;rintro l ⟨x1,x2,x3⟩;have hsz:k<p.size:=by rw [h.1];(revert h1;k_in)
  have hinv:Inv n (bubble p k (k - l)):=⟨by rw [bubble_size];exact h.1,(bubble_perm p k (k - l)).toList.trans h.2⟩
  have e:∀ c,Kp2 key (bubble p k (k - l)) c=if c=l then Kp2 key p k else if l<c∧c≤k then Kp2 key p (c - 1) else Kp2 key p c:=fun c=>by
   rw [Kp2_at,getElem?_bubble hsz _ (by k_in),show k - (k - l)=l by revert x1;k_in];split
   · rw [Kp2_at]
   · split
     · rw [Kp2_at]
     · rw [Kp2_at]
  have:=bin_ok hI f (bubble p k (k - l)) (k+1) hinv (by revert h1;k_in) fun a b hab hb=>by
   rw [e a,e b];by_cases ca:a=l
   · rw [if_pos ca,if_neg (by revert ca hab;k_in),if_pos (by revert ca hab hb;k_in)];exact x3 _ (by revert ca hab;k_in) (by revert ca hab hb;k_in)
   · rw [if_neg ca];by_cases cl:l<a
     · rw [if_pos (by revert cl hab hb;k_in),if_neg (by revert cl hab;k_in),if_pos (by revert cl hab hb;k_in)];exact hs _ _ (by revert cl hab;k_in) (by revert cl hab hb;k_in)
     · rw [if_neg (fun x=>cl x.1)];by_cases cb:b=l
       · rw [if_pos cb];exact x2 a (by revert cb hab;k_in)
       · rw [if_neg cb];by_cases cd:l<b
         · rw [if_pos (by revert cd hb;k_in)];exact hs _ _ (by revert ca cl cd;k_in) (by revert cd hb;k_in)
         · rw [if_neg (fun x=>cd x.1)];exact hs _ _ hab (by revert cb cd x1;k_in)
  rw [show k+1+f=k+(f+1) by k_in] at this;exact this
theorem sort_ok (hI:Inj n key) (h1:1≤n):KOk n key (fun p=>Inv n p∧SP key p n) (kas_sort n):=by
 have h:Inv n (List.toArray (xY n)):=⟨by simp,by simp⟩;refine KOk.bind (count_ok hI h h1) ?_;rintro ⟨m,p⟩ ⟨x1,x2,x3,x4⟩;dsimp only at x1 x2 x3 x4 ⊢;rw [show max m 1=m by lia];by_cases e:m<n
 · rw [if_pos e];refine KOk.mono (fun p' hp=>?_) (bin_ok hI (n - m) p m x1 (by revert e;k_in) x2);rw [show m+(n - m)=n by revert e;k_in] at hp;exact hp
 · rw [if_neg e];obtain rfl:m=n:=by (revert x4 e;k_in)
   exact ⟨x1,x2⟩
end
end
abbrev Quad:=Int×Int×Int×Int
def flq (xs ys:List El2) (odd:Int) (q:Quad):Tri:=flm xs ys odd q.1 q.2.1 q.2.2.1 q.2.2.2
def Vq (xs ys:List El2) (q:Quad):Prop:=(0≤q.1∧q.1≤q.2.1∧q.2.1≤xs.length)∧(0≤q.2.2.1∧q.2.2.1≤q.2.2.2∧q.2.2.2≤ys.length)
theorem back_inB {xs ys odd want alo ahi blo bhi}:∀ (n:Nat) (s:Tri),InB alo ahi blo bhi s→InB alo ahi blo bhi (exBack xs ys odd want alo blo n s)
 |0,s,h=>h
 |n+1,s,h=>by
  dsimp only [exBack];split
  · rename_i hb;unfold bkC at hb;simp only [yT,decide_eq_true_eq] at hb;obtain ⟨⟨⟨h1,h2⟩,-⟩,-⟩:=hb;obtain ⟨i1,i2,i3,i4,i5⟩:=h;exact back_inB n _ ⟨by dsimp only;(revert h1 i1;k_in),by dsimp only;(revert i2;k_in),by dsimp only;(revert h2 i3;k_in),by dsimp only;(revert i4;k_in),by dsimp only;(revert i5;k_in)⟩
  · exact h
theorem fwd_inB {xs ys odd want alo ahi blo bhi}:∀ (n:Nat) (s:Tri),InB alo ahi blo bhi s→InB alo ahi blo bhi (exFwd xs ys odd want ahi bhi n s)
 |0,s,h=>h
 |n+1,s,h=>by
  dsimp only [exFwd];split
  · rename_i hb;unfold fwC at hb;simp only [yT,decide_eq_true_eq] at hb;obtain ⟨⟨⟨h1,h2⟩,-⟩,-⟩:=hb;obtain ⟨i1,i2,i3,i4,i5⟩:=h;exact fwd_inB n _ ⟨by dsimp only;lia,by dsimp only;(revert h1 i2;k_in),by dsimp only;lia,by dsimp only;(revert h2 i4;k_in),by dsimp only;(revert i5;k_in)⟩
  · exact h
theorem flm_inB {xs ys odd alo ahi blo bhi} (h1:alo≤ahi) (h2:blo≤bhi):InB alo ahi blo bhi (flm xs ys odd alo ahi blo bhi):=
 fwd_inB _ _ (back_inB _ _ (fwd_inB _ _ (back_inB _ _ (fiBest_inB h1 h2))))
theorem flq_inB {xs ys odd q} (h:Vq xs ys q):InB q.1 q.2.1 q.2.2.1 q.2.2.2 (flq xs ys odd q):=flm_inB h.1.2.1 h.2.2.1
noncomputable def qR (s:Tri) (q:Quad):Quad:=(s.1+s.2.2,q.2.1,s.2.1+s.2.2,q.2.2.2)
noncomputable def qL (s:Tri) (q:Quad):Quad:=(q.1,s.1,q.2.2.1,s.2.1)
abbrev cR (s:Tri) (q:Quad):Prop:=s.1+s.2.2<q.2.1∧s.2.1+s.2.2<q.2.2.2
abbrev cL (s:Tri) (q:Quad):Prop:=q.1<s.1∧q.2.2.1<s.2.1
noncomputable def RBf (xs ys:List El2) (odd:Int):Nat→Quad→List Tri
 |0,_=>[]
 |n+1,q=>if (flq xs ys odd q).2.2=0 then [] else flq xs ys odd q::
  ((if cR (flq xs ys odd q) q then RBf xs ys odd n (qR (flq xs ys odd q) q) else [])++(if cL (flq xs ys odd q) q then RBf xs ys odd n (qL (flq xs ys odd q) q) else []))
theorem RBf_s {xs ys odd} (n:Nat) (q:Quad):RBf xs ys odd (n+1) q=if (flq xs ys odd q).2.2=0 then [] else flq xs ys odd q::
 ((if cR (flq xs ys odd q) q then RBf xs ys odd n (qR (flq xs ys odd q) q) else [])++(if cL (flq xs ys odd q) q then RBf xs ys odd n (qL (flq xs ys odd q) q) else [])):=rfl
theorem vR {xs ys odd q} (h:Vq xs ys q) (c:cR (flq xs ys odd q) q):Vq xs ys (qR (flq xs ys odd q) q):=by
 obtain ⟨i1,i2,i3,i4,i5⟩:=flq_inB (odd:=odd) h;unfold cR at c;unfold Vq qR at*;dsimp only
 (revert h c i1 i3 i5;k_in)
theorem vL {xs ys odd q} (h:Vq xs ys q) (c:cL (flq xs ys odd q) q):Vq xs ys (qL (flq xs ys odd q) q):=by
 obtain ⟨i1,i2,i3,i4,i5⟩:=flq_inB (odd:=odd) h;unfold cL at c;unfold Vq qL at*;dsimp only
 (revert h c i2 i4 i5;k_in)
theorem RBf_same {xs ys odd}:∀ (n m:Nat) (q:Quad),Vq xs ys q→(q.2.1 - q.1).toNat<n→(q.2.1 - q.1).toNat<m→RBf xs ys odd n q=RBf xs ys odd m q
 |0,m,q,_,h,_=>absurd h (Nat.not_lt_zero _)
 |n+1,0,q,_,_,h=>absurd h (Nat.not_lt_zero _)
 |n+1,m+1,q,hv,h1,h2=>by
  have ib:=flq_inB (odd:=odd) hv;rw [RBf_s,RBf_s];by_cases h0:(flq xs ys odd q).2.2=0
  · rw [if_pos h0,if_pos h0]
  · rw [if_neg h0,if_neg h0];obtain ⟨i1,i2,i3,i4,i5⟩:=ib;congr 2
    · by_cases c:cR (flq xs ys odd q) q
      · rw [if_pos c,if_pos c];exact RBf_same n m _ (vR hv c) (by unfold qR;dsimp only;(revert h1 h0 i1 i2 i5 c;k_in)) (by unfold qR;dsimp only;(revert h2 h0 i1 i2 i5 c;k_in))
      · rw [if_neg c,if_neg c]
    · by_cases c:cL (flq xs ys odd q) q
      · rw [if_pos c,if_pos c];have c':=c;unfold cL at c';exact RBf_same n m _ (vL hv c) (by unfold qL;dsimp only;(revert h1 h0 i1 i2 i5 c;k_in)) (by unfold qL;dsimp only;(revert h2 h0 i1 i2 i5 c;k_in))
      · rw [if_neg c,if_neg c]
def RB (xs ys:List El2) (odd:Int) (q:Quad):List Tri:=RBf xs ys odd ((q.2.1 - q.1).toNat+1) q
theorem RB_zero {xs ys odd q} (h0:(flq xs ys odd q).2.2=0):RB xs ys odd q=[]:=by unfold RB;rw [RBf_s,if_pos h0]
theorem RB_more {xs ys odd q} (hv:Vq xs ys q) (h0:(flq xs ys odd q).2.2≠0):RB xs ys odd q=flq xs ys odd q::
 ((if cR (flq xs ys odd q) q then RB xs ys odd (qR (flq xs ys odd q) q) else [])++(if cL (flq xs ys odd q) q then RB xs ys odd (qL (flq xs ys odd q) q) else [])):=by
 have ib:=flq_inB (odd:=odd) hv;obtain ⟨i1,i2,i3,i4,i5⟩:=ib;unfold RB;rw [RBf_s,if_neg h0];congr 2
 · by_cases c:cR (flq xs ys odd q) q
   · rw [if_pos c,if_pos c];exact RBf_same _ _ _ (vR hv c) (by unfold qR;dsimp only;(revert h0 i1 i2 i5 c;k_in)) (by unfold qR;dsimp only;lia)
   · rw [if_neg c,if_neg c]
 · by_cases c:cL (flq xs ys odd q) q
   · rw [if_pos c,if_pos c];have c':=c;unfold cL at c';exact RBf_same _ _ _ (vL hv c) (by unfold qL;dsimp only;(revert h0 i1 i2 i5 c;k_in)) (by unfold qL;dsimp only;lia)
   · rw [if_neg c,if_neg c]
def RBF (lo hi:Int) (l:List Tri):Prop:=l.length≤(hi - lo).toNat∧(l.map (·.1)).Nodup∧∀ s∈l,lo≤s.1∧s.1<hi
theorem RBF.nil {lo hi:Int}:RBF lo hi []:=⟨Nat.zero_le _,List.nodup_nil,fun s hs=>absurd hs List.not_mem_nil⟩
theorem RBF.join {lo hi:Int}{s:Tri}{l r:List Tri}(hr:RBF (s.1+s.2.2) hi r) (hl:RBF lo s.1 l) (h1:lo≤s.1) (h2:0<s.2.2) (h3:s.1+s.2.2≤hi):RBF lo hi (s::(r++l)):=by
 obtain ⟨a,b,c⟩:=s;dsimp only at hr hl h1 h2 h3;obtain ⟨a1,a2,a3⟩:=hr;obtain ⟨b1,b2,b3⟩:=hl;refine ⟨by clear a2 a3 b2 b3;rw [yU,zD];(revert h1 h2 h3 a1 b1;k_in),?_,?_⟩
 · rw [zM,zJ,zK,yQ];clear a1 b1 h1 h3;refine ⟨fun hm=>?_,a2,b2,fun x ha y hb e=>?_⟩
   · rcases zE.mp hm with hm|hm
     · obtain ⟨s,hs,e⟩:=zN.mp hm;have q:=(a3 s hs).1;rw [e] at q;clear a2 a3 b2 b3 hs hm e
       (revert h2 q;k_in)
     · obtain ⟨s,hs,e⟩:=zN.mp hm;have q:=(b3 s hs).2;rw [e] at q;exact absurd q (Int.lt_irrefl _)
   · obtain ⟨s,hs,e1⟩:=zN.mp ha;obtain ⟨r,hr,e2⟩:=zN.mp hb;have q1:=(a3 s hs).1;have q2:=(b3 r hr).2;rw [e1] at q1;rw [e2] at q2;clear a2 a3 b2 b3 ha hb e1 e2 hs hr
     (revert h2 e q1 q2;k_in)
 · clear a1 a2 b1 b2;intro s hs;rcases zL.mp hs with e|hs
   · rw [e];clear a3 b3 hs e;exact ⟨h1,by dsimp only;(revert h2 h3;k_in)⟩
   · rcases zE.mp hs with hs|hs
     · have q:=a3 s hs;clear a3 b3 hs;exact ⟨by revert h1 h2 q;k_in,q.2⟩
     · have q:=b3 s hs;clear a3 b3 hs;exact ⟨q.1,by revert h2 h3 q;k_in⟩
theorem RB_facts {xs ys odd}:∀ (n:Nat) (q:Quad),Vq xs ys q→(q.2.1 - q.1).toNat≤n→RBF q.1 q.2.1 (RB xs ys odd q):=by
 intro n
 induction n with
 |zero=>
  intro q hv hn;obtain ⟨i1,i2,i3,i4,i5⟩:=flq_inB (odd:=odd) hv;rw [RB_zero (by clear hv i3 i4;(revert hn i1 i2 i5;k_in))];exact .nil
 |succ n ih=>
  intro q hv hn;by_cases h0:(flq xs ys odd q).2.2=0
  · rw [RB_zero h0];exact .nil
  · obtain ⟨i1,i2,i3,i4,i5⟩:=flq_inB (odd:=odd) hv;rw [RB_more hv h0]
    have hR:RBF ((flq xs ys odd q).1+(flq xs ys odd q).2.2) q.2.1 (if cR (flq xs ys odd q) q then RB xs ys odd (qR (flq xs ys odd q) q) else []):=by
     by_cases c:cR (flq xs ys odd q) q
     · rw [if_pos c];exact ih _ (vR hv c) (by clear ih hv c i3 i4;unfold qR;dsimp only;(revert hn h0 i1 i2 i5;k_in))
     · rw [if_neg c];exact .nil
    have hL:RBF q.1 (flq xs ys odd q).1 (if cL (flq xs ys odd q) q then RB xs ys odd (qL (flq xs ys odd q) q) else []):=by
     by_cases c:cL (flq xs ys odd q) q
     · rw [if_pos c];exact ih _ (vL hv c) (by clear ih hv c i3 i4 hR;unfold qL;dsimp only;(revert hn h0 i1 i2 i5;k_in))
     · rw [if_neg c];exact .nil
    exact hR.join hL i1 (by clear ih hv hR hL;(revert h0 i5;k_in)) i2
noncomputable def qMeas (qs:List Quad):Nat:=(qs.map fun q=>2*(q.2.1 - q.1).toNat+1).sum
theorem qMeas_snoc (qs:List Quad) (q:Quad):qMeas (qs++[q])=qMeas qs+(2*(q.2.1 - q.1).toNat+1):=by unfold qMeas;simp
theorem qMeas_len (qs:List Quad):qs.length≤qMeas qs:=by
 induction qs with
 |nil=>exact Nat.zero_le _
 |cons q qs ih=>unfold qMeas at*;simp only [zM,List.sum_cons,yU];(revert ih;k_in)
theorem c_bdn {w:zT}{A:zU}{E:VP}{env:Env}{u d:zV}{id:String}{news:Led}{s:zX}{pos:Pos}{e:Expr}{rest:List Expr}{Q:VP}(hj:(u,bdo id d)∈news)
 (he:zR (e::rest) env=(false,eval e env)::zR rest env) (hplain:(backTo pos (zR rest env)).any (·.1)=false)
 (k:zZ (zW PW w) A (spliced (backTo pos (zR (e::rest) env))) (fun vs s₁=>s₁.heap.get? u=some (bdo id d)∧zZ (zW PW w) A (call (.ref u) vs) Q E s₁) E s):
 zZ (zW PW w) A (callWith pos (.ref u) [] (backTo pos (zR (e::rest) env)) []) Q E s:=c_bd he hplain k
local macro_rules | `(tactic| wtm_at $s) => mgx s "g" "id_with: c_bdn hjb u u ?"
theorem id_ln {M:Model}{A:zU}{E:VP}{s:zX}{env:Env}{x:Str}{Q:VP}(k:zZ M A (loadName env x) Q E s):zZ M A (loadName env x) Q E s:=k
local macro_rules | `(tactic| wtm_at $s) => mgx s "g" "id_ln: l_local W hv:l ? hk:k hx:k"
section
theorem bkC_iff {xs ys odd want alo blo} {s:Tri}:bkC xs ys odd want alo blo s=true↔alo<s.1∧blo<s.2.1∧decide (nAt ys (s.2.1 - 1)=odd)=want∧nAt xs (s.1 - 1)=nAt ys (s.2.1 - 1):=by
 unfold bkC;simp only [yT,decide_eq_true_eq,beq_iff_eq,and_assoc]
theorem fwC_iff {xs ys odd want ahi bhi} {s:Tri}:fwC xs ys odd want ahi bhi s=true↔s.1+s.2.2<ahi∧s.2.1+s.2.2<bhi∧decide (nAt ys (s.2.1+s.2.2)=odd)=want∧nAt xs (s.1+s.2.2)=nAt ys (s.2.1+s.2.2):=by
 unfold fwC;simp only [yT,decide_eq_true_eq,beq_iff_eq,and_assoc]
structure FB (one two jb:zV) (alo ahi blo bhi:Int) (ta tb tc td:Tok) (m:NM):Prop where
 mk::
 (x1:m (zQ "a")=some (.ref one))
 (x2:m (zQ "b")=some (.ref two))
 (x3:m (zQ "isbjunk")=some (.ref jb))
 (x4:m (zQ "alo")=some (.int alo ta))
 (x5:m (zQ "ahi")=some (.int ahi tb))
 (x6:m (zQ "blo")=some (.int blo tc))
 (x7:m (zQ "bhi")=some (.int bhi td))
inductive BT (s:Tri) (m:NM):Prop
 |mk (t1 t2 t3:Tok) (x1:m (zQ "besti")=some (.int s.1 t1)) (x2:m (zQ "bestj")=some (.int s.2.1 t2)) (x3:m (zQ "bestsize")=some (.int s.2.2 t3))
section
variable {w:zT}{K:Kd w}{x dx one two bd bj:zV}{od jo:Obj}{ep:Nat}{j bp:zV}{mb:zY}{odd:Int}{xs ys:List El2}{rows:List Rw}{g:Heap}
variable {A:zU}{L':zV}{h:Heap}{t:Nat}{σ:zX}{m:NM}{news:Led}{jb:zV}{alo ahi blo bhi:Int}{ta tb tc td:Tok}{s:Tri}{f:zV}{Q:FP}{E:VP}
theorem flm_w1 (KE:KdE K) (Z:Site w A L' g) (W:Wk g L' h m news) (ru:A.units+160<cLine) (M:Ms w K x dx one two bd bj od jo ep j bp mb odd xs ys rows g) (hjb:(jb,bdo "set.__contains__" bj)∈news)
 (f0:FB one two jb alo ahi blo bhi ta tb tc td m) (b0:BT s m) (inb:InB alo ahi blo bhi s) (r1:0≤alo∧ahi≤xs.length) (r2:0≤blo∧bhi≤ys.length) (hok:∀ p,alo≤p→p<ahi→K.ok (nAt xs p))
 (k:∀ h' t' m',Wk g L' h' m' news→FB one two jb alo ahi blo bhi ta tb tc td m'→BT (back xs ys odd false alo blo s) m'→InB alo ahi blo bhi (back xs ys odd false alo blo s)→
  zZ (zW PW w) A (execs ((dB (me PW 8 6)).drop 9) (envX n121 (dS (me PW 8 6)) L' f (.ref 210) [])) Q E (S σ h' t')):
 zZ (zW PW w) A (execs ((dB (me PW 8 6)).drop 8) (envX n121 (dS (me PW 8 6)) L' f (.ref 210) [])) Q E (S σ h t):=by
 have zx:=M.zx;have zy:=M.zy;with_unfolding_all refine x_cons ?_
 refine x_whl (fun c m' news'=>news'=news∧FB one two jb alo ahi blo bhi ta tb tc td m'∧∃ s':Tri,BT s' m'∧InB alo ahi blo bhi s'∧back xs ys odd false alo blo s'=back xs ys odd false alo blo s∧c=(s'.1 - alo).toNat)
  (fun m' news'=>news'=news∧FB one two jb alo ahi blo bhi ta tb tc td m'∧∃ s':Tri,BT s' m'∧InB alo ahi blo bhi s'∧s'=back xs ys odd false alo blo s) _ ⟨rfl,f0,s,b0,inb,rfl,rfl⟩ W ?_ ?_
 · clear W b0 inb f0;intro c m₁ news₁ h₁ t₁ E3 j6 W;refine hidw fun QQ RR hQ hR=>?_;obtain ⟨rfl,⟨f1,f2,f3,f4,f5,f6,f7⟩,⟨s1,s2,s3⟩,⟨t1,t2,t3,b1,b2,b3⟩,⟨i1,i2,i3,i4,i5⟩,hb,hc⟩:=j6;dsimp only at b1 b2 b3 i1 i2 i3 i4 i5 hc
   have stop:bkC xs ys odd false alo blo (s1,s2,s3)=false→∀ h₁ t₁,Wk g L' h₁ m₁ news₁→RR (S σ h₁ t₁):=fun q h₁ t₁ W=>by
    rw [back_stop q] at hb;exact hR _ (lv W ⟨rfl,⟨f1,f2,f3,f4,f5,f6,f7⟩,_,⟨t1,t2,t3,b1,b2,b3⟩,⟨i1,i2,i3,i4,i5⟩,hb⟩)
   obtain ⟨n2,h2⟩:=M.htwo;have hL:Ls g two (ys.map (·.1)):=⟨_,h2,rfl,_,rfl⟩;obtain ⟨n1,h1⟩:=M.hone;have hL1:Ls g one (xs.map (·.1)):=⟨_,h1,rfl,_,rfl⟩;kd_p
   · obtain ⟨y,hy,_,hyv,hyn⟩:=get_el (xs:=ys) (i:=s2 - 1) (by rename_i z0;revert r2 z0;k_in) (by revert r2 i4 i5;k_in);obtain ⟨z,hz,_,hzv,hzn⟩:=get_el (xs:=xs) (i:=s1 - 1) (by rename_i z2 _ _;revert r1 z2;k_in) (by revert r1 i2 i5;k_in);refine t_list (hL.kp W.kp) (by rename_i z2 _ _;revert r2 z2;k_in) (by revert r2 zy i4 i5;k_in) hyv ?_ (by wtm_at "u");kd_p;refine ⟨W.get hjb,?_⟩;refine M.junk W.kp (W.get hjb) hy (by lia) fun t'=>?_;kd_p
     · have hjk:=‹(!decide (y.2=odd))=true›;refine t_list (hL1.kp W.kp) (by rename_i z4 _ _ _ _;revert r1 z4;k_in) (by revert r1 zx i2 i5;k_in) hzv ?_ (by wtm_at "u");kd_p;refine t_list (hL.kp W.kp) (by rename_i z3 _ _ _;revert r2 z3;k_in) (by revert r2 zy i4 i5;k_in) hyv ?_ (by wtm_at "u");refine KE (K.keeps (M.ex z hz) W.kp) (K.keeps (M.ey y hy) W.kp) (by rw [← hzn];exact hok _ (by rename_i z4 _ _ _ _;revert i1 z4;k_in) (by revert i2 i5;k_in)) (M.ok y hy) (by lia) ?_;kd_p
       · have hzy:=‹z.2=y.2›;have hstep:bkC xs ys odd false alo blo (s1,s2,s3)=true:=bkC_iff.mpr ⟨by dsimp only;lia,by dsimp only;lia,by rw [hyn];simpa using hjk,by rw [hzn,hyn];exact hzy⟩;refine hQ _ _ (tw_next W ⟨_,?_,rfl,⟨by k_is,by k_is,by k_is,by k_is,by k_is,by k_is,by k_is⟩,(s1 - 1,s2 - 1,s3+1),⟨_,_,_,by k_is,by k_is,by k_is⟩,⟨by dsimp only;(rename_i z10 _ _ _ _ _ _ _ _ _ _;revert i1 z10;k_in),by dsimp only;(revert i2;k_in),by dsimp only;(rename_i z9 _ _ _ _ _ _ _ _ _;revert i3 z9;k_in),by dsimp only;(revert i4;k_in),by dsimp only;(revert i5;k_in)⟩,?_,rfl⟩)
         · dsimp only;(rename_i z10 _ _ _ _ _ _ _ _ _ _;revert hc i1 z10;k_in)
         · rw [← hb,back_step hstep]
       · have hzy:=‹¬ z.2=y.2›;refine stop (zG.mpr fun q=>?_) _ _ W;obtain ⟨q1,q2,q3,q4⟩:=bkC_iff.mp q;rw [hzn,hyn] at q4;exact hzy q4
     · have hjk:=‹(!decide (y.2=odd))=false›;refine stop (zG.mpr fun q=>?_) _ _ W;obtain ⟨q1,q2,q3,q4⟩:=bkC_iff.mp q;rw [hyn] at q3
       simp_all
   · refine stop (zG.mpr fun q=>?_) _ _ W;obtain ⟨q1,q2,q3,q4⟩:=bkC_iff.mp q;dsimp only at q1 q2
     (rename_i z0;revert i3 z0 q2;k_in)
   · refine stop (zG.mpr fun q=>?_) _ _ W;obtain ⟨q1,q2,q3,q4⟩:=bkC_iff.mp q;dsimp only at q1 q2
     (rename_i z0;revert i1 z0 q1;k_in)
 · clear W b0 inb f0;rintro h' t' m' news' ⟨rfl,f0,s',b0,inb,rfl⟩ W;with_reducible refine x_next ?_
   with_unfolding_all exact k _ _ _ W f0 b0 inb
theorem flm_w2 (KE:KdE K) (Z:Site w A L' g) (W:Wk g L' h m news) (ru:A.units+160<cLine) (M:Ms w K x dx one two bd bj od jo ep j bp mb odd xs ys rows g) (hjb:(jb,bdo "set.__contains__" bj)∈news)
 (f0:FB one two jb alo ahi blo bhi ta tb tc td m) (b0:BT s m) (inb:InB alo ahi blo bhi s) (r1:0≤alo∧ahi≤xs.length) (r2:0≤blo∧bhi≤ys.length) (hok:∀ p,alo≤p→p<ahi→K.ok (nAt xs p))
 (k:∀ h' t' m',Wk g L' h' m' news→FB one two jb alo ahi blo bhi ta tb tc td m'→BT (fwd xs ys odd false ahi bhi s) m'→InB alo ahi blo bhi (fwd xs ys odd false ahi bhi s)→
  zZ (zW PW w) A (execs ((dB (me PW 8 6)).drop 10) (envX n121 (dS (me PW 8 6)) L' f (.ref 210) [])) Q E (S σ h' t')):
 zZ (zW PW w) A (execs ((dB (me PW 8 6)).drop 9) (envX n121 (dS (me PW 8 6)) L' f (.ref 210) [])) Q E (S σ h t):=by
 have zx:=M.zx;have zy:=M.zy;with_unfolding_all refine x_cons ?_
 refine x_whl (fun c m' news'=>news'=news∧FB one two jb alo ahi blo bhi ta tb tc td m'∧∃ s':Tri,BT s' m'∧InB alo ahi blo bhi s'∧fwd xs ys odd false ahi bhi s'=fwd xs ys odd false ahi bhi s∧c=(ahi - (s'.1+s'.2.2)).toNat)
  (fun m' news'=>news'=news∧FB one two jb alo ahi blo bhi ta tb tc td m'∧∃ s':Tri,BT s' m'∧InB alo ahi blo bhi s'∧s'=fwd xs ys odd false ahi bhi s) _ ⟨rfl,f0,s,b0,inb,rfl,rfl⟩ W ?_ ?_
 · clear W b0 inb f0;intro c m₁ news₁ h₁ t₁ E3 j6 W;refine hidw fun QQ RR hQ hR=>?_;obtain ⟨rfl,⟨f1,f2,f3,f4,f5,f6,f7⟩,⟨s1,s2,s3⟩,⟨t1,t2,t3,b1,b2,b3⟩,⟨i1,i2,i3,i4,i5⟩,hb,hc⟩:=j6;dsimp only at b1 b2 b3 i1 i2 i3 i4 i5 hc
   have stop:fwC xs ys odd false ahi bhi (s1,s2,s3)=false→∀ h₁ t₁,Wk g L' h₁ m₁ news₁→RR (S σ h₁ t₁):=fun q h₁ t₁ W=>by
    rw [fwd_stop q] at hb;exact hR _ (lv W ⟨rfl,⟨f1,f2,f3,f4,f5,f6,f7⟩,_,⟨t1,t2,t3,b1,b2,b3⟩,⟨i1,i2,i3,i4,i5⟩,hb⟩)
   obtain ⟨n2,h2⟩:=M.htwo;have hL:Ls g two (ys.map (·.1)):=⟨_,h2,rfl,_,rfl⟩;obtain ⟨n1,h1⟩:=M.hone;have hL1:Ls g one (xs.map (·.1)):=⟨_,h1,rfl,_,rfl⟩;kd_p
   · obtain ⟨y,hy,_,hyv,hyn⟩:=get_el (xs:=ys) (i:=s2+s3) (by revert r2 i3 i5;k_in) (by rename_i z0;revert r2 z0;k_in);obtain ⟨z,hz,_,hzv,hzn⟩:=get_el (xs:=xs) (i:=s1+s3) (by revert r1 i1 i5;k_in) (by rename_i z2 _ _;revert r1 z2;k_in);refine t_list (hL.kp W.kp) (by revert r2 i3 i5;k_in) (by rename_i z2 _ _;revert r2 zy z2;k_in) hyv ?_ (by wtm_at "u");kd_p;refine ⟨W.get hjb,?_⟩;refine M.junk W.kp (W.get hjb) hy (by lia) fun t'=>?_;kd_p
     · have hjk:=‹(!decide (y.2=odd))=true›;refine t_list (hL1.kp W.kp) (by revert r1 i1 i5;k_in) (by rename_i z4 _ _ _ _;revert r1 zx z4;k_in) hzv ?_ (by wtm_at "u");kd_p;refine t_list (hL.kp W.kp) (by revert r2 i3 i5;k_in) (by rename_i z3 _ _ _;revert r2 zy z3;k_in) hyv ?_ (by wtm_at "u");refine KE (K.keeps (M.ex z hz) W.kp) (K.keeps (M.ey y hy) W.kp) (by rw [← hzn];exact hok _ (by revert i1 i5;k_in) (by lia)) (M.ok y hy) (by lia) ?_;kd_p
       · have hzy:=‹z.2=y.2›;have hstep:fwC xs ys odd false ahi bhi (s1,s2,s3)=true:=fwC_iff.mpr ⟨by dsimp only;lia,by dsimp only;lia,by rw [hyn];simpa using hjk,by rw [hzn,hyn];exact hzy⟩;refine hQ _ _ (tw_next W ⟨_,?_,rfl,⟨by k_is,by k_is,by k_is,by k_is,by k_is,by k_is,by k_is⟩,(s1,s2,s3+1),⟨_,_,_,by k_is,by k_is,by k_is⟩,⟨by dsimp only;lia,by dsimp only;(rename_i z6 _ _ _ _ _ _;revert i2 z6;k_in),by dsimp only;lia,by dsimp only;(rename_i z5 _ _ _ _ _;revert i4 z5;k_in),by dsimp only;(revert i5;k_in)⟩,?_,rfl⟩)
         · dsimp only;(rename_i z6 _ _ _ _ _ _;revert hc i2 z6;k_in)
         · rw [← hb,fwd_step hstep]
       · have hzy:=‹¬ z.2=y.2›;refine stop (zG.mpr fun q=>?_) _ _ W;obtain ⟨q1,q2,q3,q4⟩:=fwC_iff.mp q;rw [hzn,hyn] at q4;exact hzy q4
     · have hjk:=‹(!decide (y.2=odd))=false›;refine stop (zG.mpr fun q=>?_) _ _ W;obtain ⟨q1,q2,q3,q4⟩:=fwC_iff.mp q;rw [hyn] at q3
       simp_all
   · refine stop (zG.mpr fun q=>?_) _ _ W;obtain ⟨q1,q2,q3,q4⟩:=fwC_iff.mp q;dsimp only at q1 q2
     (rename_i z0;revert i4 z0 q2;k_in)
   · refine stop (zG.mpr fun q=>?_) _ _ W;obtain ⟨q1,q2,q3,q4⟩:=fwC_iff.mp q;dsimp only at q1 q2
     (rename_i z0;revert i2 z0 q1;k_in)
 · clear W b0 inb f0;rintro h' t' m' news' ⟨rfl,f0,s',b0,inb,rfl⟩ W;with_reducible refine x_next ?_
   with_unfolding_all exact k _ _ _ W f0 b0 inb
theorem flm_w3 (KE:KdE K) (Z:Site w A L' g) (W:Wk g L' h m news) (ru:A.units+160<cLine) (M:Ms w K x dx one two bd bj od jo ep j bp mb odd xs ys rows g) (hjb:(jb,bdo "set.__contains__" bj)∈news)
 (f0:FB one two jb alo ahi blo bhi ta tb tc td m) (b0:BT s m) (inb:InB alo ahi blo bhi s) (r1:0≤alo∧ahi≤xs.length) (r2:0≤blo∧bhi≤ys.length) (hok:∀ p,alo≤p→p<ahi→K.ok (nAt xs p))
 (k:∀ h' t' m',Wk g L' h' m' news→FB one two jb alo ahi blo bhi ta tb tc td m'→BT (back xs ys odd true alo blo s) m'→InB alo ahi blo bhi (back xs ys odd true alo blo s)→
  zZ (zW PW w) A (execs ((dB (me PW 8 6)).drop 11) (envX n121 (dS (me PW 8 6)) L' f (.ref 210) [])) Q E (S σ h' t')):
 zZ (zW PW w) A (execs ((dB (me PW 8 6)).drop 10) (envX n121 (dS (me PW 8 6)) L' f (.ref 210) [])) Q E (S σ h t):=by
 have zx:=M.zx;have zy:=M.zy;with_unfolding_all refine x_cons ?_
 refine x_whl (fun c m' news'=>news'=news∧FB one two jb alo ahi blo bhi ta tb tc td m'∧∃ s':Tri,BT s' m'∧InB alo ahi blo bhi s'∧back xs ys odd true alo blo s'=back xs ys odd true alo blo s∧c=(s'.1 - alo).toNat)
  (fun m' news'=>news'=news∧FB one two jb alo ahi blo bhi ta tb tc td m'∧∃ s':Tri,BT s' m'∧InB alo ahi blo bhi s'∧s'=back xs ys odd true alo blo s) _ ⟨rfl,f0,s,b0,inb,rfl,rfl⟩ W ?_ ?_
 · clear W b0 inb f0;intro c m₁ news₁ h₁ t₁ E3 j6 W;refine hidw fun QQ RR hQ hR=>?_;obtain ⟨rfl,⟨f1,f2,f3,f4,f5,f6,f7⟩,⟨s1,s2,s3⟩,⟨t1,t2,t3,b1,b2,b3⟩,⟨i1,i2,i3,i4,i5⟩,hb,hc⟩:=j6;dsimp only at b1 b2 b3 i1 i2 i3 i4 i5 hc
   have stop:bkC xs ys odd true alo blo (s1,s2,s3)=false→∀ h₁ t₁,Wk g L' h₁ m₁ news₁→RR (S σ h₁ t₁):=fun q h₁ t₁ W=>by
    rw [back_stop q] at hb;exact hR _ (lv W ⟨rfl,⟨f1,f2,f3,f4,f5,f6,f7⟩,_,⟨t1,t2,t3,b1,b2,b3⟩,⟨i1,i2,i3,i4,i5⟩,hb⟩)
   obtain ⟨n2,h2⟩:=M.htwo;have hL:Ls g two (ys.map (·.1)):=⟨_,h2,rfl,_,rfl⟩;obtain ⟨n1,h1⟩:=M.hone;have hL1:Ls g one (xs.map (·.1)):=⟨_,h1,rfl,_,rfl⟩;kd_p
   · obtain ⟨y,hy,_,hyv,hyn⟩:=get_el (xs:=ys) (i:=s2 - 1) (by rename_i z0;revert r2 z0;k_in) (by revert r2 i4 i5;k_in);obtain ⟨z,hz,_,hzv,hzn⟩:=get_el (xs:=xs) (i:=s1 - 1) (by rename_i z2 _ _;revert r1 z2;k_in) (by revert r1 i2 i5;k_in);refine t_list (hL.kp W.kp) (by rename_i z2 _ _;revert r2 z2;k_in) (by revert r2 zy i4 i5;k_in) hyv ?_ (by wtm_at "u");kd_p;refine ⟨W.get hjb,?_⟩;refine M.junk W.kp (W.get hjb) hy (by lia) fun t'=>?_;kd_p
     · have hjk:=‹y.2=odd›;refine t_list (hL1.kp W.kp) (by rename_i z4 _ _ _ _;revert r1 z4;k_in) (by revert r1 zx i2 i5;k_in) hzv ?_ (by wtm_at "u");kd_p;refine t_list (hL.kp W.kp) (by rename_i z3 _ _ _;revert r2 z3;k_in) (by revert r2 zy i4 i5;k_in) hyv ?_ (by wtm_at "u");refine KE (K.keeps (M.ex z hz) W.kp) (K.keeps (M.ey y hy) W.kp) (by rw [← hzn];exact hok _ (by rename_i z4 _ _ _ _;revert i1 z4;k_in) (by revert i2 i5;k_in)) (M.ok y hy) (by lia) ?_;kd_p
       · have hzy:=‹z.2=y.2›;have hstep:bkC xs ys odd true alo blo (s1,s2,s3)=true:=bkC_iff.mpr ⟨by dsimp only;lia,by dsimp only;lia,by rw [hyn];exact l_t hjk,by rw [hzn,hyn];exact hzy⟩;refine hQ _ _ (tw_next W ⟨_,?_,rfl,⟨by k_is,by k_is,by k_is,by k_is,by k_is,by k_is,by k_is⟩,(s1 - 1,s2 - 1,s3+1),⟨_,_,_,by k_is,by k_is,by k_is⟩,⟨by dsimp only;(rename_i z10 _ _ _ _ _ _ _ _ _ _;revert i1 z10;k_in),by dsimp only;(revert i2;k_in),by dsimp only;(rename_i z9 _ _ _ _ _ _ _ _ _;revert i3 z9;k_in),by dsimp only;(revert i4;k_in),by dsimp only;(revert i5;k_in)⟩,?_,rfl⟩)
         · dsimp only;(rename_i z10 _ _ _ _ _ _ _ _ _ _;revert hc i1 z10;k_in)
         · rw [← hb,back_step hstep]
       · have hzy:=‹¬ z.2=y.2›;refine stop (zG.mpr fun q=>?_) _ _ W;obtain ⟨q1,q2,q3,q4⟩:=bkC_iff.mp q;rw [hzn,hyn] at q4;exact hzy q4
     · have hjk:=‹¬ y.2=odd›;refine stop (zG.mpr fun q=>?_) _ _ W;obtain ⟨q1,q2,q3,q4⟩:=bkC_iff.mp q;rw [hyn] at q3
       simp_all
   · refine stop (zG.mpr fun q=>?_) _ _ W;obtain ⟨q1,q2,q3,q4⟩:=bkC_iff.mp q;dsimp only at q1 q2
     (rename_i z0;revert i3 z0 q2;k_in)
   · refine stop (zG.mpr fun q=>?_) _ _ W;obtain ⟨q1,q2,q3,q4⟩:=bkC_iff.mp q;dsimp only at q1 q2
     (rename_i z0;revert i1 z0 q1;k_in)
 · clear W b0 inb f0;rintro h' t' m' news' ⟨rfl,f0,s',b0,inb,rfl⟩ W;with_reducible refine x_next ?_
   with_unfolding_all exact k _ _ _ W f0 b0 inb
theorem flm_w4 (KE:KdE K) (Z:Site w A L' g) (W:Wk g L' h m news) (ru:A.units+160<cLine) (M:Ms w K x dx one two bd bj od jo ep j bp mb odd xs ys rows g) (hjb:(jb,bdo "set.__contains__" bj)∈news)
 (f0:FB one two jb alo ahi blo bhi ta tb tc td m) (b0:BT s m) (inb:InB alo ahi blo bhi s) (r1:0≤alo∧ahi≤xs.length) (r2:0≤blo∧bhi≤ys.length) (hok:∀ p,alo≤p→p<ahi→K.ok (nAt xs p))
 (k:∀ h' t' m',Wk g L' h' m' news→FB one two jb alo ahi blo bhi ta tb tc td m'→BT (fwd xs ys odd true ahi bhi s) m'→InB alo ahi blo bhi (fwd xs ys odd true ahi bhi s)→
  zZ (zW PW w) A (execs ((dB (me PW 8 6)).drop 12) (envX n121 (dS (me PW 8 6)) L' f (.ref 210) [])) Q E (S σ h' t')):
 zZ (zW PW w) A (execs ((dB (me PW 8 6)).drop 11) (envX n121 (dS (me PW 8 6)) L' f (.ref 210) [])) Q E (S σ h t):=by
 have zx:=M.zx;have zy:=M.zy;with_unfolding_all refine x_cons ?_
 refine x_whl (fun c m' news'=>news'=news∧FB one two jb alo ahi blo bhi ta tb tc td m'∧∃ s':Tri,BT s' m'∧InB alo ahi blo bhi s'∧fwd xs ys odd true ahi bhi s'=fwd xs ys odd true ahi bhi s∧c=(ahi - (s'.1+s'.2.2)).toNat)
  (fun m' news'=>news'=news∧FB one two jb alo ahi blo bhi ta tb tc td m'∧∃ s':Tri,BT s' m'∧InB alo ahi blo bhi s'∧s'=fwd xs ys odd true ahi bhi s) _ ⟨rfl,f0,s,b0,inb,rfl,rfl⟩ W ?_ ?_
 · clear W b0 inb f0;intro c m₁ news₁ h₁ t₁ E3 j6 W;refine hidw fun QQ RR hQ hR=>?_;obtain ⟨rfl,⟨f1,f2,f3,f4,f5,f6,f7⟩,⟨s1,s2,s3⟩,⟨t1,t2,t3,b1,b2,b3⟩,⟨i1,i2,i3,i4,i5⟩,hb,hc⟩:=j6;dsimp only at b1 b2 b3 i1 i2 i3 i4 i5 hc
   have stop:fwC xs ys odd true ahi bhi (s1,s2,s3)=false→∀ h₁ t₁,Wk g L' h₁ m₁ news₁→RR (S σ h₁ t₁):=fun q h₁ t₁ W=>by
    rw [fwd_stop q] at hb;exact hR _ (lv W ⟨rfl,⟨f1,f2,f3,f4,f5,f6,f7⟩,_,⟨t1,t2,t3,b1,b2,b3⟩,⟨i1,i2,i3,i4,i5⟩,hb⟩)
   obtain ⟨n2,h2⟩:=M.htwo;have hL:Ls g two (ys.map (·.1)):=⟨_,h2,rfl,_,rfl⟩;obtain ⟨n1,h1⟩:=M.hone;have hL1:Ls g one (xs.map (·.1)):=⟨_,h1,rfl,_,rfl⟩;kd_p
   · obtain ⟨y,hy,_,hyv,hyn⟩:=get_el (xs:=ys) (i:=s2+s3) (by revert r2 i3 i5;k_in) (by rename_i z0;revert r2 z0;k_in);obtain ⟨z,hz,_,hzv,hzn⟩:=get_el (xs:=xs) (i:=s1+s3) (by revert r1 i1 i5;k_in) (by rename_i z2 _ _;revert r1 z2;k_in);refine t_list (hL.kp W.kp) (by revert r2 i3 i5;k_in) (by rename_i z2 _ _;revert r2 zy z2;k_in) hyv ?_ (by wtm_at "u");kd_p;refine ⟨W.get hjb,?_⟩;refine M.junk W.kp (W.get hjb) hy (by lia) fun t'=>?_;kd_p
     · have hjk:=‹y.2=odd›;refine t_list (hL1.kp W.kp) (by revert r1 i1 i5;k_in) (by rename_i z4 _ _ _ _;revert r1 zx z4;k_in) hzv ?_ (by wtm_at "u");kd_p;refine t_list (hL.kp W.kp) (by revert r2 i3 i5;k_in) (by rename_i z3 _ _ _;revert r2 zy z3;k_in) hyv ?_ (by wtm_at "u");refine KE (K.keeps (M.ex z hz) W.kp) (K.keeps (M.ey y hy) W.kp) (by rw [← hzn];exact hok _ (by revert i1 i5;k_in) (by lia)) (M.ok y hy) (by lia) ?_;kd_p
       · have hzy:=‹z.2=y.2›;have hstep:fwC xs ys odd true ahi bhi (s1,s2,s3)=true:=fwC_iff.mpr ⟨by dsimp only;lia,by dsimp only;lia,by rw [hyn];exact l_t hjk,by rw [hzn,hyn];exact hzy⟩;refine hQ _ _ (tw_next W ⟨_,?_,rfl,⟨by k_is,by k_is,by k_is,by k_is,by k_is,by k_is,by k_is⟩,(s1,s2,s3+1),⟨_,_,_,by k_is,by k_is,by k_is⟩,⟨by dsimp only;lia,by dsimp only;(rename_i z6 _ _ _ _ _ _;revert i2 z6;k_in),by dsimp only;lia,by dsimp only;(rename_i z5 _ _ _ _ _;revert i4 z5;k_in),by dsimp only;(revert i5;k_in)⟩,?_,rfl⟩)
         · dsimp only;(rename_i z6 _ _ _ _ _ _;revert hc i2 z6;k_in)
         · rw [← hb,fwd_step hstep]
       · have hzy:=‹¬ z.2=y.2›;refine stop (zG.mpr fun q=>?_) _ _ W;obtain ⟨q1,q2,q3,q4⟩:=fwC_iff.mp q;rw [hzn,hyn] at q4;exact hzy q4
     · have hjk:=‹¬ y.2=odd›;refine stop (zG.mpr fun q=>?_) _ _ W;obtain ⟨q1,q2,q3,q4⟩:=fwC_iff.mp q;rw [hyn] at q3
       simp_all
   · refine stop (zG.mpr fun q=>?_) _ _ W;obtain ⟨q1,q2,q3,q4⟩:=fwC_iff.mp q;dsimp only at q1 q2
     (rename_i z0;revert i4 z0 q2;k_in)
   · refine stop (zG.mpr fun q=>?_) _ _ W;obtain ⟨q1,q2,q3,q4⟩:=fwC_iff.mp q;dsimp only at q1 q2
     (rename_i z0;revert i2 z0 q1;k_in)
 · clear W b0 inb f0;rintro h' t' m' news' ⟨rfl,f0,s',b0,inb,rfl⟩ W;with_reducible refine x_next ?_
   with_unfolding_all exact k _ _ _ W f0 b0 inb
end
end
section
theorem JS.shape {w:zT}{K:Kd w}{odd:Int}{rs:List Rw}{o:Obj}(x:JS w K odd rs o):∃ es ep tb,o={ cls:=.type "set",data:=.set es ep tb }:=by
 rcases x with ⟨rfl,_⟩|⟨r,hr,_,pl,rfl⟩
 · exact ⟨_,_,_,rfl⟩
 · exact ⟨_,_,_,rfl⟩
section
variable {w:zT}{A:zU}{E:VP}{σ:zX}{h₀ h:Heap}{t:Nat}{L:zV}{m:NM}{news:Led}{env:Env}{Q:FP}
theorem for_listR {target body} {l:zV}{vs:List zY}(J:Nat→(NM)→Led→Prop) (R:(NM)→Led→Prop) (W:Wk h₀ L h m news) (hh:A.handled=none) (hl:Ls h l vs)
 (hs:∀ i m' news' own' h',J i m' news'→Wk h₀ L h' m' (own'++news')→Ls h' l vs)
 (ht:∀ it v,letOwnedTupleGo target it v=pure ()) (j0:J 0 m news)
 (turn:∀ i v m₁ news₁ own₁ h₁ t₁ E',i<vs.length→vs[i]? =some v→J i m₁ news₁→Wk h₀ L h₁ m₁ (own₁++news₁)→
  zZ (zW PW w) A (assign target env v) (fun _ s₂=>zZ (zW PW w) A (execs body env) (Tn σ h₀ L own₁ (J (i+1)) (fun f s=>match f with| .next=>Lv σ h₀ L R s|f=>Q f s)) E' s₂) E' (S σ h₁ t₁))
 (dn:∀ m' news',J vs.length m' news'→R m' news') (done:∀ h' t' m' news',R m' news'→Wk h₀ L h' m' news'→Q .next (S σ h' t')):
 zZ (zW PW w) A (pyIter (.ref l)) (fun it s₂=>codeAny (zW PW w) A (.forLoop target it body [] env) (FR (zW PW w) A env Q E) s₂) E (S σ h t):=by
 refine for_list J W hh hl hs ht j0 (fun i v m₁ news₁ own₁ h₁ t₁ E' hi hv j W₁=>?_) fun h' t' m' news' j W'=>done _ _ _ _ (dn _ _ j) W'
 refine w_m (turn i v m₁ news₁ own₁ h₁ t₁ E' hi hv j W₁) (fun _ s₂ h₂=>w_m h₂ (fun f s₃ h₃=>?_) fun _ _ e=>e) fun _ _ e=>e
 cases f with
 |next=>exact h₃
 |cont=>exact h₃
 |ret v=>exact h₃
 |brk=>obtain ⟨h',t',m',news',rfl,W',r⟩:=h₃;exact done _ _ _ _ r W'
end
theorem IR.getD {rs ps} (h:IR rs ps) (j:Int) (tz:Tok):∃ u,(atX rs j).getD (.int 0 tz)= .int (getI ps j) u:=by
 rcases h.get j with ⟨e1,e2⟩|⟨u,e⟩
 · exact ⟨tz,by rw [e1,e2];rfl⟩
 · exact ⟨u,by rw [e];rfl⟩
theorem call_bgetI {w:zT}{A:zU}{E:VP}{σ:zX}{h:Heap}{t:Nat}{x d:zV}{rs:List Rw}{ps:List (Int×Int)}{ep:Nat}{c:Int}{key:zY}{tz:Tok}{Q:VP}(hb:h.get? x=some (bdo "dict.get" d)) (h1:d≠1) (hu:A.units+80<cLine) (ho:h.get? d=some (dob (intKd w) rs ep)) (hR:IR rs ps) (hn:(rs.map (·.1)).Nodup) (hkey:(intKd w).is h key c)
 (k:∀ u t',Q (.int (getI ps c) u) (S σ h t')):zZ (zW PW w) A (call (.ref x) [key,.int 0 tz]) Q E (S σ h t):=by
 refine call_bget (K:=intKd w) hb h1 hu ho (hR.keyed hn) hkey trivial fun t'=>?_;obtain ⟨u,hu⟩:=hR.getD c tz;rw [hu];exact k u t'
theorem m_dsetI {w:zT}{A:zU}{E:VP}{σ:zX}{h₀ h:Heap}{t:Nat}{L:zV}{m:NM}{news:Led}{d:zV}{rs:List Rw}{ps:List (Int×Int)}{ep:Nat}{c v:Int}{t1 t2:Tok}{Q:UP}(hu:A.units+80<cLine) (W:Wk h₀ L h m ((d,dob (intKd w) rs ep)::news)) (hR:IR rs ps) (hn:(rs.map (·.1)).Nodup) (hz:rs.length≤1000)
 (k:∀ h' t' ep' rs',IR rs' (putI c v ps)→(rs'.map (·.1)).Nodup→rs'.length≤rs.length+1→Wk h₀ L h' m ((d,dob (intKd w) rs' ep')::news)→Q () (S σ h' t')):zZ (zW PW w) A (setItem (.ref d) (.int c t1) (.int v t2)) Q E (S σ h t):=by
 refine m_dset (K:=intKd w) (c:=c) hu W (hR.keyed hn) ⟨_,rfl⟩ trivial hz fun h' t' ep' W'=>?_;obtain ⟨s1,s2,s3⟩:=hR.set (j:=c) (k:=v) (t:=t1) (u:=t2) hn;exact k _ _ _ _ s1 s2 s3 W'
inductive FO {w:zT}(K:Kd w) (xs ys:List El2) (odd:Int) (one two bd no jb bj:zV) (alo ahi blo bhi:Int) (ta tb tc td:Tok) (i:Nat) (m':NM) (news':Led):Prop
 |mk (jd:zV) (rs:List Rw) (ps:List (Int×Int)) (ep':Nat) (best:Tri) (jk:Led) (nn:Nat) (x1:news'=(jd,dob (intKd w) rs ep')::(no,lob [] nn)::(jb,bdo "set.__contains__" bj)::jk) (x2:jd≠1) (x3:IR rs ps) (x4:(rs.map (·.1)).Nodup) (x5:FB one two jb alo ahi blo bhi ta tb tc td m') (x6:m' (zQ "b2j")=some (.ref bd)) (x7:m' (zQ "nothing")=some (.ref no)) (x8:m' (zQ "j2len")=some (.ref jd)) (x9:BT best m') (x10:fiAll xs ys odd blo bhi ((ahi - alo).toNat - i) (alo+i) ps best=fiBest xs ys odd alo ahi blo bhi) (x11:∀ p,alo≤p→p<alo+i→K.ok (nAt xs p))
inductive FI (w:zT) (tl:Led) (nd jl jd one two bd no jb:zV) (alo ahi blo bhi ai:Int) (ta tb tc td tk:Tok) (ps:List (Int×Int)) (ns:List Int) (row:List (Int×Int)×Tri) (q:Nat) (m':NM) (news':Led):Prop
 |mk (rs2:List Rw) (ps2:List (Int×Int)) (ep2:Nat) (best:Tri) (x1:news'=(nd,dob (intKd w) rs2 ep2)::(jl,bdo "dict.get" jd)::tl) (x2:IR rs2 ps2) (x3:(rs2.map (·.1)).Nodup) (x4:rs2.length≤q) (x5:FB one two jb alo ahi blo bhi ta tb tc td m') (x6:m' (zQ "b2j")=some (.ref bd)) (x7:m' (zQ "nothing")=some (.ref no)) (x8:m' (zQ "i")=some (.int ai tk)) (x9:m' (zQ "j2lenget")=some (.ref jl)) (x10:m' (zQ "newj2len")=some (.ref nd)) (x11:BT best m') (x12:fiRow ps ai blo bhi (ns.drop q) (ps2,best)=row)
inductive FR2 (w:zT) (tl:Led) (nd jl jd one two bd no jb:zV) (alo ahi blo bhi:Int) (ta tb tc td:Tok) (row:List (Int×Int)×Tri) (m':NM) (news':Led):Prop
 |mk (rs2:List Rw) (ep2:Nat) (x1:news'=(nd,dob (intKd w) rs2 ep2)::(jl,bdo "dict.get" jd)::tl) (x2:IR rs2 row.1) (x3:(rs2.map (·.1)).Nodup) (x4:FB one two jb alo ahi blo bhi ta tb tc td m') (x5:m' (zQ "b2j")=some (.ref bd)) (x6:m' (zQ "nothing")=some (.ref no)) (x7:m' (zQ "newj2len")=some (.ref nd)) (x8:BT row.2 m')
theorem flm_body {w A L' g h t σ} {K:Kd w}{x dx one two bd bj:zV}{od jo:Obj}{ep:Nat}{j bp:zV}{mb:zY}{odd:Int}{xs ys:List El2}{rows:List Rw}{alo ahi blo bhi:Int}{ta tb tc td:Tok}{f:zV}{m} {Q:FP}{E:VP}
 (FA:Frm A (envX n121 (dS (me PW 8 6)) L' f (.ref 210) [])) (KF:KdF K) (KE:KdE K) (Z:Site w A L' g) (W:Wk g L' h m []) (room:A.depth+2<zS) (ru:A.units+160<cLine) (M:Ms w K x dx one two bd bj od jo ep j bp mb odd xs ys rows g)
 (r1:0≤alo∧alo≤ahi∧ahi≤xs.length) (r2:0≤blo∧blo≤bhi∧bhi≤ys.length)
 (e0:m (zQ "self")=some (.ref x)) (e1:m (zQ "alo")=some (.int alo ta)) (e2:m (zQ "ahi")=some (.int ahi tb)) (e3:m (zQ "blo")=some (.int blo tc)) (e4:m (zQ "bhi")=some (.int bhi td))
 (ke:∀ e d h' t',okd L' d→Fl A g [] e d h'→(∃ p,alo≤p∧p<ahi∧¬ K.ok (nAt xs p))→E (.ref e) (S σ h' t'))
 (k:∀ M' dd h' t' m' t1 t2 t3 jk,Wk g L' h' m' ((M',mob dd [.int (flm xs ys odd alo ahi blo bhi).1 t1,.int (flm xs ys odd alo ahi blo bhi).2.1 t2,.int (flm xs ys odd alo ahi blo bhi).2.2 t3])::jk)→(∀ p,alo≤p→p<ahi→K.ok (nAt xs p))→Q (.ret (.ref M')) (S σ h' t')):
 zZ (zW PW w) A (execs (dB (me PW 8 6)) (envX n121 (dS (me PW 8 6)) L' f (.ref 210) [])) Q E (S σ h t):=by
 have zx:=M.zx;have zy:=M.zy;have hx:=M.hx;have hd:=M.hd;have sd:=M.sd;obtain ⟨se,sep,stb,hjo⟩:=M.js.shape;have hbj:=M.hbj;obtain ⟨n2,h2⟩:=M.htwo;have hL:Ls g two (ys.map (·.1)):=⟨_,h2,rfl,_,rfl⟩;obtain ⟨n1,h1⟩:=M.hone;have hL1:Ls g one (xs.map (·.1)):=⟨_,h1,rfl,_,rfl⟩;with_unfolding_all refine x_cons ?_
 kd_p;k_call_by "gat" (.ref one);kd_p;k_call_by "gat" (.ref two);kd_p;k_call_by "gat" (.ref bd);kd_p;with_reducible refine r_attr2 ?_ (by wtm_at "u")
 k_call_by "gat" (.ref bj);refine g_bcon (d:=bj) W (by rw [← hjo];exact W.kp _ _ hbj) fun jb h' t' W'=>?_;wtm_at "w";kd_p;refine u_tup4 W Z.hh (W.tp (.head _)) (fun _ _ W'=>?_) (by k_ne) (by k_ne) (by k_ne) (by k_ne) (by k_ne);wtm_at "w";replace W:=W.drop (yC ..);kd_p;with_reducible refine is_int_none ?_
 kd_p;with_reducible refine is_int_none ?_
 kd_p;have q1:=W.ne1 Z;refine e_dict0 W fun jd h' W' _ ejd=>?_;rw [← ejd] at q1;wtm_at "w";kd_p;with_reducible rename zV=>no
 refine x_for ?_ (by intro _;rfl);kd_p;refine ri_2 W (by revert r1 zx;k_in) (by revert r1 zx;k_in) fun I h' t' W' _=>?_;wtm_at "w"
 refine for_loopX (own:=[(I,riob alo (ahi - alo).toNat)]) (news:=[(jd,dob (intKd w) [] 0),(no,lob [] 0),(jb,bdo "set.__contains__" bj)])
  (FO K xs ys odd one two bd no jb bj alo ahi blo bhi ta tb tc td)
  (StpT.of (stp_range Z.hh I alo (ahi - alo).toNat) (by intro _;rfl)) (fun _ _ _ _ _ _ _=>trivial)
  ⟨jd,[],[],0,(alo,blo,0),[],0,by rfl,q1,.nil,List.nodup_nil,⟨by k_is,by k_is,by k_is,by k_is,by k_is,by k_is,by k_is⟩,by k_is,by k_is,by k_is,⟨_,_,_,by k_is,by k_is,by k_is⟩,by simp [fiBest],by intro p q1 q2;lia⟩ (by simp) (W.perm (by wtm_at "p")) ?_ ?_
 · clear W;intro i v m₁ news₁ own₁ h₁ t₁ hi j8 j9 W;refine hid fun QQ hQ=>?_;obtain ⟨ho1,tk,rfl⟩:=j8;obtain ⟨jd,rs,ps,ep1,⟨c1,c2,c3⟩,jk,nn,rfl,jd1,hIR,hnd,⟨f1,f2,f3,f4,f5,f6,f7⟩,f8,f9,f10,⟨t1,t2,t3,b1,b2,b3⟩,hall,hok⟩:=j9;dsimp only at b1 b2 b3;obtain ⟨ai,qa⟩:∃ ai:Int,ai=alo+i:=⟨_,rfl⟩;rw [← qa] at hall hok ⊢;kd_p;with_reducible refine r_attr ?_
   k_go;refine g_bget (K:=intKd w) W (W.get (show (jd,dob (intKd w) rs ep1)∈_ by wtm_at "m")) fun jl h' t' W'=>?_;wtm_at "w";kd_p;have q1:=W.ne1 Z;refine e_dict0 W fun nd h' W' _ ejd=>?_;rw [← ejd] at q1;wtm_at "w";kd_p;refine x_for ?_ (by intro _;rfl);kd_p;refine g_dict PySem.F.slot_dict_get PySem.F.type_dict_get (W.kp _ _ M.hbd) ?_;kd_p;obtain ⟨z,hz,_,hzv,hzn⟩:=get_el (xs:=xs) (i:=ai) (by revert r1 qa;k_in) (by revert r1 hi qa;k_in);refine t_list (hL1.kp W.kp) (by revert r1 qa;k_in) (by revert r1 zx hi qa;k_in) hzv ?_ (by wtm_at "u");kd_p;by_cases hk:K.ok z.2
   · refine m_dget2 (K:=K) M.bd1 (by lia) (W.kp _ _ M.hbd) (M.keyed.kp W.kp) (K.keeps (M.ex z hz) W.kp) hk fun t'=>?_
     obtain ⟨l,vs,hv,hl,hi2⟩:∃ l vs,(atX (okX odd rows) z.2).getD (.ref no)= .ref l∧(∀ h' m' news',Wk g L' h' m' news'→(no,lob [] nn)∈news'→Ls h' l vs)∧IntsL vs (idxO odd z.2 ys):=by
      rcases M.look z.2 with ⟨u1,u2⟩|⟨l,vs,n,u1,u2,u3⟩
      · exact ⟨no,[],by rw [u1];rfl,fun _ _ _ W hm=>W.ls (n:=nn) hm,by rw [u2];exact IntsL.nil⟩
      · exact ⟨l,vs,by rw [u1];rfl,fun _ _ _ W _=>⟨_,W.kp _ _ u2,rfl,_,rfl⟩,u3⟩
     rw [hv];obtain ⟨row,hrow⟩:∃ row,fiRow ps ai blo bhi (idxO odd z.2 ys) ([],(c1,c2,c3))=row:=⟨_,rfl⟩;obtain ⟨ns,hns⟩:∃ ns,idxO odd z.2 ys=ns:=⟨_,rfl⟩
     have nsl:ns.length≤100:=by
      rw [← hns];unfold idxO;split
      · exact Nat.zero_le _
      · exact Nat.le_trans (idx_len _ _ _) zy
     rw [hns] at hi2 hrow
     refine for_listR (FI w (own₁++(jd,dob (intKd w) rs ep1)::(no,lob [] nn)::(jb,bdo "set.__contains__" bj)::jk) nd jl jd one two bd no jb alo ahi blo bhi ai ta tb tc td tk ps ns row)
      (FR2 w (own₁++(jd,dob (intKd w) rs ep1)::(no,lob [] nn)::(jb,bdo "set.__contains__" bj)::jk) nd jl jd one two bd no jb alo ahi blo bhi ta tb tc td row)
      W Z.hh (hl _ _ _ W (by wtm_at "m")) (fun _ _ _ _ _ hJ W'=>?_) (by intro _ _;rfl) ⟨[],[],0,(c1,c2,c3),by rfl,.nil,List.nodup_nil,Nat.zero_le _,⟨by k_is,by k_is,by k_is,by k_is,by k_is,by k_is,by k_is⟩,by k_is,by k_is,by k_is,by k_is,by k_is,⟨_,_,_,by k_is,by k_is,by k_is⟩,hrow⟩ ?_ ?_ ?_
     · obtain ⟨rs2,ps2,ep2,best,rfl,-⟩:=hJ;exact hl _ _ _ W' (by wtm_at "m")
     · clear W;intro q v m₁ news₁ own₂ h₁ t₁ E' hq hvq j10 W;refine hid fun QQ hQ=>?_;obtain ⟨rs2,ps2,ep2,⟨c1,c2,c3⟩,rfl,g1,g2,g3,⟨f1,f2,f3,f4,f5,f6,f7⟩,f8,f9,f10,f11,f12,⟨t1,t2,t3,b1,b2,b3⟩,g5⟩:=j10;dsimp only at b1 b2 b3;have hq':q<ns.length:=by rw [← hi2.1];exact hq
       obtain ⟨jv,hjv⟩:∃ jv,ns[q]? =some jv:=⟨ns[q],by simp [hq']⟩;obtain ⟨tj,htj⟩:=hi2.2 q jv hjv;rw [hvq] at htj;obtain rfl:=l_j htj
       have hdrop:ns.drop q=jv::ns.drop (q+1):=by
        rw [List.drop_eq_getElem_cons hq'];congr 1;rw [l_e hq'] at hjv;exact l_j hjv
       rw [hdrop] at g5;have hjb:(jl,bdo "dict.get" jd)∈own₂++((nd,dob (intKd w) rs2 ep2)::(jl,bdo "dict.get" jd)::(own₁++(jd,dob (intKd w) rs ep1)::(no,lob [] nn)::(jb,bdo "set.__contains__" bj)::jk)):=by wtm_at "m"
       kd_p
       · have hlt:=‹jv<blo›;refine hQ _ _ (tn_cont W ⟨rs2,ps2,ep2,(c1,c2,c3),by rfl,g1,g2,by revert g3;k_in,⟨by k_is,by k_is,by k_is,by k_is,by k_is,by k_is,by k_is⟩,by k_is,by k_is,by k_is,by k_is,by k_is,⟨_,_,_,by k_is,by k_is,by k_is⟩,?_⟩);rw [← g5];dsimp only [fiRow];rw [if_pos hlt]
       · have hlt:=‹¬ jv<blo›;have hge:=‹jv≥bhi›;dsimp only [fiRow] at g5;rw [if_neg hlt,if_pos hge] at g5;subst g5;exact hQ _ _ (tn_brk (lv (W.drop (List.sublist_append_right ..)) ⟨rs2,ep2,rfl,g1,g2,⟨by k_is,by k_is,by k_is,by k_is,by k_is,by k_is,by k_is⟩,by k_is,by k_is,by k_is,⟨_,_,_,by k_is,by k_is,by k_is⟩⟩))
       · have hlt:=‹¬ jv<blo›;have hge:=‹¬ jv≥bhi›;dsimp only [fiRow] at g5;rw [if_neg hlt,if_neg (show ¬ bhi≤jv from hge)] at g5;unfold fiStep at g5;dsimp only at g5;with_reducible refine x_asg2 ?_ (by wtm_at "u") (by wtm_at "u")
         kd_p;refine ⟨W.get hjb,?_⟩;obtain ⟨jm,hjm⟩:∃ jm,jm=jv - 1:=⟨_,rfl⟩;rw [← hjm] at g5 ⊢;refine call_bgetI (c:=jm) (W.get hjb) jd1 (by lia) (W.get (show (jd,dob (intKd w) rs ep1)∈_ by wtm_at "m")) hIR hnd ⟨_,by rw [hjm]⟩ fun u t'=>?_;obtain ⟨kv,hkv⟩:∃ kv,kv=getI ps jm:=⟨_,rfl⟩;rw [← hkv] at g5 ⊢;kd_p;with_reducible refine as_sub ?_
         kd_p;replace W:=W.perm (news':=(nd,dob (intKd w) rs2 ep2)::(own₂++((jl,bdo "dict.get" jd)::(own₁++(jd,dob (intKd w) rs ep1)::(no,lob [] nn)::(jb,bdo "set.__contains__" bj)::jk)))) (by wtm_at "p");refine m_dsetI (by lia) W g1 g2 (by revert nsl g3 hq';k_in) fun h' t' ep3 rs3 s1 s2 s3 W'=>?_;wtm_at "w";kd_p
         · have hgt:=‹kv+1 > c3›;rw [if_pos hgt] at g5;refine hQ _ _ (tn_next (news:=(nd,dob (intKd w) rs3 ep3)::(jl,bdo "dict.get" jd)::(own₁++(jd,dob (intKd w) rs ep1)::(no,lob [] nn)::(jb,bdo "set.__contains__" bj)::jk)) (W.perm (by wtm_at "p")) ⟨rs3,putI jv (kv+1) ps2,ep3,(ai - (kv+1)+1,jv - (kv+1)+1,kv+1),by rfl,s1,s2,by revert g3 s3;k_in,⟨by k_is,by k_is,by k_is,by k_is,by k_is,by k_is,by k_is⟩,by k_is,by k_is,by k_is,by k_is,by k_is,⟨_,_,_,by k_is,by k_is,by k_is⟩,g5⟩)
         · have hgt:=‹¬ kv+1 > c3›;rw [if_neg hgt] at g5;refine hQ _ _ (tn_next (news:=(nd,dob (intKd w) rs3 ep3)::(jl,bdo "dict.get" jd)::(own₁++(jd,dob (intKd w) rs ep1)::(no,lob [] nn)::(jb,bdo "set.__contains__" bj)::jk)) (W.perm (by wtm_at "p")) ⟨rs3,putI jv (kv+1) ps2,ep3,(c1,c2,c3),by rfl,s1,s2,by revert g3 s3;k_in,⟨by k_is,by k_is,by k_is,by k_is,by k_is,by k_is,by k_is⟩,by k_is,by k_is,by k_is,by k_is,by k_is,⟨_,_,_,by k_is,by k_is,by k_is⟩,g5⟩)
     · rintro m' news' ⟨rs2,ps2,ep2,best,rfl,g1,g2,-,g4,g5,g6,-,-,g9,g10,g11⟩;rw [hi2.1,List.drop_length] at g11;subst g11;exact ⟨rs2,ep2,rfl,g1,g2,g4,g5,g6,g9,g10⟩
     · clear W;rintro h' t' m' news' ⟨rs2,ep2,rfl,g1,g2,⟨f1,f2,f3,f4,f5,f6,f7⟩,f8,f9,f10,⟨t1,t2,t3,b1,b2,b3⟩⟩ W;kd_p;refine hQ _ _ (tn_next (news:=(nd,dob (intKd w) rs2 ep2)::(no,lob [] nn)::(jb,bdo "set.__contains__" bj)::((jl,bdo "dict.get" jd)::(jd,dob (intKd w) rs ep1)::jk)) (W.perm (by wtm_at "p")) ⟨nd,rs2,row.1,ep2,row.2,_,nn,by rfl,q1,g1,g2,⟨by k_is,by k_is,by k_is,by k_is,by k_is,by k_is,by k_is⟩,by k_is,by k_is,by k_is,⟨_,_,_,by k_is,by k_is,by k_is⟩,?_,?_⟩)
       · rw [← hall];obtain ⟨N,hN⟩:∃ N,(ahi - alo).toNat - i=N+1:=⟨(ahi - alo).toNat - i - 1,by revert hi;k_in⟩;rw [hN];dsimp only [fiAll];simp only [hzn,hns,hrow];rw [show (ahi - alo).toNat - (i+1)=N by revert hi hN;k_in,show alo+((i+1:Nat):Int)=ai+1 by revert qa;k_in]
       · intro p p1 p2;by_cases e:p=ai
         · rw [e,hzn];exact hk
         · exact hok p p1 (by revert qa p2 e;k_in)
   · refine m_dget_f (K:=K) Z.hh (by lia) (W.kp _ _ M.hbd) (KF (K.keeps (M.ex z hz) W.kp) hk) fun h' t' e xx=>?_;obtain ⟨y1,-⟩:=fl_new Z W xx;exact fl_loop' (L:=L') FA (by rfl) y1 trivial fun h'' y2 _=>ke _ _ _ _ (by rfl) (y2.sub (by intro q hq;cases hq)) ⟨ai,by revert qa;k_in,by revert hi qa;k_in,by rw [hzn];exact hk⟩
 · clear W;rintro h' t' m' news' ⟨jd,rs,ps,ep1,best,jk,nn,rfl,jd1,hIR,hnd,⟨f1,f2,f3,f4,f5,f6,f7⟩,f8,f9,f10,⟨t1,t2,t3,b1,b2,b3⟩,hall,hok⟩ W;have hok':∀ p,alo≤p→p<ahi→K.ok (nAt xs p):=fun p p1 p2=>hok p p1 (by revert r1 p1 p2;k_in)
   rw [show (ahi - alo).toNat - (ahi - alo).toNat=0 by k_in] at hall;dsimp only [fiAll] at hall;subst hall;have hjb:(jb,bdo "set.__contains__" bj)∈(jd,dob (intKd w) rs ep1)::(no,lob [] nn)::(jb,bdo "set.__contains__" bj)::jk:=by wtm_at "m"
   with_reducible refine x_next ?_
   with_unfolding_all refine flm_w1 (ta:=ta) (tb:=tb) (tc:=tc) (td:=td) (s:=fiBest xs ys odd alo ahi blo bhi) KE Z W ru M hjb ⟨f1,f2,f3,f4,f5,f6,f7⟩ ⟨t1,t2,t3,b1,b2,b3⟩ (fiBest_inB r1.2.1 r2.2.1) ⟨r1.1,r1.2.2⟩ ⟨r2.1,r2.2.2⟩ hok' fun h' t' m' W f0 b0 i0=>?_
   refine flm_w2 KE Z W ru M hjb f0 b0 i0 ⟨r1.1,r1.2.2⟩ ⟨r2.1,r2.2.2⟩ hok' fun h' t' m' W f0 b0 i0=>?_;refine flm_w3 KE Z W ru M hjb f0 b0 i0 ⟨r1.1,r1.2.2⟩ ⟨r2.1,r2.2.2⟩ hok' fun h' t' m' W f0 b0 i0=>?_;refine flm_w4 KE Z W ru M hjb f0 b0 i0 ⟨r1.1,r1.2.2⟩ ⟨r2.1,r2.2.2⟩ hok' fun h' t' m' W f0 b0 i0=>?_;obtain ⟨f1,f2,f3,f4,f5,f6,f7⟩:=f0;change BT (flm xs ys odd alo ahi blo bhi) m' at b0;obtain ⟨t1,t2,t3,b1,b2,b3⟩:=b0;with_unfolding_all refine x_cons ?_
   kd_p;refine c_match Z W room fun M' dd h' t' jk' W'=>?_;with_reducible refine x_ret ?_
   exact k _ _ _ _ _ _ _ _ _ W' hok'
theorem bind_flm {w:zT}{σ:zX}{h h₀:Heap}{t:Nat}{A:zU}{L:zV}{m:NM}{news:Led}{x:zV}{a b c d:zY}(Z:Site w A L h₀) (W:Wk h₀ L h m news):
 BindsTo (S σ h t) (fnOf n83 n121 (dA (me PW 8 6)) (dB (me PW 8 6)) (dS (me PW 8 6)) (.ref 204) .none (.str (docS (dB (me PW 8 6))) 510) (.str n4 214) none (.ref 210) .none) ⟨[.ref x,a,b,c,d],[]⟩
  [(zQ "self",.ref x),(zQ "alo",a),(zQ "ahi",b),(zQ "blo",c),(zQ "bhi",d)]:=
 kp_binds (X:=W.inK Z) fun _=>by k_ne
theorem flm_spec {w A L h₀ h t σ m news} {K:Kd w}{x dx one two bd bj:zV}{od jo:Obj}{ep:Nat}{j bp:zV}{mb:zY}{odd:Int}{xs ys:List El2}{rows:List Rw}{alo ahi blo bhi:Int}{ta tb tc td:Tok}{Q E:VP}
 (KF:KdF K) (KE:KdE K) (Z:Site w A L h₀) (W:Wk h₀ L h m news) (room:A.depth+3<zS) (ru:A.units+170<cLine) (M:Ms w K x dx one two bd bj od jo ep j bp mb odd xs ys rows (gnd h []))
 (r1:0≤alo∧alo≤ahi∧ahi≤xs.length) (r2:0≤blo∧blo≤bhi∧bhi≤ys.length)
 (ke:∀ e h' t',Fl A h₀ news e .fly h'→h'.Ns L m→(∃ p,alo≤p∧p<ahi∧¬ K.ok (nAt xs p))→E (.ref e) (S σ h' t'))
 (k:∀ M' dd h' t' t1 t2 t3 jk,Wk h₀ L h' m ((M',mob dd [.int (flm xs ys odd alo ahi blo bhi).1 t1,.int (flm xs ys odd alo ahi blo bhi).2.1 t2,.int (flm xs ys odd alo ahi blo bhi).2.2 t3])::(jk++news))→(∀ p,alo≤p→p<ahi→K.ok (nAt xs p))→Q (.ref M') (S σ h' t')):
 zZ (zW PW w) A (call (.ref 211) [.ref x,.int alo ta,.int ahi tb,.int blo tc,.int bhi td]) Q E (S σ h t):=
 fn_genE (mu:=[]) (rest:=news) (binds:=[(zQ "self",.ref x),(zQ "alo",.int alo ta),(zQ "ahi",.int ahi tb),(zQ "blo",.int blo tc),(zQ "bhi",.int bhi td)]) [] (∃ p,alo≤p∧p<ahi∧¬ K.ok (nAt xs p)) Z W (by lia) (by rfl) (by k_ne) (bind_flm Z W) (locs (by k_ne)) (by decide) (by k_ne) (by k_ne) (by k_ne)
  (fun e h' t' x y hb=>ke e h' t' x y hb) fun L' h₁ t₁ et FA _ Z' W'=>
  flm_body (K:=K) (alo:=alo) (ahi:=ahi) (blo:=blo) (bhi:=bhi) (ta:=ta) (tb:=tb) (tc:=tc) (td:=td) FA KF KE Z' W' (by show A.depth+1+2<_;lia) (by show A.units+3+160<_;lia) M r1 r2 (by k_ne) (by k_ne) (by k_ne) (by k_ne) (by k_ne)
   (fun e d h' t' hd x hb=>⟨e,d,h',t',rfl,rfl,hd,x,hb⟩) fun M' dd h' t' m' t1 t2 t3 jk W₂ hok=>⟨h',t',_,_,rfl,W₂,fun W₃=>k M' dd h' t' t1 t2 t3 jk W₃ hok⟩
end
section
section
variable {w:zT}{A:zU}{E:VP}{σ:zX}{h:Heap}{t:Nat}{M dd:zV}{vs:List zY}
theorem mb_type {Md:Model}(hM:h.get? M=some (mob dd vs)):Looks Md h (typeOf (.ref M)) (.ref 150):=(Looks.ld hM).andThen .now
theorem mb_sub {Md:Model}{P:Params}(X:(KF PW P).In h):Looks Md h (isSubtype (.ref 150) (.type "tuple")) true:=Looks.of_peek X (show peek (KF PW P) _ _=some true by k_ne)
theorem mb_inst {Md:Model}{P:Params}(X:(KF PW P).In h) (hM:h.get? M=some (mob dd vs)):Looks Md h (isInstance (.ref M) (.type "tuple")) true:=(mb_type hM).andThen (mb_sub X)
theorem mb_iter {P:Params}:findIn (KF PW P) (.ref 150) (zQ "__iter__")=some (some (.builtin "tuple.__iter__")):=by k_ne
theorem mb_lt {P:Params}:findIn (KF PW P) (.ref 150) (zQ "__lt__")=some (some (.builtin "tuple.__lt__")):=by k_ne
theorem mb_get {P:Params}:findIn (KF PW P) (.ref 150) (zQ "__getitem__")=some (some (.builtin "tuple.__getitem__")):=by k_ne
theorem mb_special {Md:Model}{P:Params}{name:Str}{r:Option zY}(X:(KF PW P).In h) (hM:h.get? M=some (mob dd vs)) (e:findIn (KF PW P) (.ref 150) name=some r):Looks Md h (specialOf (.ref M) name) r:=(mb_type hM).andThen (looks_findIn X e)
theorem mb_call {name:Str}{id nm:String}{b:Builtin}{rest:List zY}{Q:VP}(sl:Slot "tuple" name id) (hk:builtinKind id=some .slot) (hs:splitId id=some ("tuple",nm)) (X:(KF PW w.params).In h) (hM:h.get? M=some (mob dd vs)) (hb:entryFor table id=some b) (ha:argsOk id ⟨.ref M::rest,[]⟩)
 (hc:zZ (zW PW w) A.in1 (b ⟨.ref M::rest,[]⟩) (fun fin s'=>∃ v,fin= .done (.ret v)∧Q v s') E (S σ h t)):zZ (zW PW w) A (call (.builtin id) (.ref M::rest)) Q E (S σ h t):=
 wpAny_call (codeAny_call_builtin sl.plain hb (check_slot hk hs (mb_inst X hM) ha (w_m hc (fun fin s' h'=>by obtain ⟨v,rfl,q⟩:=h';exact q) fun _ _ x=>x)))
theorem k_iter:builtinKind "tuple.__iter__"=some .slot:=by k_ne
theorem s_iter:splitId "tuple.__iter__"=some ("tuple","__iter__"):=by first|decide+kernel|k_ne
theorem k_lt:builtinKind "tuple.__lt__"=some .slot:=by k_ne
theorem s_lt:splitId "tuple.__lt__"=some ("tuple","__lt__"):=by first|decide+kernel|k_ne
theorem k_get:builtinKind "tuple.__getitem__"=some .slot:=by k_ne
theorem s_get:splitId "tuple.__getitem__"=some ("tuple","__getitem__"):=by first|decide+kernel|k_ne
theorem mb_bound {name:Str}{id:String}{Q:Option (zY×List zY)→zX→Prop}(sl:Slot "tuple" name id) (X:(KF PW w.params).In h) (hM:h.get? M=some (mob dd vs)) (e:findIn (KF PW w.params) (.ref 150) name=some (some (.builtin id)))
 (k:Q (some (.builtin id,[.ref M])) (S σ h t)):zZ (zW PW w) A (bindSpecialIfBound? (.ref M) name) Q E (S σ h t):=by
 have L:∀ {Md:Model},Looks Md (S σ h t).heap (specialOf (.ref M) name) (some (.builtin id)):=mb_special X hM e;unfold bindSpecialIfBound?;refine w_b (L.here ?_);dsimp only;refine w_b (wpAny_askSetting (wpAny_ite ?_));rw [sl.bind];split
 · exact w_b (w_p (w_p k))
 · exact wpAny_tryCatch (w_b (w_p (w_p k)))
theorem mb_pyIter {Q:VP}(X:(KF PW w.params).In h) (hM:h.get? M=some (mob dd vs))
 (k:Q (.ref h.objs.size) (S σ (h.push { cls:=.type "tuple_iterator",data:=.fields #[.ref M,.int 0 0] }) t)):zZ (zW PW w) A (pyIter (.ref M)) Q E (S σ h t):=by
 have L:∀ {Md:Model},Looks Md (S σ h t).heap (specialOf (.ref M) "__iter__") (some (.builtin "tuple.__iter__")):=mb_special X hM mb_iter;unfold pyIter;refine w_b (L.here ?_);dsimp only;refine w_b ?_;unfold callSpecialIfBoundUnlessNone?;refine w_h (w_b (mb_bound PySem.F.slot_tuple_iter X hM mb_iter ?_));dsimp only;rw [if_neg (by decide)];refine w_b (mb_call PySem.F.slot_tuple_iter k_iter s_iter X hM PySem.F.entry_tuple_iter (PySem.F.args_tuple_iter_1 _) ?_);show zZ _ _ (do ret (← newFields "tuple_iterator" [.ref M,rawInt 0])) _ _ (S σ h t)
 refine w_b (yJ (w_p ⟨_,rfl,?_⟩));refine w_p ?_;dsimp only;refine w_b (wpAny_specialOf (T:="tuple_iterator") ⟨_,yO _ rfl,rfl⟩ PySem.F.slot_tuple_iterator_next.lookup ?_);exact w_p k
theorem mb_item {it:zV}{i:Nat}{x:zY}{Q:Option zY→zX→Prop}(hit:h.IsTupleIter it M i) (hM:h.get? M=some (mob dd vs)) (hx:vs.toArray[i]? =some x)
 (hQ:∀ h',h'.IsTupleIter it M (i+1)→Heap.SameBut it h h'→Q (some x) (S σ h' t)):zZ (zW PW w) A (pyNext (.ref it)) Q E (S σ h t):=by
 obtain ⟨o,ho,hc,hd⟩:=id hit;have hT:(S σ h t).TypeIs (.ref it) "tuple_iterator":=⟨o,ho,hc⟩;unfold pyNext
 refine w_b (wpAny_attempt (yH (name:=zQ "__next__") hT PySem.F.slot_tuple_iterator_next
  (w_c PySem.F.slot_tuple_iterator_next hT PySem.F.entry_tuple_iterator_next ?_ (PySem.F.args_tuple_iterator_next_1 _))))
 show zZ _ _ (field (.ref it) 0 >>=_) _ _ (S σ h t)
 refine w_b (wpAny_field ho hd (x:=.ref M) rfl ?_);show zZ _ _ (if (Value.ref M==Value.none)=true then _ else _) _ _ (S σ h t)
 rw [if_neg (show ¬ ((Value.ref M==Value.none)=true) from zA)];show zZ _ _ (field (.ref it) 1 >>=_) _ _ (S σ h t)
 refine w_b (wpAny_field ho hd (x:=.int i 0) rfl ?_);show zZ _ _ (seqItems? (.ref M) >>=_) _ _ (S σ h t)
 refine w_b (wpAny_seqItems hM rfl ?_);simp only [yV,hx];refine w_b (wpAny_setField ho hd (by simp) (w_p ⟨x,rfl,w_p (hQ _ ?_ (l_u ..))⟩))
 exact ⟨_,yL _ ho (Obj.isFreed_of_fields (Obj.data_mapFields hd _)),(Obj.cls_mapFields ..).trans hc,by
  rw [Obj.data_mapFields hd];simp [rawInt]⟩
theorem mb_end {it:zV}{i:Nat}{Q:Option zY→zX→Prop}(hh:A.handled=none) (hit:h.IsTupleIter it M i) (hM:h.get? M=some (mob dd vs)) (hx:vs.toArray[i]? =none)
 (hQ:∀ h',Heap.ExtBut it h h'→Q none (S σ h' t)):zZ (zW PW w) A (pyNext (.ref it)) Q E (S σ h t):=by
 obtain ⟨o,ho,hc,hd⟩:=id hit;have hT:(S σ h t).TypeIs (.ref it) "tuple_iterator":=⟨o,ho,hc⟩;unfold pyNext
 refine w_b (wpAny_attempt (yH (name:=zQ "__next__") hT PySem.F.slot_tuple_iterator_next
  (w_c PySem.F.slot_tuple_iterator_next hT PySem.F.entry_tuple_iterator_next ?_ (PySem.F.args_tuple_iterator_next_1 _))))
 show zZ _ _ (field (.ref it) 0 >>=_) _ _ (S σ h t)
 refine w_b (wpAny_field ho hd (x:=.ref M) rfl ?_);show zZ _ _ (if (Value.ref M==Value.none)=true then _ else _) _ _ (S σ h t)
 rw [if_neg (show ¬ ((Value.ref M==Value.none)=true) from zA)];show zZ _ _ (field (.ref it) 1 >>=_) _ _ (S σ h t)
 refine w_b (wpAny_field ho hd (x:=.int i 0) rfl ?_);show zZ _ _ (seqItems? (.ref M) >>=_) _ _ (S σ h t)
 refine w_b (wpAny_seqItems hM rfl ?_);simp only [yV,hx];refine w_b (wpAny_rule (w_b (wpAny_setField ho hd (by simp) ?_)));show zZ _ _ (newExc (.type "StopIteration") [] >>=_) _ _ _
 refine w_b ?_;unfold newExc newTuple;refine w_b (yJ ?_ (by size_fits));refine w_b (m:=firstArgMember _ _) (yK (a:=Value.none) (by first|rfl|(simp only [firstArgMember];rfl)) ?_);refine yJ ?_ (by size_fits);unfold raiseNew;refine w_b (wpAny_handled ?_)
 first|rw [show A.in1.handled=none from hh]|rw [hh]
 refine w_b (w_p (wpAny_throw ?_));refine w_b (wpAny_isInstance (T:="StopIteration") (b:=true) ⟨_,yO _ rfl,rfl⟩ isSubtype_stop ?_);exact w_p (hQ _ (((l_u ..).extBut.push _).push _))
theorem mb_draw {it:zV}(hne:M≠it):∀ (n i:Nat) (h:Heap) (Q:List zY→zX→Prop),h.IsTupleIter it M i→h.get? M=some (mob dd vs)→i+n≤vs.length→
 (∀ h',h'.IsTupleIter it M (i+n)→Heap.SameBut it h h'→Q ((vs.drop i).take n) (S σ h' t))→zZ (zW PW w) A (draw (.ref it) n) Q E (S σ h t)
 |0,i,h,Q,hit,_,_,hQ=>by
  show zZ _ _ (pure []) Q E _
  exact w_p (by simpa using hQ h hit (Heap.SameBut.refl ..))
 |n+1,i,h,Q,hit,hM,hle,hQ=>by
  have hlt:i<vs.length:=by lia
  show zZ _ _ (pyNext (.ref it) >>=_) Q E _
  refine w_b (mb_item (x:=vs[i]) hit hM (by simp [hlt]) fun h₁ hit₁ hs₁=>?_);refine w_b (w_h (mb_draw hne n (i+1) h₁ _ hit₁ (hs₁.extBut _ _ hne hM) (by revert hle;k_in) fun h₂ hit₂ hs₂=>w_p ?_));have hd:vs.drop i=vs[i]::vs.drop (i+1):=List.drop_eq_getElem_cons hlt;have:=hQ h₂ (by rw [show i+(n+1)=i+1+n by k_in];exact hit₂) (hs₁.trans hs₂);rw [hd,List.take_succ_cons] at this;exact this
theorem mb_unpack {Q:List zY→zX→Prop}(hh:A.handled=none) (X:(KF PW w.params).In h) (hM:h.get? M=some (mob dd vs))
 (hQ:∀ h',Heap.ExtBut h.objs.size h h'→Q vs (S σ h' t)):zZ (zW PW w) A (unpackItems (.ref M) vs.length none) Q E (S σ h t):=by
 have hlt:M≠h.objs.size:=Nat.ne_of_lt (zB hM);have L:∀ {Md:Model},Looks Md (S σ h t).heap (specialOf (.ref M) "__iter__") (some (.builtin "tuple.__iter__")):=mb_special X hM mb_iter;unfold unpackItems;refine w_b ?_;unfold notIterableAtAll;refine w_b (L.here ?_);refine w_p ?_;simp only [yZ,if_false];refine w_b (w_h (mb_pyIter X hM ?_));have hM1:(h.push { cls:=.type "tuple_iterator",data:=.fields #[.ref M,.int 0 0] }).get? M=some (mob dd vs):=Heap.get?_push_of_some _ hM;refine w_b (w_h (mb_draw hlt vs.length 0 _ _ ⟨_,yO _ rfl,rfl,rfl⟩ hM1 (by k_in) fun h₁ hit₁ hs₁=>?_))
 have hall:List.take vs.length (List.drop 0 vs)=vs:=by
  rw [List.drop_zero];exact List.take_of_length_le (by simp)
 rw [hall];rw [if_neg (by simp)];refine w_b (w_h (mb_end hh hit₁ (hs₁.extBut _ _ hlt hM1) (by simp) fun h₂ he₂=>?_));simp only [Option.isSome_none,yZ,if_false];exact w_p (hQ h₂ fun b o hb e=>he₂ b o hb (hs₁.extBut b o hb (Heap.get?_push_of_some _ e)))
end
end
section
section
variable {w:zT}{A:zU}{E:VP}{σ:zX}{h:Heap}{t:Nat}{M dd:zV}{vs:List zY}
theorem mb_items {Q:Array zY→zX→Prop}{Md:Model}(hM:h.get? M=some (mob dd vs)) (k:Q vs.toArray (S σ h t)):zZ Md A (Builtin.Tuple.tupleItemsOf (.ref M)) Q E (S σ h t):=by
 unfold Builtin.Tuple.tupleItemsOf;exact w_b (wpAny_seqItems hM rfl (w_p k))
theorem mb_seqk {v:zY}{Q:VP}(X:(KF PW w.params).In h) (hM:h.get? M=some (mob dd vs)) (k:Q v (S σ h t)):zZ (zW PW w) A (sequenceKey (.ref M) v (zQ "__getitem__")) Q E (S σ h t):=by
 unfold sequenceKey;refine w_b ((mb_type hM).here ?_);dsimp only;refine w_b ?_;refine (Looks.of_peek X (show peek (KF PW w.params) _ _=some false by k_ne)).at ?_;exact w_p k
theorem mb_getItem {i:Int}{u:Tok}{j:Nat}{x:zY}{Q:VP}(X:(KF PW w.params).In h) (hM:h.get? M=some (mob dd vs)) (hlo:-1000≤i) (hhi:i<1000) (hj:seqIndex? i vs.length=some j) (hx:vs[j]? =some x) (k:Q x (S σ h t)):
 zZ (zW PW w) A (getItem (.ref M) (.int i u)) Q E (S σ h t):=by
 have L:∀ {Md:Model},Looks Md (S σ h t).heap (specialOf (.ref M) "__getitem__") (some (.builtin "tuple.__getitem__")):=mb_special X hM mb_get;unfold getItem
 try with_reducible refine w_h ?_
 refine w_b (mb_seqk X hM ?_);refine w_b ?_;unfold callSpecial?;refine w_b (L.here ?_);dsimp only;refine w_h ?_;rw [(PySem.F.slot_tuple_getitem).bind];refine w_b (w_p ?_);refine w_b (mb_call PySem.F.slot_tuple_getitem k_get s_get X hM PySem.F.entry_tuple_getitem (PySem.F.args_tuple_getitem_2 _ _) ?_);show zZ _ _ (Builtin.Tuple.tupleItemsOf (.ref M) >>=_) _ _ (S σ h t)
 refine w_b (mb_items hM ?_);refine w_b (wpAny_typeOf (typeIs_int _ i u) ?_);rw [if_neg (by decide)];refine w_b (wpAny_specialOf (T:="int") (typeIs_int _ i u) int_index ?_);rw [if_neg (by simp)];refine w_b (yK (a:=i) rfl ?_);rw [if_neg (by simp -iota only [Bool.or_eq_true,decide_eq_true_eq];lia)];have hj':seqIndex? i vs.toArray.size=some j:=by simpa using hj
 have hx':vs.toArray[j]? =some x:=by simpa using hx
 simp -iota only [hj',Option.bind_some,hx'];exact w_p ⟨_,rfl,w_p (w_p k)⟩
theorem mb_tail {value slice:Expr}{i:Int}{u:Tok}{j:Nat}{x:zY}{Q:VP}(X:(KF PW w.params).In h) (hM:h.get? M=some (mob dd vs)) (hlo:-1000≤i) (hhi:i<1000) (hj:seqIndex? i vs.length=some j) (hx:vs[j]? =some x) (k:Q x (S σ h t))
 (hs:subscripted slice false (.ref M) (.int i u)=operate [.ref M,.int i u] (getItem (.ref M) (.int i u))):zZ (zW PW w) A (subscriptTail value slice (.ref M) (.int i u)) Q E (S σ h t):=by
 have L:∀ {Md:Model},Looks Md (S σ h t).heap (specialOf (.ref M) "__getitem__") (some (.builtin "tuple.__getitem__")):=mb_special X hM mb_get;unfold subscriptTail getitemInPython;refine w_b (w_b (L.here ?_))
 have fin:zZ (zW PW w) A (subscripted slice false (.ref M) (.int i u)) (fun r s₃=>zZ (zW PW w) A (letTemporaryGo value (.ref M) r >>=fun _=>pure r) Q E s₃) E (S σ h t):=by
  rw [hs];exact wpAny_operating (w_m (mb_getItem X hM hlo hhi hj hx k) (fun r s₃ h₃=>w_b (wpAny_letTemporaryGo (w_p h₃))) fun _ _ x=>x)
 exact w_p (w_b fin)
theorem mb_t0 {value slice:Expr}{u:Tok}{x y z:zY}{Q:VP}(X:(KF PW w.params).In h) (hM:h.get? M=some (mob dd [x,y,z])) (k:Q x (S σ h t))
 (hs:subscripted slice false (.ref M) (.int 0 u)=operate [.ref M,.int 0 u] (getItem (.ref M) (.int 0 u))):zZ (zW PW w) A (subscriptTail value slice (.ref M) (.int 0 u)) Q E (S σ h t):=
 mb_tail X hM (by decide) (by decide) (j:=0) (by rfl) (by rfl) k hs
theorem mb_t1 {value slice:Expr}{u:Tok}{x y z:zY}{Q:VP}(X:(KF PW w.params).In h) (hM:h.get? M=some (mob dd [x,y,z])) (k:Q y (S σ h t))
 (hs:subscripted slice false (.ref M) (.int 1 u)=operate [.ref M,.int 1 u] (getItem (.ref M) (.int 1 u))):zZ (zW PW w) A (subscriptTail value slice (.ref M) (.int 1 u)) Q E (S σ h t):=
 mb_tail X hM (by decide) (by decide) (j:=1) (by rfl) (by rfl) k hs
theorem mb_t2 {value slice:Expr}{u:Tok}{x y z:zY}{Q:VP}(X:(KF PW w.params).In h) (hM:h.get? M=some (mob dd [x,y,z])) (k:Q z (S σ h t))
 (hs:subscripted slice false (.ref M) (.int 2 u)=operate [.ref M,.int 2 u] (getItem (.ref M) (.int 2 u))):zZ (zW PW w) A (subscriptTail value slice (.ref M) (.int 2 u)) Q E (S σ h t):=
 mb_tail X hM (by decide) (by decide) (j:=2) (by rfl) (by rfl) k hs
theorem mb_ask {N dn:zV}{a b:Int}{ta tb:Tok}{r r':List zY}{Q:Bool→zX→Prop}(hu:A.units<cLine) (X:(KF PW w.params).In h) (hM:h.get? M=some (mob dd (.int a ta::r))) (hN:h.get? N=some (mob dn (.int b tb::r'))) (hne:a≠b)
 (k:Q (decide (a<b)) (S σ h t)):zZ (zW PW w) A (keyLt' oneType' (.ref M) (.ref N)) Q E (S σ h t):=by
 rw [keyLt'_oneType,oneLt'_eq];simp -iota only [if_true];refine w_b (wpAny_cRoomFor hu ?_);unfold callSpecialIfBound?;refine w_b (w_h (w_b (mb_bound PySem.F.slot_tuple_lt X hM mb_lt ?_)));dsimp only;refine w_b (mb_call PySem.F.slot_tuple_lt k_lt s_lt X hM PySem.F.entry_tuple_lt (PySem.F.args_tuple_lt_2 _ _) ?_);show zZ _ _ (isInstance (.ref N) (.type "tuple") >>=_) _ _ (S σ h t)
 refine w_b ((mb_inst X hN).here ?_);rw [if_neg (by decide)];refine w_b (mb_items hM ?_);refine w_b (mb_items hN ?_);refine w_b ?_;show zZ _ _ (forIn ((Value.int a ta,Value.int b tb)::(r.zip r')) _ _) _ _ (S σ h t)
 rw [List.forIn_cons];refine w_b (w_b (wpAny_eqBool_int ?_));rw [if_pos (by simpa using hne)];dsimp only;refine w_b (wpAny_rule (w_b ?_));show zZ _ _ (compareOp .Lt (.int a ta) (.int b tb)) _ _ (S σ h t)
 refine PySem.P.lt_int ?_;refine w_b (w_p (w_p ?_));dsimp only;refine w_p ?_;dsimp only;refine w_p ⟨_,rfl,?_⟩;refine w_p ?_;dsimp only;exact wpAny_truthy_bool k
end
end
section
theorem short_pw {α:Type}{R:α→α→Prop}{l:List α}(h:l.length<2):l.Pairwise R:=by
 cases l with
 |nil=>exact .nil
 |cons a r=>
  cases r with
  |nil=>exact List.pairwise_singleton ..
  |cons b r=>exact absurd h (Nat.not_lt_of_le (Nat.le_add_left 2 _))
def MRow (p:zV×Obj) (t:Tri):Prop:=∃ dd t1 t2 t3,p.2=mob dd [.int t.1 t1,.int t.2.1 t2,.int t.2.2 t3]
inductive MRows:Led→List Tri→Prop
 |nil:MRows [] []
 |cons {p t ps ts}:MRow p t→MRows ps ts→MRows (p::ps) (t::ts)
theorem MRows.len {ps ts} (h:MRows ps ts):ps.length=ts.length:=by
 induction h with
 |nil=>rfl
 |cons _ _ ih=>simp [ih]
theorem MRows.snoc {ps ts p t} (h:MRows ps ts) (hp:MRow p t):MRows (ps++[p]) (ts++[t]):=by
 induction h with
 |nil=>exact .cons hp .nil
 |cons h1 _ ih=>exact .cons h1 ih
theorem MRows.at {ps ts} (h:MRows ps ts):∀ {i:Nat}{p},ps[i]? =some p→∃ t,ts[i]? =some t∧MRow p t:=by
 induction h with
 |nil=>intro i p h;simp at h
 |@cons p t ps ts h1 _ ih=>
  intro i q hi;cases i with
  |zero=>exact ⟨t,rfl,by simpa using (l_j hi) ▸ h1⟩
  |succ i=>exact ih hi
theorem MRows.pick {ps ts} (h:MRows ps ts) {d:zV×Obj}{dt:Tri}:∀ (l:List Nat),(∀ i∈l,i<ps.length)→MRows (l.map fun i=>ps.getD i d) (l.map fun i=>ts.getD i dt)
 |[],_=>.nil
 |i::l,hl=>by
  have hi:=hl i (.head _);obtain ⟨t,ht,hr⟩:=h.at (i:=i) (l_e hi);refine .cons ?_ (h.pick l fun j hj=>hl j (.tail _ hj));show MRow (ps.getD i d) (ts.getD i dt)
  rw [xV,xV,l_e hi,ht];exact hr
theorem map_getD_range {α:Type}(d:α):∀ (l:List α),(xY l.length).map (fun i=>l.getD i d)=l
 |l=>by
  refine List.ext_getElem (by simp) fun i h1 h2=>?_;simp at h1;simp [xV,h1]
theorem pick_perm {α:Type}{d:α}{l:List α}{p:List Nat}(hp:p.Perm (xY l.length)):(p.map fun i=>l.getD i d).Perm l:=by
 have:=hp.map fun i=>l.getD i d
 rw [map_getD_range] at this;exact this
section
variable {w:zT}{A:zU}{E:VP}{σ:zX}{h₀ h:Heap}{t:Nat}{L D:zV}{m:NM}{rest:Led}
noncomputable abbrev refs (ms:Led):List zY:=ms.map fun p=>Value.ref p.1
theorem m_sort_short {vs:List zY}{n:Nat}{Q:VP}(W:Wk h₀ L h m ((D,lob vs n)::rest)) (h2:vs.length<2) (k:∀ h' n',Wk h₀ L h' m ((D,lob vs n')::rest)→Q .none (S σ h' t)):
 zZ (zW PW w) A (call (.builtin "list.sort") [.ref D]) Q E (S σ h t):=by
 have ho:=W.get (.head _);refine w_c slot_list_sort ⟨_,ho,rfl⟩ entry_list_sort ?_ (args_list_sort _);rw [list_sort_plain];refine w_b (listItems_at (s:=S σ h t) ho rfl ?_);refine w_b (listUpdate_at (s:=S σ h t) ho rfl ?_ (by rw [zI,yF];(revert h2;k_in)) (Nat.zero_le _));obtain ⟨e1,ho1⟩:∃ e1,(h.update D (Obj.mapSeq fun _=>(#[]:Array zY))).get? D=some (seqObj "list" #[] e1):=⟨_,get?_update_seq (n:=n) ho fun _=>#[]⟩;have W1:=W.upd (l_u h D (Obj.mapSeq fun _=>(#[]:Array zY))) ho1;refine w_b (seqEpoch_at (s:=S σ _ t) ho1 rfl ?_);refine w_b (wpAny_newTuple ?_ (by show vs.length≤_;rw [yF];(revert h2;k_in)));refine w_b (wpAny_newList ?_ (Nat.zero_le _));refine w_h ?_;show zZ (zW PW w) _ _ _ _ (S σ (((h.update D (Obj.mapSeq fun _=>(#[]:Array zY))).push (seqObj "tuple" vs.toArray 0)).push (seqObj "list" #[] 0)) t)
 have W2:Wk h₀ L (((h.update D (Obj.mapSeq fun _=>(#[]:Array zY))).push (seqObj "tuple" vs.toArray 0)).push (seqObj "list" #[] 0)) m ((D,seqObj "list" #[] e1)::rest):=W1.grow (Kp.trans (Kp.push _ _) (Kp.push _ _));have ho2:=W2.get (.head _);dsimp only;have hs:vs.toArray.size<2:=by rw [zI];exact h2
 rw [if_pos hs,if_pos hs];refine w_b (w_p ?_);rw [StateT.run_pure];refine w_b (w_p ?_);dsimp only
 have hout:(arrOf (SortSt.mk' general' (vs.toArray.zip vs.toArray) #[] 7 none)).map (·.2)=vs.toArray:=by
  apply Array.toList_inj.mp
  show ((vs.toArray.zip vs.toArray).map (·.2)).toList=_
  simp [List.map_snd_zip]
 rw [hout];refine w_b (seqEpoch_at (s:=S σ _ t) ho2 rfl ?_);refine w_b (listUpdate_at (s:=S σ _ t) ho2 rfl ?_ (Nat.zero_le _) (by rw [zI,yF];(revert h2;k_in)));simp only [bne_self_eq_false,yZ,if_false];refine w_p ⟨_,rfl,?_⟩;have hu:=get?_update_seq (n:=e1) ho2 fun _=>vs.toArray
 exact k _ _ (W2.upd (l_u _ D (Obj.mapSeq fun _=>vs.toArray)) hu)
theorem m_sort_long {ms:Led}{ts:List Tri}{n:Nat}{Q:VP}(Z:Site w A L h₀) (W:Wk h₀ L h m ((D,lob (refs ms) n)::(ms++rest))) (hr:MRows ms ts) (hu:A.units+20<cLine) (h2:2≤ms.length) (h64:ms.length<64) (nd:(ts.map (·.1)).Nodup)
 (k:∀ h' n' ms' ts',MRows ms' ts'→ms'.Perm ms→ts'.Perm ts→ts'.Pairwise (fun a b=>a.1<b.1)→Wk h₀ L h' m ((D,lob (refs ms') n')::(ms++rest))→Q .none (S σ h' t)):
 zZ (zW PW w) A (call (.builtin "list.sort") [.ref D]) Q E (S σ h t):=by
 have ho:=W.get (.head _);have nz:=W.nw _ (.head _);have ndW:=W.nd;rw [zM,zJ] at ndW;have hna:∀ p∈ms++rest,p.1≠D:=fun p hp e=>ndW.1 (by show D∈_;rw [← e];exact l_o hp)
 have hlen:(refs ms).length=ms.length:=zO ..;have hlt:ts.length=ms.length:=hr.len.symm;refine w_c slot_list_sort ⟨_,ho,rfl⟩ entry_list_sort ?_ (args_list_sort _);have N:News h₀ L h (ms++rest):=fun p hp=>W.nw p (.tail _ hp)
 have hkey:∀ {h':Heap}{e1 i:Nat},News h₀ L h' ((D,seqObj "list" #[] e1)::(ms++rest))→i<ms.length→∃ M t dd t1 r,(refs ms).getD i .none= .ref M∧ts[i]? =some t∧h'.get? M=some (mob dd (.int t.1 t1::r)):=fun {h' e1 i} N' hi=>by
  obtain ⟨t,ht,dd,t1,t2,t3,hm⟩:=hr.at (l_e hi);refine ⟨(ms[i]).1,t,dd,t1,[.int t.2.1 t2,.int t.2.2 t3],?_,ht,?_⟩
  · rw [xV,zF,l_e hi];rfl
  · rw [← hm];exact (N' (ms[i]) (.tail _ (l_l _ (List.getElem_mem hi)))).1
 have X₀:=Z.X;refine kas_list_sort (s:=S σ h t) (vs:=refs ms) (T:=.ref 150) (L:=L) (h₀:=h₀) (m:=m) (news:=ms++rest) W.fr N ho nz.2.1 nz.2.2 hna (by rw [hlen];exact h2) (by rw [hlen];exact h64) (fun e1 h' F' N' v hv=>?_) (by decide) (by decide) fun e1 h' F' N'=>?_
 · obtain ⟨p,hp,rfl⟩:=zN.mp hv;obtain ⟨i,hi,rfl⟩:=List.mem_iff_getElem.mp hp;obtain ⟨M,t,dd,t1,r,e,_,hm⟩:=hkey N' hi
   have:Value.ref (ms[i]).1= .ref M:=by
    rw [xV,zF,l_e hi] at e;exact e
   rw [this];exact mb_type hm
 · rw [hlen];have X:(KF PW w.params).In h':=X₀.keeps F'.keep
   have inj:Inj ms.length (fun i=>(ts.getD i (0,0,0)).1):=fun i j hi hj e=>by
    have hi':i<(ts.map (·.1)).length:=by simp;(revert hlt hi;k_in)
    have hj':j<(ts.map (·.1)).length:=by simp;(revert hlt hj;k_in)
    simp only [xV,l_e (show i<ts.length by revert hlt hi;k_in),l_e (show j<ts.length by revert hlt hj;k_in),Option.getD_some] at e;rcases Nat.lt_trichotomy i j with q|q|q
    · exact absurd (by simpa using e) (List.pairwise_iff_getElem.mp nd i j hi' hj' q)
    · exact q
    · exact absurd (by simpa using e.symm) (List.pairwise_iff_getElem.mp nd j i hj' hi' q)
   refine KOk.wp (I:=fun s'=>s'=S σ h' t) (P:=fun p=>Inv ms.length p∧SP (fun i=>(ts.getD i (0,0,0)).1) p ms.length) ?_ ?_ (sort_ok inj (by lia)) rfl
   · rintro i j C s hi hj hne rfl kk;obtain ⟨M,tM,dM,kM,rM,e1',e2',e3'⟩:=hkey N' hi;obtain ⟨M',tM',dM',kM',rM',f1,f2,f3⟩:=hkey N' hj;show zZ _ _ (keyLt' oneType' _ _) _ _ _
     rw [e1',f1];have g1:(ts.getD i (0,0,0))=tM:=by rw [xV,e2'];rfl
     have g2:(ts.getD j (0,0,0))=tM':=by rw [xV,f2];rfl
     simp only [g1,g2] at hne;have:=kk _ rfl;unfold ltK at this;simp only [g1,g2] at this;exact mb_ask (by show A.in1.units<_;rw [yN];lia) X e3' f3 hne this
   · rintro p s ⟨hinv,hsp⟩ rfl;refine KasFin.intro F' N' (.head hna) fun h'' c F'' N''=>⟨_,rfl,?_⟩;have hmem:∀ i∈p.toList,i<ms.length:=fun i hi=>List.mem_range.mp ((hinv.2.mem_iff).mp hi)
     have e1:(p.toList.map fun i=>(refs ms).getD i .none)=refs (p.toList.map fun i=>ms.getD i (0,default)):=by
      show _=(p.toList.map fun i=>ms.getD i (0,default)).map fun p=>Value.ref p.1
      rw [List.map_map];refine List.map_congr_left fun i hi=>?_;have:=hmem i hi;simp [refs,xV,this]
     rw [e1] at N'';refine k h'' c _ (p.toList.map fun i=>ts.getD i (0,0,0)) (hr.pick _ hmem) (pick_perm hinv.2) (pick_perm (by rw [hlt];exact hinv.2)) ?_ ⟨F'',N'',?_⟩
     · rw [List.pairwise_iff_getElem];intro i j hi hj hij;simp only [zO,Array.length_toList] at hi hj;have:=hsp i j hij (by rw [← hinv.1];exact hj);unfold Kp2 at this;simpa [Array.getD,hi,hj] using this
     · rw [zM,zJ];exact ndW
theorem m_sort {ms:Led}{ts:List Tri}{n:Nat}{Q:VP}(Z:Site w A L h₀) (W:Wk h₀ L h m ((D,lob (refs ms) n)::(ms++rest))) (hr:MRows ms ts) (hu:A.units+20<cLine) (h64:ms.length<64) (nd:(ts.map (·.1)).Nodup)
 (k:∀ h' n' ms' ts',MRows ms' ts'→ms'.length=ms.length→ts'.Perm ts→ts'.Pairwise (fun a b=>a.1<b.1)→Wk h₀ L h' m ((D,lob (refs ms') n')::(ms'++rest))→Q .none (S σ h' t)):
 zZ (zW PW w) A (call (.builtin "list.sort") [.ref D]) Q E (S σ h t):=by
 by_cases h2:2≤ms.length
 · refine m_sort_long Z W hr hu h2 h64 nd fun h' n' ms' ts' a b c d W'=>k h' n' ms' ts' a b.length_eq c d (W'.perm (.cons _ (List.Perm.append_right _ b.symm)))
 · refine m_sort_short W (by rw [zO];lia) fun h' n' W'=>k h' n' ms ts hr rfl (List.Perm.refl _) ?_ W'
   have:=hr.len;exact short_pw (by revert h2 this;k_in)
end
end
section
section
variable {w:zT}{A:zU}{E:VP}{σ:zX}{h₀ h:Heap}{t:Nat}{L:zV}{m:NM}{news:Led}{env:Env}
theorem isnot_nn {M:Model}{s:zX}{Q:VP}(k:Q (.bool false) s):zZ M A (compareOp .IsNot .none .none) Q E s:=isnot_none_gen k
theorem g_pop {pl:Sem Bool}{l:zV}{vs:List zY}{n:Nat}{Q:zY×List zY→zX→Prop}(W:Wk h₀ L h m news) (hm:(l,lob vs n)∈news) (k:Q (.builtin "list.pop",[.ref l]) (S σ h t)):
 zZ (zW PW w) A (getMethod (.ref l) (zQ "pop") pl) Q E (S σ h t):=
 getMethod_builtin (s:=S σ h t) (v:=.ref l) (T:="list") ⟨_,W.get hm,rfl⟩ PySem.F.plainAttrs_list PySem.F.slot_list_pop PySem.F.type_list_pop (fun a e=>by cases e;exact ⟨_,W.get hm,rfl⟩) k
theorem g_sort {pl:Sem Bool}{l:zV}{vs:List zY}{n:Nat}{Q:zY×List zY→zX→Prop}(W:Wk h₀ L h m news) (hm:(l,lob vs n)∈news) (k:Q (.builtin "list.sort",[.ref l]) (S σ h t)):
 zZ (zW PW w) A (getMethod (.ref l) (zQ "sort") pl) Q E (S σ h t):=
 getMethod_builtin (s:=S σ h t) (v:=.ref l) (T:="list") ⟨_,W.get hm,rfl⟩ PySem.F.plainAttrs_list slot_list_sort PySem.F.type_list_sort (fun a e=>by cases e;exact ⟨_,W.get hm,rfl⟩) k
theorem m_pop {l:zV}{vs:List zY}{x:zY}{n:Nat}{Q:VP}(W:Wk h₀ L h m ((l,lob (vs++[x]) n)::news)) (hz:vs.length≤1000)
 (k:∀ h' n',Wk h₀ L h' m ((l,lob vs n')::news)→Q x (S σ h' t)):zZ (zW PW w) A (call (.builtin "list.pop") [.ref l]) Q E (S σ h t):=by
 have ho:=W.get (.head _);have hs:(vs++[x]).toArray.size≤sizeLine:=by rw [zI,zD,yF];simp;lia
 refine call_meets PySem.F.slot_list_pop ⟨_,ho,rfl⟩ PySem.F.entry_list_pop (PySem.F.args_list_pop_1 _) (PySem.MeetsSeq.list_pop_last l (vs++[x]).toArray n x (by simp) hs) ⟨ho,?_⟩;have hu:=get?_update_seq (n:=n) ho fun xs=>xs.eraseIdxIfInBounds ((vs++[x]).toArray.size - 1)
 have e:(vs++[x]).toArray.eraseIdxIfInBounds ((vs++[x]).toArray.size - 1)=vs.toArray:=by
  apply Array.toList_inj.mp
  simp [List.eraseIdx_append_of_length_le]
 rw [e] at hu;exact k _ _ (W.upd (l_u ..) hu)
theorem tr_list {l:zV}{vs:List zY}{Q:Bool→zX→Prop}(hl:Ls h l vs) (hz:vs.length≤1000) (k:∀ t',Q (!vs.isEmpty) (S σ h t')):zZ (zW PW w) A (truthy (.ref l)) Q E (S σ h t):=by
 refine wpAny_truthy_list (s:=S σ h t) (items:=vs.toArray) hl (by rw [zI];lia) ?_;rw [List.isEmpty_toArray];exact k _
theorem tr_int {a:Int}{ta:Tok}{Q:Bool→zX→Prop}(k:Q (decide (a≠0)) (S σ h t)):zZ (zW PW w) A (truthy (.int a ta)) Q E (S σ h t):=
 PySem.P.truthy_int (by rw [show (a !=0)=decide (a≠0) by by_cases q:a=0 <;> simp [q]];exact k)
theorem mb_lenf {P:Params}:findIn (KF PW P) (.ref 150) (zQ "__len__")=some (some (.builtin "tuple.__len__")):=by k_ne
theorem k_len:builtinKind "tuple.__len__"=some .slot:=by k_ne
theorem s_len:splitId "tuple.__len__"=some ("tuple","__len__"):=by first|decide+kernel|k_ne
variable {cn:Str}{cs:Scope}{a:zV}{ccd:zY}{cl:List (Str×zV)}
theorem unpack_mob {M dd:zV}{vs:List zY}{targets:List (Bool×(zY→Sem Unit))}{Q:UP}(hh:A.handled=none) (X:(KF PW w.params).In h) (hM:h.get? M=some (mob dd vs)) (hn:targets.length=vs.length) (hstar:targets.findIdx? (·.1)=none)
 (k:∀ h',Heap.ExtBut h.objs.size h h'→zZ (zW PW w) A (assignInOrder (targets.map (·.2)) vs) Q E (S σ h' t)):zZ (zW PW w) A (unpack (.ref M) targets) Q E (S σ h t):=by
 unfold unpack;rw [hn,hstar];exact w_b (w_h (mb_unpack hh X hM k))
theorem assign_mob {elts:List Expr}{x1} {pos:Pos}{M dd:zV}{vs:List zY}{Q:UP}(hh:A.handled=none) (X:(KF PW w.params).In h) (hM:h.get? M=some (mob dd vs)) (hn:(assignEach elts env).length=vs.length) (hstar:(assignEach elts env).findIdx? (·.1)=none)
 (k:∀ h',Heap.ExtBut h.objs.size h h'→zZ (zW PW w) A (assignInOrder ((assignEach elts env).map (·.2)) vs) Q E (S σ h' t)):zZ (zW PW w) A (assign (.Tuple elts x1 pos) env (.ref M)) Q E (S σ h t):=by
 rw [PyProof.Rows.assign_Tuple];exact w_b (wpAny_standAt (unpack_mob hh X hM hn hstar k))
theorem u_mob3 {k' pos} {x y z:Str}{p1 p2 p3} {M dd:zV}{v1 v2 v3:zY}{Q:UP}(Z:Site w A L h₀) (W:Wk h₀ L h m news) (hM:h.get? M=some (mob dd [v1,v2,v3]))
 (k:∀ h'' t'',Wk h₀ L h'' (setm (setm (setm m x v1) y v2) z v3) news→Q () (S σ h'' t''))
 (hk:cs.kind= .function) (hx:(envX cn cs L a ccd cl).kindOf x=some .local) (hy:(envX cn cs L a ccd cl).kindOf y=some .local) (hz:(envX cn cs L a ccd cl).kindOf z=some .local):
 zZ (zW PW w) A (assign (.Tuple [.Name x p1,.Name y p2,.Name z p3] k' pos) (envX cn cs L a ccd cl) (.ref M)) Q E (S σ h t):=by
 refine assign_mob Z.hh (W.inK Z) hM (by rfl) (by rfl) fun h₂ he=>?_;have W₂:=W.grow (Kp.ext he);show zZ _ _ (assignInOrder [assign (.Name x p1) _,assign (.Name y p2) _,assign (.Name z p3) _] [v1,v2,v3]) _ _ _
 exact ai_cons (x_assign_name (t:=t) W₂ (fun h₃ t₃ W₃=>ai_cons (x_assign_name W₃ (fun h₄ t₄ W₄=>ai_cons (x_assign_name W₄ (fun h₅ t₅ W₅=>ai_nil (k h₅ t₅ W₅)) hk hz)) hk hy)) hk hx)
def Sw2 (σ:zX) (h₀:Heap) (L:zV) (x y:Str) (Q:FP):VP:=fun v s₁=>
 ∃ h' t' T v1 v2,s₁=S σ h' t'∧v= .ref T∧Tp h' T [v1,v2]∧∃ m' news',Wk h₀ L h' m' news'∧∀ h'' t'',Wk h₀ L h'' (setm (setm m' y v2) x v1) news'→Q .next (S σ h'' t'')
theorem sw2_mk {x y:Str}{T:zV}{v1 v2:zY}{n:Nat}{Q:FP}(W:Wk h₀ L h m ((T,tob [v1,v2] n)::news)) (k:∀ h'' t'',Wk h₀ L h'' (setm (setm m y v2) x v1) news→Q .next (S σ h'' t'')):
 Sw2 σ h₀ L x y Q (.ref T) (S σ h t):=⟨h,t,T,v1,v2,rfl,rfl,W.tp (.head _),m,news,W.drop (yC ..),k⟩
theorem x_swap2 {k' tpos value pos} {x y:Str}{p1 p2} {Q:FP}
 (k:zZ (zW PW w) A (eval value (envX cn cs L a ccd cl)) (Sw2 σ h₀ L x y Q) E (S σ h t))
 (Z:Site w A L h₀)
 (hs:swapsWithSole [.Tuple [.Name x p1,.Name y p2] k' tpos] value pos.line (envX cn cs L a ccd cl)=pure false)
 (hw:swappedStores [.Tuple [.Name x p1,.Name y p2] k' tpos] value (envX cn cs L a ccd cl)=pure (some [x,y]))
 (hk:cs.kind= .function) (hx:(envX cn cs L a ccd cl).kindOf x=some .local) (hy:(envX cn cs L a ccd cl).kindOf y=some .local):
 zZ (zW PW w) A (exec (.Assign [.Tuple [.Name x p1,.Name y p2] k' tpos] value pos) (envX cn cs L a ccd cl)) Q E (S σ h t):=by
 refine Assign_Tuple_swapped (w_m k (fun v s₁ h₁=>?_) fun _ _ e=>e) hs hw;obtain ⟨h',t',T,v1,v2,rfl,rfl,ht,m',news',W',kk⟩:=h₁;refine u_items W' Z.hh ht rfl fun h₂ W₂ _=>?_;show zZ _ _ (assignInOrder [fun v=>bindName _ y v,fun v=>bindName _ x v] [v2,v1]) _ _ _
 exact ai_cons (bn (s_local W₂ (fun h₃ t₃ W₃=>ai_cons (bn (s_local W₃ (fun h₄ t₄ W₄=>ai_nil (kk h₄ t₄ W₄)) hk hx))) hk hy))
end
end
section
section
variable {w:zT}{A:zU}{E:VP}{σ:zX}{h₀ h:Heap}{t:Nat}{L:zV}{m:NM}{news:Led}{env:Env}
theorem mb_len {M dd:zV}{vs:List zY}{Q:VP}(X:(KF PW w.params).In h) (hM:h.get? M=some (mob dd vs)) (hz:vs.length≤1000) (k:∀ tk t',Q (.int vs.length tk) (S σ h t')):zZ (zW PW w) A (call (.builtin "len") [.ref M]) Q E (S σ h t):=by
 refine Calls.call_function_entry kind_len plain_len entry_len (args_len1 _) ?_;unfold Builtin.«len»;refine w_b (m:=oneArg "len" _) (w_p ?_);refine w_b (m:=callSpecial? (.ref M) (zQ "__len__")) ?_;have L:∀ {Md:Model},Looks Md (S σ h t).heap (specialOf (.ref M) "__len__") (some (.builtin "tuple.__len__")):=mb_special X hM mb_lenf;unfold callSpecial?;refine w_b (L.here ?_);dsimp only;refine w_h ?_;rw [(PySem.F.slot_tuple_len).bind];refine w_b (w_p ?_);refine w_b (mb_call PySem.F.slot_tuple_len k_len s_len X hM PySem.F.entry_tuple_len (PySem.F.args_tuple_len_1 _) ?_);show zZ _ _ (do retInt (← Builtin.Tuple.tupleItemsOf (.ref M)).size) _ _ (S σ h t)
 refine w_b (mb_items hM ?_);refine w_b (wpAny_mkInt (w_p ⟨_,rfl,?_⟩));refine w_p ?_;refine w_b (w_h (w_p ?_));refine w_b (wpAny_letGo ?_);have hs:vs.toArray.size=vs.length:=zI ..;show zZ _ _ (if ((vs.toArray.size:Nat):Int)<0 then _ else _) _ _ _
 rw [if_neg (by revert hs;k_in)];show zZ _ _ (if ((vs.toArray.size:Nat):Int)≥2 ^ 63 then _ else _) _ _ _
 rw [if_neg (by lia)];have:=k (t+1) (t+1+1);rw [← hs] at this;exact w_b (wpAny_mkInt (w_p ⟨_,rfl,this⟩))
end
theorem make_body {w A L' g h t σ} {T:zV}{a b c:Int}{ta tb tc:Tok}{n:Nat}{f:zV}{m} {Q:FP}{E:VP}
 (Z:Site w A L' g) (W:Wk g L' h m []) (hT:g.get? T=some (tob [.int a ta,.int b tb,.int c tc] n)) (e0:m (zQ "cls")=some (.ref 150)) (e1:m (zQ "iterable")=some (.ref T))
 (k:∀ M dd h' t' m' jk,Wk g L' h' m' ((M,mob dd [.int a ta,.int b tb,.int c tc])::jk)→Q (.ret (.ref M)) (S σ h' t')):
 zZ (zW PW w) A (execs (dB (me PW 6 5)) (envX n66 (dS (me PW 6 5)) L' f (.ref 103) [])) Q E (S σ h t):=by
 with_unfolding_all refine x_cons ?_
 kd_p;refine g_tnew Z W fun t'=>?_;with_reducible refine c_bltin0 (by wtm_at "u") (by wtm_at "u") ?_
 kd_p;refine c_tnew (vs:=[.int a ta,.int b tb,.int c tc]) Z W (W.kp _ _ hT) (by simp) fun M dd h' jk W'=>?_;wtm_at "w";kd_p;refine mb_len (W.inK Z) (W.get (.head _)) (by simp) fun tk t'=>?_;kd_p
 · rename_i q;exact absurd rfl q
 · exact k _ _ _ _ _ _ W
end
theorem owner_map:Manifest.owners.lookup (String.ofList ['p','a','m'].reverse)=some Manifest.sig_map:=by k_ne
theorem map_slot_init:Slot "map" "__init__" "object.__init__":=
 .of (owner:="object") (n:="__init__") (by rw [typeLookup_type,yI];k_ne) (by decide+kernel) (by decide+kernel) (by decide+kernel)
  (by first|exact .inl (by decide+kernel)|exact .inr (by decide+kernel)) (by rw [isSubtype_type];k_ne)
theorem map_slot_iter:Slot "map" "__iter__" "map.__iter__":=
 .of (owner:="map") (n:="__iter__") (by rw [typeLookup_type,yI];k_ne) (by decide+kernel) (by decide+kernel) (by decide+kernel)
  (by first|exact .inl (by decide+kernel)|exact .inr (by decide+kernel)) (by rw [isSubtype_type];k_ne)
theorem map_slot_next:Slot "map" "__next__" "map.__next__":=
 .of (owner:="map") (n:="__next__") (by rw [typeLookup_type,yI];k_ne) (by decide+kernel) (by decide+kernel) (by decide+kernel)
  (by first|exact .inl (by decide+kernel)|exact .inr (by decide+kernel)) (by rw [isSubtype_type];k_ne)
theorem map_args_iter (a:zY):argsOk "map.__iter__" ⟨[a],[]⟩:=by
 unfold argsOk;rw [signature?_of (id:="map.__iter__") (n:=['_','_','r','e','t','i','_','_']) (o:=['p','a','m']) (by k_ne) owner_map];k_ne
theorem map_args_next (a:zY):argsOk "map.__next__" ⟨[a],[]⟩:=by
 unfold argsOk;rw [signature?_of (id:="map.__next__") (n:=['_','_','t','x','e','n','_','_']) (o:=['p','a','m']) (by k_ne) owner_map];k_ne
theorem map_entry_iter:entryFor table "map.__iter__"=some Builtin.«dict_keyiterator.__iter__»:=
 entryFor_alias (id':="dict_keyiterator.__iter__") (by k_ne) (by first|rfl|decide+kernel|(unfold String.splitOn;simp+decide [String.splitOnAux])) (by decide+kernel) (by k_ne)
theorem map_entry_next:entryFor table "map.__next__"=some Builtin.«map.__next__»:=entryFor_of_tree (by k_ne)
theorem map_entry_new:entryFor table "map.__new__"=some Builtin.«map.__new__»:=entryFor_of_tree (by k_ne)
theorem map_mro:mroOf (.type "map")=pure [.type "map",.type "object"]:=by rw [mroOf_type];k_ne
theorem map_lookup_new:typeLookup (.type "map") "__new__"=pure (some (.builtin "map.__new__")):=by rw [typeLookup_type,yI];k_ne
theorem map_called:TypeCalled "map" "map.__new__" "object.__init__":=
 ⟨by decide+kernel,by decide+kernel,⟨_,_,map_mro⟩,madeBy_type map_mro map_lookup_new (by decide+kernel),by decide+kernel,by rw [isSubtype_type];k_ne,map_slot_init⟩
theorem map_typeCall (a b:zY):checkTypeCall "map" ⟨[a,b],[]⟩=pure ():=by k_ne
theorem map_newCall (a b:zY):checkBuiltinCall "map.__new__" ⟨[.type "map",a,b],[]⟩=pure ():=by k_ne
theorem map_sub:isSubtype (.type "map") (.type "map")=pure true:=by rw [isSubtype_type];k_ne
theorem map_nolen:typeLookup (.type "map") "__len__"=pure none:=by rw [typeLookup_type,yI];k_ne
theorem map_nohint:typeLookup (.type "map") "__length_hint__"=pure none:=by rw [typeLookup_type,yI];k_ne
noncomputable def mapob (f:zY) (tp:zV):Obj:={ cls:=.type "map",data:=.fields #[.ref tp,f] }
noncomputable abbrev mpH1 (h:Heap) (l:zV):Heap:=h.push { cls:=.type "list_iterator",data:=.fields #[.ref l,.int 0 0] }
noncomputable abbrev mpH2 (h:Heap) (l:zV):Heap:=(mpH1 h l).push { cls:=.type "tuple",data:=.seq #[.ref h.objs.size] }
noncomputable abbrev mpH3 (h:Heap) (l:zV) (f:zY):Heap:=(mpH2 h l).push (mapob f (mpH1 h l).objs.size)
theorem map_meets_new (l:zV) (f:zY) (xs:Array zY):
 Meets (Builtin.«map.__new__» ⟨[.type "map",f,.ref l],[]⟩) (fun _ R s=>s.heap.IsList l xs∧R (.ok (.ret (.ref (mpH2 s.heap l).objs.size))) { s with heap:=mpH3 s.heap l f }):=
 .of_wp fun prog w A R s h=>by
  obtain ⟨hp,g,d,tk,os⟩:=s;obtain ⟨hl,h⟩:=h;have hsub:=map_sub;have hL:Heap.IsList (Shared.heap ⟨hp,g,d,tk,os⟩) l xs:=hl
  wp_walk using wpAny_pyIter_list hL
  exact ⟨_,rfl,h⟩
section
section
variable {w:zT}{A:zU}{E:VP}{σ:zX}{h₀ h:Heap}{t:Nat}{L:zV}{m:NM}{news:Led}{env:Env}
theorem c_map {l:zV}{f:zY}{vs:List zY}{Q:VP}(W:Wk h₀ L h m news) (hl:Ls h l vs)
 (k:∀ mo tp li o h',liob l 0 o→Wk h₀ L h' m ((mo,mapob f tp)::(tp,tob [.ref li] 0)::(li,o)::news)→Kp h h'→Q (.ref mo) (S σ h' t)):zZ (zW PW w) A (call (.type "map") [f,.ref l]) Q E (S σ h t):=by
 refine callType_new (s:=S σ h t) map_called (by decide) (map_typeCall _ _) (map_newCall _ _) (fun obj=>PySem.F.args_object_init_3 obj _ _) map_entry_new (map_meets_new l f vs.toArray) ⟨hl,?_⟩;have W1:=W.new { cls:=.type "list_iterator",data:=.fields #[.ref l,.int 0 0] } rfl;have W2:=W1.new (tob [.ref h.objs.size] 0) rfl;have W3:=W2.new (mapob f (mpH1 h l).objs.size) rfl;exact ⟨⟨_,yO _ rfl,rfl⟩,k _ _ _ _ _ ⟨rfl,rfl⟩ W3 ((Kp.push _ _).trans ((Kp.push _ _).trans (Kp.push _ _)))⟩
theorem li_item {it l:zV}{i:Nat}{vs:List zY}{x:zY}{Q:Option zY→zX→Prop}(hit:h.IsListIter it l i) (hl:Ls h l vs) (hx:vs[i]? =some x)
 (hQ:∀ h',h'.IsListIter it l (i+1)→Heap.SameBut it h h'→Q (some x) (S σ h' t)):zZ (zW PW w) A (callSpecial? (.ref it) "__next__") Q E (S σ h t):=by
 obtain ⟨o,ho,hc,hd⟩:=id hit;obtain ⟨ol,hol,_,nl,hdl⟩:=hl;have hT:(S σ h t).TypeIs (.ref it) "list_iterator":=⟨o,ho,hc⟩;refine yH (name:=zQ "__next__") hT slot_listiter_next (w_c slot_listiter_next hT entry_listiter_next ?_ (args_listiter_next _));show zZ _ _ (field (.ref it) 0 >>=_) _ _ (S σ h t)
 refine w_b (wpAny_field ho hd (x:=.ref l) rfl ?_);show zZ _ _ (if (Value.ref l==Value.none)=true then _ else _) _ _ (S σ h t)
 rw [if_neg (show ¬ ((Value.ref l==Value.none)=true) from zA)];show zZ _ _ (field (.ref it) 1 >>=_) _ _ (S σ h t)
 refine w_b (wpAny_field ho hd (x:=.int i 0) rfl ?_);show zZ _ _ (seqItems? (.ref l) >>=_) _ _ (S σ h t)
 refine w_b (wpAny_seqItems hol hdl ?_);have hx':vs.toArray[i]? =some x:=by simpa using hx
 simp only [yV,hx'];refine w_b (wpAny_setField ho hd (by simp) (w_p ⟨x,rfl,hQ _ ?_ (l_u ..)⟩))
 exact ⟨_,yL _ ho (Obj.isFreed_of_fields (Obj.data_mapFields hd _)),(Obj.cls_mapFields ..).trans hc,by
  rw [Obj.data_mapFields hd];simp [rawInt]⟩
theorem li_end {it l:zV}{i:Nat}{vs:List zY}{Q:Option zY→zX→Prop}(hh:A.handled=none) (hit:h.IsListIter it l i) (hl:Ls h l vs) (hx:vs[i]? =none)
 (hQ:∀ h' e,(∃ o,h'.get? e=some o∧o.cls= .type "StopIteration")→Heap.ExtBut it h h'→E (.ref e) (S σ h' t)):zZ (zW PW w) A (callSpecial? (.ref it) "__next__") Q E (S σ h t):=by
 obtain ⟨o,ho,hc,hd⟩:=id hit;obtain ⟨ol,hol,_,nl,hdl⟩:=hl;have hT:(S σ h t).TypeIs (.ref it) "list_iterator":=⟨o,ho,hc⟩;refine yH (name:=zQ "__next__") hT slot_listiter_next (w_c slot_listiter_next hT entry_listiter_next ?_ (args_listiter_next _));show zZ _ _ (field (.ref it) 0 >>=_) _ _ (S σ h t)
 refine w_b (wpAny_field ho hd (x:=.ref l) rfl ?_);show zZ _ _ (if (Value.ref l==Value.none)=true then _ else _) _ _ (S σ h t)
 rw [if_neg (show ¬ ((Value.ref l==Value.none)=true) from zA)];show zZ _ _ (field (.ref it) 1 >>=_) _ _ (S σ h t)
 refine w_b (wpAny_field ho hd (x:=.int i 0) rfl ?_);show zZ _ _ (seqItems? (.ref l) >>=_) _ _ (S σ h t)
 refine w_b (wpAny_seqItems hol hdl ?_);have hx':vs.toArray[i]? =none:=by simpa using hx
 simp only [yV,hx'];refine w_b (wpAny_rule (w_b (wpAny_setField ho hd (by simp) ?_)));show zZ _ _ (newExc (.type "StopIteration") [] >>=_) _ _ _
 refine w_b ?_;unfold newExc newTuple;refine w_b (yJ ?_ (by size_fits));refine w_b (m:=firstArgMember _ _) (yK (a:=Value.none) (by first|rfl|(simp only [firstArgMember];rfl)) ?_);refine yJ ?_ (by size_fits);unfold raiseNew;refine w_b (wpAny_handled ?_);rw [show A.in1.handled=none from hh];refine w_b (w_p (wpAny_throw ?_));exact hQ _ _ ⟨_,yO _ rfl,rfl⟩ (((l_u ..).extBut.push _).push _)
end
end
section
section
variable {w:zT}{A:zU}{E:VP}{σ:zX}{h₀ h:Heap}{t:Nat}{L:zV}{m:NM}{news:Led}{env:Env}
theorem site_in1 (Z:Site w A L h₀):Site w A.in1 L h₀:=by
 obtain ⟨⟨A₀,base,outer,env,B,hA,hf,hke⟩,X,T,hh⟩:=Z;exact ⟨⟨A₀,base,outer,env,B,hA,hf,hke⟩,X,T,hh⟩
theorem make_code {R:Result→zX→Prop}{T:zV}{a b c:Int}{ta tb tc:Tok}{n:Nat}
 (Z:Site w A L h₀) (W:Wk h₀ L h m news) (room:A.depth<zS) (hT:h.get? T=some (tob [.int a ta,.int b tb,.int c tc] n))
 (k:∀ M dd h' t' jk,Wk h₀ L h' m ((M,mob dd [.int a ta,.int b tb,.int c tc])::(jk++news))→R (.ok (.ret (.ref M))) (S σ h' t')):
 codeAny (zW PW w) A (.call (.ref 104) ⟨[.ref 150,.ref T],[]⟩) R (S σ h t):=
 code_genE (mu:=[]) (rest:=news) (binds:=[(zQ "cls",.ref 150),(zQ "iterable",.ref T)]) [] False Z W room (by rfl) (by k_ne) (BindsTo.of_eq (by k_ne)) (locs (by k_ne)) (by decide) (by k_ne) (by k_ne) (by k_ne)
  (fun _ _ _ _ _ q=>q.elim) fun L' h₁ t₁ et FA Z' W'=>
  w_m (make_body (E:=fun _ _=>False) (T:=T) (Q:=fun fl s'=>∃ h' t' m' mu',s'=S σ h' t'∧Wk (gnd h []) L' h' m' mu'∧(Wk h₀ L h' m (mu'++news)→R (.ok (.ret (retv fl))) (S σ h' t'))) Z' W' (gnd_get hT (by simp)) (by k_ne) (by k_ne) fun M dd h' t' m' jk W₂=>⟨h',t',_,_,rfl,W₂,fun W₃=>k M dd h' t' jk W₃⟩) (fun _ _ x=>x) fun _ _ x=>x.elim
theorem mp_item {mo tp li bm l T:zV}{o:Obj}{vs:List zY}{i n:Nat}{a b c:Int}{ta tb tc:Tok}{Q:Option zY→zX→Prop}(Z:Site w A L h₀) (W:Wk h₀ L h m ((li,o)::(mo,mapob (.ref bm) tp)::(tp,tob [.ref li] 0)::news)) (room:A.depth<zS)
 (hbm:(bm,methodObj (.ref 104) (.ref 150))∈news) (hl:(l,lob vs n)∈news) (ho:liob l i o) (hx:vs[i]? =some (.ref T)) {nT:Nat}(hT:(T,tob [.int a ta,.int b tb,.int c tc] nT)∈news)
 (k:∀ M dd o' h' t' jk,liob l (i+1) o'→Wk h₀ L h' m ((M,mob dd [.int a ta,.int b tb,.int c tc])::(jk++((li,o')::(mo,mapob (.ref bm) tp)::(tp,tob [.ref li] 0)::news)))→Q (some (.ref M)) (S σ h' t')):
 zZ (zW PW w) A (pyNext (.ref mo)) Q E (S σ h t):=by
 have hmo:=W.get (show (mo,mapob (.ref bm) tp)∈_ by wtm_at "m");have htp:=W.get (show (tp,tob [.ref li] 0)∈_ by wtm_at "m");have hli:=W.get (show (li,o)∈_ by wtm_at "m");have hT0:(S σ h t).TypeIs (.ref mo) "map":=⟨_,hmo,rfl⟩;unfold pyNext
 refine w_b (wpAny_attempt (yH (name:=zQ "__next__") hT0 map_slot_next
  (w_c map_slot_next hT0 map_entry_next ?_ (map_args_next _))))
 show zZ _ _ (field (.ref mo) 0 >>=_) _ _ (S σ h t)
 refine w_b (wpAny_field (s:=S σ h t) hmo rfl (x:=.ref tp) rfl ?_);show zZ _ _ (seqItems? (.ref tp) >>=_) _ _ (S σ h t)
 refine w_b (wpAny_seqItems (s:=S σ h t) htp rfl ?_);show zZ _ _ (forIn (#[Value.ref li]:Array zY) _ _ >>=_) _ _ (S σ h t)
 rw [← Array.forIn_toList];show zZ _ _ (forIn [Value.ref li] _ _ >>=_) _ _ (S σ h t)
 rw [List.forIn_cons];refine w_b (w_b (w_b (w_h ?_)));unfold Builtin.SmallTypes.nextOf;refine w_b (li_item ⟨o,hli,ho⟩ (W.ls (n:=n) (by wtm_at "m")) hx fun h1 hit hs=>?_);obtain ⟨o',ho',hlo'⟩:=hit;have W1:=W.upd hs ho';refine w_p ?_;refine w_p ?_;dsimp only;rw [List.forIn_nil];refine w_p ?_;have hmo1:=W1.get (show (mo,mapob (.ref bm) tp)∈_ by wtm_at "m");refine w_b (wpAny_field (s:=S σ h1 t) hmo1 rfl (x:=.ref bm) rfl ?_);refine w_b (w_h ?_);show zZ _ _ (call (.ref bm) [.ref T]) _ _ (S σ h1 t)
 have hb1:=W1.get (show (bm,methodObj (.ref 104) (.ref 150))∈_ by wtm_at "m");refine wpAny_call (method_call hb1 ?_);refine make_code (site_in1 Z) W1 room (W1.get (show (T,tob [.int a ta,.int b tb,.int c tc] nT)∈_ by wtm_at "m")) fun M dd h' t' jk W2=>?_;show zZ _ _ _ _ _ _
 refine w_b (wpAny_letGo ?_);exact w_p ⟨_,rfl,w_p (k M dd o' h' t' jk hlo' W2)⟩
theorem mp_end {mo tp li bm l:zV}{o:Obj}{vs:List zY}{n:Nat}{Q:Option zY→zX→Prop}(Z:Site w A L h₀) (W:Wk h₀ L h m ((li,o)::(mo,mapob (.ref bm) tp)::(tp,tob [.ref li] 0)::news))
 (hl:(l,lob vs n)∈news) (ho:liob l vs.length o) (k:∀ h' t',Wk h₀ L h' m ((mo,mapob (.ref bm) tp)::(tp,tob [.ref li] 0)::news)→Q none (S σ h' t')):
 zZ (zW PW w) A (pyNext (.ref mo)) Q E (S σ h t):=by
 have hmo:=W.get (show (mo,mapob (.ref bm) tp)∈_ by wtm_at "m");have htp:=W.get (show (tp,tob [.ref li] 0)∈_ by wtm_at "m");have hli:=W.get (show (li,o)∈_ by wtm_at "m");have hT0:(S σ h t).TypeIs (.ref mo) "map":=⟨_,hmo,rfl⟩;unfold pyNext
 refine w_b (wpAny_attempt (yH (name:=zQ "__next__") hT0 map_slot_next
  (w_c map_slot_next hT0 map_entry_next ?_ (map_args_next _))))
 show zZ _ _ (field (.ref mo) 0 >>=_) _ _ (S σ h t)
 refine w_b (wpAny_field (s:=S σ h t) hmo rfl (x:=.ref tp) rfl ?_);show zZ _ _ (seqItems? (.ref tp) >>=_) _ _ (S σ h t)
 refine w_b (wpAny_seqItems (s:=S σ h t) htp rfl ?_);show zZ _ _ (forIn (#[Value.ref li]:Array zY) _ _ >>=_) _ _ (S σ h t)
 rw [← Array.forIn_toList];show zZ _ _ (forIn [Value.ref li] _ _ >>=_) _ _ (S σ h t)
 rw [List.forIn_cons];refine w_b (w_b (w_b (w_h ?_)));unfold Builtin.SmallTypes.nextOf;refine w_b (li_end (show A.in1.handled=none from Z.hh) ⟨o,hli,ho⟩ (W.ls (n:=n) (by wtm_at "m")) (by simp) fun h1 e he hs=>?_);obtain ⟨oe,he,hc⟩:=he;dsimp only;refine w_b (wpAny_isInstance (T:="StopIteration") (b:=true) ⟨_,he,hc⟩ isSubtype_stop ?_);exact w_p (k _ _ (W.off hs))
end
end
section
def TRow (p:zV×Obj) (t:Tri):Prop:=∃ n t1 t2 t3,p.2=tob [.int t.1 t1,.int t.2.1 t2,.int t.2.2 t3] n
inductive TRows:Led→List Tri→Prop
 |nil:TRows [] []
 |cons {p t ps ts}:TRow p t→TRows ps ts→TRows (p::ps) (t::ts)
theorem TRows.len {ps ts} (h:TRows ps ts):ps.length=ts.length:=by
 induction h with
 |nil=>rfl
 |cons _ _ ih=>simp -iota [ih]
theorem TRows.snoc {ps ts p t} (h:TRows ps ts) (hp:TRow p t):TRows (ps++[p]) (ts++[t]):=by
 induction h with
 |nil=>exact .cons hp .nil
 |cons h1 _ ih=>exact .cons h1 ih
theorem TRows.at {ps ts} (h:TRows ps ts):∀ {i:Nat}{p},ps[i]? =some p→∃ t,ts[i]? =some t∧TRow p t:=by
 induction h with
 |nil=>intro i p h;simp -iota at h
 |@cons p t ps ts h1 _ ih=>
  intro i q hi;cases i with
  |zero=>exact ⟨t,rfl,by simpa using (l_j hi) ▸ h1⟩
  |succ i=>exact ih hi
section
variable {w:zT}{A:zU}{E:VP}{σ:zX}{h₀ h:Heap}{t:Nat}{L:zV}{m:NM}{news:Led}{env:Env}
theorem mp_loop {R:Result→zX→Prop}{D mo tp li bm l:zV}{ps:Led}{ts:List Tri}{n:Nat}(Z:Site w A L h₀) (room:A.depth<zS)
 (hbm:(bm,methodObj (.ref 104) (.ref 150))∈news) (hl:(l,lob (refs ps) n)∈news) (hps:∀ p∈ps,p∈news) (hr:TRows ps ts) (hz:ps.length≤1000)
 (hR:∀ h' t' ms c jk,MRows ms ts→Wk h₀ L h' m ((D,lob (refs ms) c)::(ms++(jk++news)))→R (.ok (.ret .none)) (S σ h' t')):
 ∀ (k i:Nat) (h:Heap) (t:Nat) (ms:Led) (c:Nat) (o:Obj) (jk:Led),ps.length - i=k→i≤ps.length→MRows ms (ts.take i)→liob l i o→
  Wk h₀ L h m ((D,lob (refs ms) c)::(li,o)::(mo,mapob (.ref bm) tp)::(tp,tob [.ref li] 0)::(ms++(jk++news)))→
  codeAny (zW PW w) A (.builtin "list.extend.loop" ⟨[.ref D,.ref mo,.none],[]⟩) R (S σ h t):=by
 have hlen:=hr.len;intro k
 induction k with
 |zero=>
  intro i h t ms c o jk hk hi hm ho W;obtain rfl:i=ps.length:=by (revert hk hi;k_in)
  refine codeAny_builtin PySem.F.entry_extend_loop ?_;rw [Around.under_plainId PySem.F.plain_extend_loop _];show zZ _ A.in1 (pyNext (.ref mo) >>=_) _ _ _
  refine w_b (mp_end (news:=(D,lob (refs ms) c)::(ms++(jk++news))) (l:=l) (vs:=refs ps) (n:=n) (site_in1 Z) (W.perm (by wtm_at "p")) (by wtm_at "m") (by rw [zO];exact ho) fun h' t' W'=>?_);have e:ts.take ps.length=ts:=by rw [hlen,yR]
  rw [e] at hm;exact w_p (hR h' t' ms c ((mo,mapob (.ref bm) tp)::(tp,tob [.ref li] 0)::jk) hm (W'.perm (by wtm_at "p")))
 |succ k ih=>
  intro i h t ms c o jk hk hi hm ho W;have hlt:i<ps.length:=by (revert hk hi;k_in)
  have hp:ps[i]? =some ps[i]:=l_e hlt;obtain ⟨tr,htr,nT,t1,t2,t3,hpt⟩:=hr.at hp
  have hmem:(ps[i].1,tob [.int tr.1 t1,.int tr.2.1 t2,.int tr.2.2 t3] nT)∈news:=by
   have:=hps _ (List.getElem_mem hlt);rw [← hpt];exact this
  refine codeAny_builtin PySem.F.entry_extend_loop ?_;rw [Around.under_plainId PySem.F.plain_extend_loop _];show zZ _ A.in1 (pyNext (.ref mo) >>=_) _ _ _
  refine w_b (mp_item (news:=(D,lob (refs ms) c)::(ms++(jk++news))) (l:=l) (vs:=refs ps) (n:=n) (i:=i) (T:=ps[i].1) (site_in1 Z) (W.perm (by wtm_at "p")) room (by wtm_at "m") (by wtm_at "m") ho (by rw [zF,hp];rfl) (by wtm_at "m") fun M dd o' h' t' jk' ho' W'=>?_);have W1:Wk h₀ L h' m ((D,lob (refs ms) c)::(li,o')::(mo,mapob (.ref bm) tp)::(tp,tob [.ref li] 0)::((ms++[(M,mob dd [.int tr.1 t1,.int tr.2.1 t2,.int tr.2.2 t3])])++((jk'++jk)++news))):=W'.perm (by wtm_at "p");have hD:=W1.get (.head _)
  have hml:ms.length≤1000:=by
   have:=hm.len;rw [yP] at this
   (have q:=hlt;revert this hlen hz q;k_in)
  show zZ _ A.in1 (updateSeq D (·.push (.ref M)) >>=_) _ _ _
  refine w_b ?_;have hu:=get?_update_seq (n:=c) hD fun xs=>xs.push (.ref M)
  have e:(refs ms).toArray.push (.ref M)=(refs (ms++[(M,mob dd [.int tr.1 t1,.int tr.2.1 t2,.int tr.2.2 t3])])).toArray:=by
   simp -iota [refs]
  rw [e] at hu
  refine wpAny_updateSeq (s:=S σ h' t') hD rfl (w_p ⟨plainId_quiet PySem.F.plain_extend_loop _,ih (i+1) _ t' _ _ o' (jk'++jk) (by (have q:=hlt;revert hk hi q;k_in)) hlt ?_ ho' (W1.upd (l_u ..) hu)⟩) (by rw [zI,zO,yF];(revert hml;k_in)) (by
   rw [e,zI,zO,zD,yF];simp;(revert hml;k_in))
  have:ts.take (i+1)=ts.take i++[tr]:=by rw [yS,htr];rfl
  rw [this];exact hm.snoc ⟨dd,t1,t2,t3,rfl⟩
theorem map_iter_self {mo tp:zV}{f:zY}{Q:VP}(hmo:h.get? mo=some (mapob f tp)) (k:Q (.ref mo) (S σ h t)):zZ (zW PW w) A (pyIter (.ref mo)) Q E (S σ h t):=by
 have hT:(S σ h t).TypeIs (.ref mo) "map":=⟨_,hmo,rfl⟩;refine wpAny_pyIter_slot hT map_slot_iter (w_c map_slot_iter hT map_entry_iter ?_ (map_args_iter _));show zZ _ _ (ret (.ref mo)) _ _ (S σ h t)
 exact w_p ⟨_,rfl,"map",_,hT,map_slot_next.lookup,k⟩
theorem map_hint {mo tp:zV}{f:zY}{Q:Bool→zX→Prop}(hmo:h.get? mo=some (mapob f tp)) (k:Q true (S σ h t)):zZ (zW PW w) A (Builtin.List.listLengthHint (.ref mo)) Q E (S σ h t):=by
 have hT:(S σ h t).TypeIs (.ref mo) "map":=⟨_,hmo,rfl⟩;unfold Builtin.List.listLengthHint;refine w_b (wpAny_specialOf hT map_nolen ?_);dsimp only;rw [if_neg (by decide)];rw [if_neg (by decide)];refine w_b (wpAny_specialOf hT map_nohint ?_);exact w_p k
theorem c_listmap {mo tp li bm l:zV}{o:Obj}{ps:Led}{ts:List Tri}{n:Nat}{Q:VP}(Z:Site w A L h₀) (W:Wk h₀ L h m ((mo,mapob (.ref bm) tp)::(tp,tob [.ref li] 0)::(li,o)::news)) (room:A.depth<zS)
 (hbm:(bm,methodObj (.ref 104) (.ref 150))∈news) (hl:(l,lob (refs ps) n)∈news) (hps:∀ p∈ps,p∈news) (hr:TRows ps ts) (hz:ps.length≤1000) (ho:liob l 0 o)
 (k:∀ D h' t' ms c jk,MRows ms ts→Wk h₀ L h' m ((D,lob (refs ms) c)::(ms++(jk++news)))→Q (.ref D) (S σ h' t')):
 zZ (zW PW w) A (call (.type "list") [.ref mo]) Q E (S σ h t):=by
 refine callType_codes (Q₁:=fun obj s₁=>obj= .ref h.objs.size∧s₁=S σ (h.push { cls:=.type "list",data:=.seq #[] }) t) PySem.F.called_list (PySem.F.typeCall_list_1 _) PySem.F.entry_list_init
  (code_list_new _ ⟨rfl,rfl⟩) fun obj s₁ h₁=>?_
 obtain ⟨rfl,rfl⟩:=h₁;have W1:Wk h₀ L _ m ((h.objs.size,lob [] 0)::(mo,mapob (.ref bm) tp)::(tp,tob [.ref li] 0)::(li,o)::news):=W.new (lob [] 0) rfl;have hS:(h.push (lob [] 0)).get? h.objs.size=some (lob [] 0):=W1.get (.head _)
 have hne:h.objs.size≠mo:=fun e=>by
  have:=W1.nd;rw [zM,zJ] at this;exact this.1 (by show h.objs.size∈_;rw [e];exact zN.mpr ⟨(mo,mapob (.ref bm) tp),by wtm_at "m",rfl⟩)
 refine ⟨⟨_,hS,rfl⟩,PySem.F.args_list_init_2 _ _,?_⟩;show zZ _ _ (do let old ← Builtin.List.listItems (.ref h.objs.size);Builtin.List.listUpdate (.ref h.objs.size) (fun _=>#[]);letGo old.toList.reverse;Builtin.List.listExtendWith (.ref h.objs.size) (.ref mo) .none) _ _ (S σ (h.push (lob [] 0)) t)
 refine w_b ?_;unfold Builtin.List.listItems;refine w_b (wpAny_seqItems (s:=S σ (h.push (lob [] 0)) t) hS rfl (w_p ?_));show zZ _ _ (updateSeq h.objs.size (fun _=>#[]) >>=fun _=>letGo (#[]:Array zY).toList.reverse >>=fun _=>Builtin.List.listExtendWith (.ref h.objs.size) (.ref mo) .none) _ _ (S σ (h.push (lob [] 0)) t)
 refine w_b (wpAny_updateSeq (s:=S σ (h.push (lob [] 0)) t) hS rfl ?_);have W2:=W1.upd (l_u ..) (get?_update_seq (n:=0) hS (fun _=>(#[]:Array zY)));refine w_b (wpAny_letGo ?_);unfold Builtin.List.listExtendWith;have hmo2:=W2.get (show (mo,mapob (.ref bm) tp)∈_ by wtm_at "m");refine w_b (wpAny_typeOf (T:="map") ⟨_,hmo2,rfl⟩ ?_);have h1:Builtin.List.listSameRef (.ref h.objs.size) (.ref mo)=false:=by simp [Builtin.List.listSameRef,hne]
 simp -iota only [h1,show (Value.type "map"==Value.type "list")=false by decide,show (Value.type "map"==Value.type "tuple")=false by decide,Bool.or_false,yZ,if_false];refine w_b (map_iter_self (σ:=σ) (t:=t) hmo2 ?_);refine w_b (w_h (map_hint (σ:=σ) (t:=t) hmo2 ?_));rw [if_pos (by simp)];refine w_b (wpAny_rule ?_);refine w_b ?_;show zZ _ _ (updateSeq h.objs.size (·.push .none) >>=fun _=>updateSeq h.objs.size (·.pop)) _ _ _
 have hS2:=W2.get (.head _);refine w_b (wpAny_updateSeq hS2 rfl ?_);have W3:=W2.upd (l_u ..) (yL (Obj.mapSeq (·.push Value.none)) hS2 rfl);have hS3:=W3.get (.head _);refine wpAny_updateSeq (hz:=by seq_fits) hS3 rfl ?_;have W4:=W3.upd (l_u ..) (yL (Obj.mapSeq (·.pop)) hS3 rfl);refine w_p ⟨plainId_quiet PySem.F.plain_extend_loop _,?_⟩;have lp:=mp_loop (R:=wants (fun r s₂=>r= .none∧Q (.ref h.objs.size) s₂) E) (A:=A.in1) (D:=h.objs.size) (mo:=mo) (tp:=tp) (li:=li) (bm:=bm) (l:=l) (ps:=ps) (ts:=ts) (n:=n) (m:=m) (σ:=σ) (site_in1 Z) room hbm hl hps hr hz (fun h' t' ms c jk hm W'=>⟨rfl,k h.objs.size h' t' ms c jk hm W'⟩) ps.length 0 _ t [] _ o [] rfl (Nat.zero_le _) .nil ho (W4.perm (by wtm_at "p"));exact lp
end
end
section
def QRow (p:zV×Obj) (q:Quad):Prop:=∃ n t1 t2 t3 t4,p.2=tob [.int q.1 t1,.int q.2.1 t2,.int q.2.2.1 t3,.int q.2.2.2 t4] n
inductive QRows:Led→List Quad→Prop
 |nil:QRows [] []
 |snoc {p q ps qs}:QRows ps qs→QRow p q→QRows (ps++[p]) (qs++[q])
theorem QRows.len {ps qs} (h:QRows ps qs):ps.length=qs.length:=by
 induction h with
 |nil=>rfl
 |snoc _ _ ih=>simp [ih]
theorem QRows.out {ps qs} (h:QRows ps qs) (hn:ps≠[]):∃ ps' p qs' q,ps=ps'++[p]∧qs=qs'++[q]∧QRows ps' qs'∧QRow p q:=by
 cases h with
 |nil=>exact absurd rfl hn
 |snoc a b=>exact ⟨_,_,_,_,rfl,rfl,a,b⟩
theorem find_flm {P:Params}:findIn (KF PW P) (.ref 257) (zQ "find_longest_match")=some (some (.ref 211)):=by k_ne
def gB (xs ys:List El2) (odd:Int) (qs:List Quad):List Tri:=qs.reverse.flatMap (RB xs ys odd)
theorem gB_snoc {xs ys odd qs q}:gB xs ys odd (qs++[q])=RB xs ys odd q++gB xs ys odd qs:=by unfold gB;simp
section
variable {w:zT}{K:Kd w}{x dx one two bd bj:zV}{od jo:Obj}{ep:Nat}{j bp:zV}{odd:Int}{xs ys:List El2}{rows:List Rw}{g:Heap}
variable {A:zU}{L':zV}{h:Heap}{t:Nat}{σ:zX}{m:NM}{f:zV}{Q:FP}{E:VP}
def GL (x:zV) (la lb:Int) (ql mbl:zV) (m:NM):Prop:=m (zQ "self")=some (.ref x)∧(∃ t1,m (zQ "la")=some (.int la t1))∧(∃ t2,m (zQ "lb")=some (.int lb t2))∧m (zQ "queue")=some (.ref ql)∧m (zQ "matching_blocks")=some (.ref mbl)
inductive JG (xs ys:List El2) (K:Kd w) (odd:Int) (x dx ql mbl:zV) (od:Obj) (q0:Quad) (c:Nat) (m':NM) (news':Led):Prop
 |mk (qs:Led) (quads:List Quad) (ms:Led) (ts:List Tri) (n1 n2:Nat) (jk:Led) (x1:news'=(ql,lob (refs qs) n1)::(mbl,lob (refs ms) n2)::(dx,od)::(qs++(ms++jk))) (x2:QRows qs quads) (x3:∀ q∈quads,Vq xs ys q) (x4:MRows ms ts) (x5:GL x xs.length ys.length ql mbl m') (x6:ts++gB xs ys odd quads=RB xs ys odd q0) (x7:c=qMeas quads) (x8:c≤2*xs.length+1) (x9:(∀ z∈xs,K.ok z.2)∨quads=[q0])
inductive RG (xs ys:List El2) (K:Kd w) (odd:Int) (x dx ql mbl:zV) (od:Obj) (q0:Quad) (m':NM) (news':Led):Prop
 |mk (ms:Led) (n1 n2:Nat) (jk:Led) (x1:news'=(ql,lob [] n1)::(mbl,lob (refs ms) n2)::(dx,od)::(ms++jk)) (x2:MRows ms (RB xs ys odd q0)) (x3:GL x xs.length ys.length ql mbl m') (x4:∀ z∈xs,K.ok z.2)
inductive QX (xs ys:List El2) (odd:Int) (ql mbl dx:zV) (od:Obj) (ms:Led) (n3:Nat) (G:List Tri) (B:Nat) (news':Led):Prop
 |mk (qs:Led) (quads:List Quad) (n:Nat) (jk:Led) (x1:news'=(ql,lob (refs qs) n)::(mbl,lob (refs ms) n3)::(dx,od)::(qs++(ms++jk))) (x2:QRows qs quads) (x3:∀ q∈quads,Vq xs ys q) (x4:gB xs ys odd quads=G) (x5:qMeas quads≤B)
theorem vq_snoc {quads:List Quad}{q:Quad}(h:∀ q∈quads,Vq xs ys q) (hq:Vq xs ys q):∀ z∈quads++[q],Vq xs ys z:=fun z hz=>(zE.mp hz).elim (h z) fun hz=>by rw [zH.mp hz];exact hq
theorem meas_lt {N:Nat}{lo a c hi:Int}(h1:lo≤a) (h2:0<c) (h3:a+c≤hi):N+(2*(a - lo).toNat+1)+(2*(hi - (a+c)).toNat+1)<N+(2*(hi - lo).toNat+1):=by
 obtain ⟨x,hx⟩:=Int.eq_ofNat_of_zero_le (show 0≤a - lo by revert h1;k_in);obtain ⟨y,hy⟩:=Int.eq_ofNat_of_zero_le (show 0≤hi - (a+c) by revert h3;k_in);obtain ⟨z,hz⟩:=Int.eq_ofNat_of_zero_le (show 0≤hi - lo by revert h1 h2 h3;k_in);rw [hx,hy,hz,yV,yV,yV]
 (revert h2 hx hy hz;k_in)
theorem name_row {tl:zV}{a b c d:Int}{t1 t2 t3 t4:Tok}{n:Nat}{rest:Led}(W:Wk g L' h m ((tl,tob [.int a t1,.int b t2,.int c t3,.int d t4] n)::rest)):∃ ot,QRow (tl,ot) (a,b,c,d)∧Wk g L' h m ((tl,ot)::rest):=⟨_,⟨n,t1,t2,t3,t4,rfl⟩,W⟩
theorem gmb_fin {c:Nat}{q0:Quad}{ql mbl:zV}{qs ms jk:Led}{quads:List Quad}{ts:List Tri}{n1 n2:Nat}(hQ:QRows qs quads) (hV:∀ q∈quads,Vq xs ys q) (hMs:MRows ms ts) (gl:GL x xs.length ys.length ql mbl m) (hT:ts++gB xs ys odd quads=RB xs ys odd q0)
 (hc:qMeas quads<c) (hc2:c≤2*xs.length+1) (hok:∀ z∈xs,K.ok z.2) (W:Wk g L' h m ((ql,lob (refs qs) n1)::(mbl,lob (refs ms) n2)::(dx,od)::(qs++(ms++jk)))):
 Tw σ g L' (fun m' news'=>∃ c',c'<c∧JG xs ys K odd x dx ql mbl od q0 c' m' news') (RG xs ys K odd x dx ql mbl od q0) Q .next (S σ h t):=
 tw_next W ⟨qMeas quads,hc,qs,quads,ms,ts,n1,n2,jk,rfl,hQ,hV,hMs,gl,hT,rfl,by revert hc hc2;k_in,.inl hok⟩
theorem gmb_while {q0:Quad}{ql mbl:zV}{n1 n2:Nat}{p0:zV×Obj}{jk:Led}(FA:Frm A (envX n134 (dS (me PW 8 7)) L' f (.ref 217) [])) (KF:KdF K) (KE:KdE K) (Z:Site w A L' g) (W:Wk g L' h m ((ql,lob [.ref p0.1] n1)::(mbl,lob [] n2)::(dx,od)::p0::jk)) (room:A.depth+4<zS) (ru:A.units+180<cLine)
 (hM:∀ H,Kp g H→H.get? dx=some od→Ms w K x dx one two bd bj od jo ep j bp .none odd xs ys rows H) (hx:g.get? x=some (instObj 257 dx)) (sd:Sd od (as5 (.ref j) (.ref one) (.ref two) .none (.ref bd) (.ref bj) (.ref bp)))
 (hp0:QRow p0 q0) (hq0:q0=(0,(xs.length:Int),0,(ys.length:Int))) (zx:xs.length≤50) (gl:GL x xs.length ys.length ql mbl m)
 (ke:∀ e d h' t',okd L' d→Fl A g [(dx,od)] e d h'→(∃ z∈xs,¬ K.ok z.2)→E (.ref e) (S σ h' t'))
 (k:∀ h' t' m' n1 n2 ms jk,MRows ms (RB xs ys odd q0)→(∀ z∈xs,K.ok z.2)→GL x xs.length ys.length ql mbl m'→Wk g L' h' m' ((ql,lob [] n1)::(mbl,lob (refs ms) n2)::(dx,od)::(ms++jk))→
  zZ (zW PW w) A (execs ((dB (me PW 8 7)).drop 6) (envX n134 (dS (me PW 8 7)) L' f (.ref 217) [])) Q E (S σ h' t')):
 zZ (zW PW w) A (execs ((dB (me PW 8 7)).drop 5) (envX n134 (dS (me PW 8 7)) L' f (.ref 217) [])) Q E (S σ h t):=by
 have hv0:Vq xs ys q0:=by subst hq0;exact ⟨⟨yW _,by dsimp only;k_in,yW _⟩,⟨yW _,by dsimp only;k_in,yW _⟩⟩
 have hfl:_≤_:=And.left (RB_facts (odd:=odd) _ q0 hv0 (yX _));have hml:(q0.2.1 - q0.1).toNat=xs.length:=by subst hq0;dsimp only;k_in
 with_unfolding_all refine x_cons ?_
 refine x_whileE (JG xs ys K odd x dx ql mbl od q0) (RG xs ys K odd x dx ql mbl od q0) (qMeas [q0])
  ⟨[p0],[q0],[],[],n1,n2,jk,by rfl,.snoc (ps:=[]) (qs:=[]) .nil hp0,by intro q hq;rw [zH.mp hq];exact hv0,.nil,gl,by simp [gB],rfl,by simp [qMeas];(revert hml;k_in),.inr rfl⟩ W ?_ ?_
 · clear W gl;intro c m₁ news₁ h₁ t₁ j5 W;refine hidw fun QQ RR hX hY=>?_;obtain ⟨qs,quads,ms,ts,n1,n2,jk,rfl,hQ,hV,hMs,⟨f1,⟨t1,f2⟩,⟨t2,f3⟩,f4,f5⟩,hT,rfl,hc,hok⟩:=j5;kd_p;refine tr_list (W.ls (n:=n1) (by wtm_at "m")) (by rw [zO,hQ.len];have:=qMeas_len quads;(revert zx hc this;k_in)) fun t'=>?_;by_cases hq:qs=[]
   · subst hq;have hqd:quads=[]:=List.eq_nil_of_length_eq_zero (by rw [← hQ.len];rfl);subst hqd;rw [if_neg (by simp)];refine hY _ (lv W ⟨ms,n1,n2,jk,rfl,?_,⟨f1,⟨t1,f2⟩,⟨t2,f3⟩,f4,f5⟩,hok.resolve_right (by simp)⟩);have:ts=RB xs ys odd q0:=by rw [← hT];simp [gB]
     rw [← this];exact hMs
   · rw [if_pos (by cases qs with|nil=>exact absurd rfl hq|cons a b=>rfl)];obtain ⟨qs',p,quads',q,rfl,rfl,hQ',nq,u1,u2,u3,u4,hpq⟩:=hQ.out hq;have hpe:p=(p.1,tob [.int q.1 u1,.int q.2.1 u2,.int q.2.2.1 u3,.int q.2.2.2 u4] nq):=by rw [← hpq]
     have hvq:=hV q (by simp);have hV':∀ q∈quads',Vq xs ys q:=fun q hq=>hV q (by simp [hq])
     rw [qMeas_snoc] at hc;have hql:=qMeas_len quads';have hl:=hQ'.len;kd_p;refine g_pop W (show (ql,lob (refs (qs'++[p])) n1)∈_ by wtm_at "m") ?_;with_reducible refine c_b10 ?_
     rw [show refs (qs'++[p])=refs qs'++[.ref p.1] by simp [refs]] at W;refine m_pop W (by rw [zO];(revert zx hc hql hl;k_in)) fun h' n' W'=>?_;wtm_at "w";refine u_tup4 W Z.hh (W.tp (a:=p.1) (vs:=[.int q.1 u1,.int q.2.1 u2,.int q.2.2.1 u3,.int q.2.2.2 u4]) (n:=nq) (by rw [← hpe];simp)) (fun _ _ W'=>?_) (by k_ne) (by k_ne) (by k_ne) (by k_ne) (by k_ne);wtm_at "w";kd_p;with_reducible refine x_asg2 ?_ (by wtm_at "u") (by wtm_at "u")
     kd_p;refine g_meth (f:=211) Z W (W.kp _ _ hx) (W.get (show (dx,od)∈_ by wtm_at "m")) sd (by k_ne) (by k_ne) find_flm (by k_ne) ?_;kd_p;have M:=hM (gnd _ []) (kpu (mu:=[]) W) (gndall (mu:=[]) W (show (dx,od)∈_ by wtm_at "m"));obtain ⟨v1,v2⟩:=id hvq;refine flm_spec KF KE Z W (by lia) (by lia) M v1 v2 (fun e h' t' y _ hb=>?_) fun X dd h' t' s1 s2 s3 jk' W' hokq=>?_
     · refine fl_loop' (L:=L') FA (by rfl) y trivial fun h'' y2 _=>ke _ _ _ _ (by rfl) (y2.sub (by intro z hz;simp only [zL,List.not_mem_nil,or_false] at hz;subst hz;wtm_at "m")) ?_
       obtain ⟨p,p1,p2,p3⟩:=hb;obtain ⟨z,hz,_,_,hzn⟩:=get_el (xs:=xs) (i:=p) (by revert v1 p1;k_in) (by revert v1 p2;k_in);exact ⟨z,hz,by rw [← hzn];exact p3⟩
     · have hok':∀ z∈xs,K.ok z.2:=by
        rcases hok with hok|hok
        · exact hok
        · intro z hz;obtain ⟨i,hi,rfl⟩:=List.mem_iff_getElem.mp hz
          have hqq:q=q0:=by
           have:quads'++[q]=[]++[q0]:=hok;exact (List.append_inj' this rfl).2 |> fun e=>by simpa using e
          have:=hokq i (by rw [hqq,hq0];dsimp only;k_in) (by rw [hqq,hq0];dsimp only;lia);rw [nAt_of (y:=xs[i]) (by simp [hi])] at this;exact this
       have ib:=flq_inB (odd:=odd) hvq;rw [show flm xs ys odd q.1 q.2.1 q.2.2.1 q.2.2.2=flq xs ys odd q from rfl] at W';obtain ⟨⟨sa,sb,sc⟩,hs⟩:∃ s,flq xs ys odd q=s:=⟨_,rfl⟩;rw [hs] at W' ib;obtain ⟨i1,i2,i3,i4,i5⟩:=ib;dsimp only at W' i1 i2 i3 i4 i5;wtm_at "w";rw [gB_snoc] at hT;have hTl:ts.length+(RB xs ys odd q).length+(gB xs ys odd quads').length=(RB xs ys odd q0).length:=by rw [← hT];simp;k_in
       have hmlen:=hMs.len;refine u_mob3 Z W (W.get (.head _)) (fun _ _ W'=>?_) (by k_ne) (by k_ne) (by k_ne) (by k_ne);wtm_at "w";kd_p;refine tr_int ?_;refine ite_d (fun hsc=>?_) (fun hsc=>?_)
       · have hmore:=RB_more (odd:=odd) hvq (by rw [hs];exact hsc);rw [hs] at hmore;kd_p;replace W:=W.perm (news':=(mbl,lob (refs ms) n2)::(ql,lob (refs qs') n')::(dx,od)::(qs'++((ms++[(X,mob dd [.int sa s1,.int sb s2,.int sc s3])])++(p::(jk'++jk))))) (by wtm_at "p");refine m_append W (by rw [zO];(revert zx hfl hml hTl hmlen;k_in)) fun h' n3 W'=>?_;rw [show refs ms++[.ref X]=refs (ms++[(X,mob dd [.int sa s1,.int sb s2,.int sc s3])]) by simp [refs]] at W';wtm_at "w";have hMs':MRows (ms++[(X,mob dd [.int sa s1,.int sb s2,.int sc s3])]) (ts++[(sa,sb,sc)]):=hMs.snoc ⟨dd,s1,s2,s3,rfl⟩;generalize hmX:ms++[(X,mob dd [.int sa s1,.int sb s2,.int sc s3])]=mX at W hMs';have vr:=vR (odd:=odd) hvq;have vl:=vL (odd:=odd) hvq;rw [hs] at vr vl;obtain ⟨jX,hjX⟩:∃ j,p::(jk'++jk)=j:=⟨_,rfl⟩;with_reducible refine x_next ?_
         refine x_joinM (σ:=σ) (QX xs ys odd ql mbl dx od mX n3 ((if cL (sa,sb,sc) q then RB xs ys odd (qL (sa,sb,sc) q) else [])++gB xs ys odd quads') (qMeas quads'+(2*(sa - q.1).toNat+1))) W ?_ ?_
         · kd_p
           · have hcl:cL (sa,sb,sc) q:=‹_∧_›;kd_p;with_reducible rename zV=>tl
             obtain ⟨ol,hrl,W'⟩:=name_row W;wtm_at "w";replace W:=W.perm (news':=(ql,lob (refs qs') n')::(mbl,lob (refs mX) n3)::(tl,ol)::(dx,od)::(qs'++(mX++jX))) (by rw [← hmX,← hjX];wtm_at "p");refine m_append W (by rw [zO];(revert zx hc hql hl;k_in)) fun h' n5 W'=>?_;rw [show refs qs'++[.ref tl]=refs (qs'++[(tl,ol)]) by simp [refs]] at W';wtm_at "w";kd_p;refine jn (W.perm (by wtm_at "p")) ⟨rfl,qs'++[(tl,ol)],quads'++[qL (sa,sb,sc) q],n5,jX,rfl,hQ'.snoc hrl,vq_snoc hV' (vl hcl),by rw [gB_snoc,if_pos hcl],by rw [qMeas_snoc];exact yX _⟩
           · have hcl:¬ cL (sa,sb,sc) q:=‹¬ (_∧_)›;kd_p;refine jn (W.perm (by rw [← hmX,← hjX];wtm_at "p")) ⟨rfl,qs',quads',n',jX,rfl,hQ',hV',by rw [if_neg hcl,List.nil_append],Nat.le_add_right ..⟩
         · clear W;intro h' t' news' hP W;obtain ⟨qs2,quads2,n2',jk2,rfl,hQ2,hV2,hG2,hB2⟩:=hP;refine x_joinM (σ:=σ) (QX xs ys odd ql mbl dx od mX n3 ((if cR (sa,sb,sc) q then RB xs ys odd (qR (sa,sb,sc) q) else [])++gB xs ys odd quads2) (qMeas quads2+(2*(q.2.1 - (sa+sc)).toNat+1))) W ?_ ?_
           · have hl2:=hQ2.len;have hql2:=qMeas_len quads2;kd_p
             · have hcr:cR (sa,sb,sc) q:=‹_∧_›;kd_p;with_reducible rename zV=>tl
               obtain ⟨ol,hrl,W'⟩:=name_row W;wtm_at "w";replace W:=W.perm (news':=(ql,lob (refs qs2) n2')::(mbl,lob (refs mX) n3)::(tl,ol)::(dx,od)::(qs2++(mX++jk2))) (by wtm_at "p");refine m_append W (by rw [zO];(rename_i z3 _ _ _;revert zx hc v1 i5 hsc hB2 hl2 hql2 z3;k_in)) fun h' n5 W'=>?_;rw [show refs qs2++[.ref tl]=refs (qs2++[(tl,ol)]) by simp [refs]] at W';wtm_at "w";kd_p;refine jn (W.perm (by wtm_at "p")) ⟨rfl,qs2++[(tl,ol)],quads2++[qR (sa,sb,sc) q],n5,jk2,rfl,hQ2.snoc hrl,vq_snoc hV2 (vr hcr),by rw [gB_snoc,if_pos hcr],by rw [qMeas_snoc];exact yX _⟩
             · have hcr:¬ cR (sa,sb,sc) q:=‹¬ (_∧_)›;kd_p;refine jn W ⟨rfl,qs2,quads2,n2',jk2,rfl,hQ2,hV2,by rw [if_neg hcr,List.nil_append],Nat.le_add_right ..⟩
           · clear W;intro h' t' news' hP W;obtain ⟨qs3,quads3,n3',jk3,rfl,hQ3,hV3,hG3,hB3⟩:=hP;kd_p;refine hX _ _ (gmb_fin hQ3 hV3 hMs' ⟨by k_is,⟨_,by k_is⟩,⟨_,by k_is⟩,by k_is,by k_is⟩ ?_ ?_ (by rw [qMeas_snoc];exact hc) hok' W)
             · rw [hG3,hG2,← hT,hmore];simp
             · rw [qMeas_snoc];exact Nat.lt_of_le_of_lt (Nat.le_trans hB3 (Nat.add_le_add_right hB2 _)) (meas_lt i1 (by revert i5 hsc;k_in) i2)
       · have hzero:=RB_zero (odd:=odd) (q:=q) (by rw [hs];simpa using hsc);rw [hzero,List.nil_append] at hT;kd_p;refine hX _ _ (gmb_fin (ms:=ms) (jk:=(p::(X,mob dd [.int sa s1,.int sb s2,.int sc s3])::(jk'++jk))) hQ' hV' hMs ⟨by k_is,⟨_,by k_is⟩,⟨_,by k_is⟩,by k_is,by k_is⟩ hT (by rw [qMeas_snoc];k_in) (by rw [qMeas_snoc];exact hc) hok' (W.perm (by wtm_at "p")))
 · clear W gl;rintro h' t' m' news' ⟨ms,n1,n2,jk,rfl,hMs,gl,hok⟩ W;with_reducible refine x_next ?_
   with_unfolding_all exact k _ _ _ _ _ _ _ hMs hok gl W
end
end
section
noncomputable def mgStep (st:Tri×List Tri) (b:Tri):Tri×List Tri:=if st.1.1+st.1.2.2=b.1∧st.1.2.1+st.1.2.2=b.2.1 then ((st.1.1,st.1.2.1,st.1.2.2+b.2.2),st.2) else (b,if st.1.2.2≠0 then st.2++[st.1] else st.2)
def merged (ts:List Tri):Tri×List Tri:=ts.foldl mgStep ((0,0,0),[])
def joinAll (la lb:Int) (ts:List Tri):List Tri:=(if (merged ts).1.2.2≠0 then (merged ts).2++[(merged ts).1] else (merged ts).2)++[(la,lb,0)]
theorem merged_len (ts:List Tri):∀ (i:Nat),((ts.take i).foldl mgStep ((0,0,0),[])).2.length≤i:=by
 intro i
 have:∀ (l:List Tri) (st:Tri×List Tri),(l.foldl mgStep st).2.length≤st.2.length+l.length:=by
  intro l
  induction l with
  |nil=>intro st;simp
  |cons b l ih=>
   intro st;rw [xZ];refine Nat.le_trans (ih _) ?_;unfold mgStep;split
   · simp only [yU];k_in
   · dsimp only;split <;> simp only [yU,zD,yA] <;> k_in
 refine Nat.le_trans (this _ _) ?_;simp only [yA,Nat.zero_add,yP];exact Nat.min_le_left ..
section
variable {w:zT}{x dx:zV}{od:Obj}{g:Heap}{A:zU}{L':zV}{h:Heap}{t:Nat}{σ:zX}{m:NM}{f:zV}{Q:FP}{E:VP}
def GM (x nl:zV) (la lb:Int) (st:Tri) (m:NM):Prop:=m (zQ "self")=some (.ref x)∧(∃ t1,m (zQ "la")=some (.int la t1))∧(∃ t2,m (zQ "lb")=some (.int lb t2))∧m (zQ "non_adjacent")=some (.ref nl)∧
 (∃ t3,m (zQ "i1")=some (.int st.1 t3))∧(∃ t4,m (zQ "j1")=some (.int st.2.1 t4))∧(∃ t5,m (zQ "k1")=some (.int st.2.2 t5))
theorem name_trow {tl:zV}{a b c:Int}{t1 t2 t3:Tok}{n:Nat}{rest:Led}(W:Wk g L' h m ((tl,tob [.int a t1,.int b t2,.int c t3] n)::rest)):∃ ot,TRow (tl,ot) (a,b,c)∧Wk g L' h m ((tl,ot)::rest):=⟨_,⟨n,t1,t2,t3,rfl⟩,W⟩
inductive MI (x nl mbl dx:zV) (la lb:Int) (od:Obj) (ms':Led) (n3:Nat) (ts':List Tri) (i:Nat) (m':NM) (news':Led):Prop
 |mk (ps:Led) (n:Nat) (st:Tri×List Tri) (jk:Led) (x1:news'=(nl,lob (refs ps) n)::(mbl,lob (refs ms') n3)::(dx,od)::(ps++(ms'++jk))) (x2:TRows ps st.2) (x3:(ts'.take i).foldl mgStep ((0,0,0),[])=st) (x4:GM x nl la lb st.1 m')
inductive PX (nl mbl dx:zV) (od:Obj) (ms':Led) (n3:Nat) (own:Led) (acc:List Tri) (news':Led):Prop
 |mk (ps:Led) (n:Nat) (jk:Led) (x1:news'=own++((nl,lob (refs ps) n)::(mbl,lob (refs ms') n3)::(dx,od)::(ps++(ms'++jk)))) (x2:TRows ps acc)
theorem gmb_merge {la lb:Int}{ql mbl:zV}{n1 n2:Nat}{ts:List Tri}{ms jk:Led}(Z:Site w A L' g) (W:Wk g L' h m ((ql,lob [] n1)::(mbl,lob (refs ms) n2)::(dx,od)::(ms++jk))) (ru:A.units+180<cLine)
 (hms:MRows ms ts) (hz:ms.length<60) (nd:(ts.map (·.1)).Nodup) (gl:GL x la lb ql mbl m)
 (k:∀ h' t' m' nl n ps ts' jk,ts'.Perm ts→ts'.Pairwise (fun a b=>a.1<b.1)→TRows ps (joinAll la lb ts')→ps.length≤100→m' (zQ "self")=some (.ref x)→m' (zQ "non_adjacent")=some (.ref nl)→Wk g L' h' m' ((nl,lob (refs ps) n)::(dx,od)::(ps++jk))→
  zZ (zW PW w) A (execs ((dB (me PW 8 7)).drop 12) (envX n134 (dS (me PW 8 7)) L' f (.ref 217) [])) Q E (S σ h' t')):
 zZ (zW PW w) A (execs ((dB (me PW 8 7)).drop 6) (envX n134 (dS (me PW 8 7)) L' f (.ref 217) [])) Q E (S σ h t):=by
 obtain ⟨f1,⟨t1,f2⟩,⟨t2,f3⟩,f4,f5⟩:=gl;with_unfolding_all refine x_cons ?_
 kd_p;refine g_sort W (show (mbl,lob (refs ms) n2)∈_ by wtm_at "m") ?_;with_reducible refine c_b10 ?_
 refine m_sort Z (W.perm (news':=(mbl,lob (refs ms) n2)::(ms++((ql,lob [] n1)::(dx,od)::jk))) (by wtm_at "p")) hms (by lia) (by lia) nd fun h' n3 ms' ts' hms' hl hp hpw W'=>?_;wtm_at "w";kd_p;with_reducible refine x_asg3 ?_ (by wtm_at "u") (by wtm_at "u")
 kd_p;with_reducible rename zV=>nl
 refine x_for ?_ (by intro _;rfl);kd_p
 refine for_listT (MI x nl mbl dx la lb od ms' n3 ts')
  (W.perm (news':=(nl,lob [] 0)::(mbl,lob (refs ms') n3)::(dx,od)::([]++(ms'++((ql,lob [] n1)::jk)))) (by wtm_at "p")) Z.hh (W.ls (n:=n3) (by wtm_at "m")) (fun i m' news' own' h' hJ W'=>?_) ⟨[],0,((0,0,0),[]),_,rfl,.nil,by rfl,by k_is,⟨_,by k_is⟩,⟨_,by k_is⟩,by k_is,⟨_,by k_is⟩,⟨_,by k_is⟩,⟨_,by k_is⟩⟩ ?_ ?_
 · obtain ⟨ps,n,st,jk,rfl,-⟩:=hJ;exact W'.ls (n:=n3) (by wtm_at "m")
 · clear W;intro i v m₁ news₁ own₁ h₁ t₁ E' hi hv j10 W;refine hid fun QQ hQ=>?_;obtain ⟨ps,n,⟨⟨i1,j1,k1⟩,acc⟩,jk,rfl,hps,hst,g1,⟨u1,g2⟩,⟨u2,g3⟩,g4,⟨u3,g5⟩,⟨u4,g6⟩,⟨u5,g7⟩⟩:=j10;dsimp only at hps g5 g6 g7;have hi':i<ms'.length:=by rw [zO] at hi;exact hi
   have hmi:ms'[i]? =some ms'[i]:=l_e hi';rw [zF,hmi] at hv;obtain rfl:=l_j hv;obtain ⟨⟨i2,j2,k2⟩,htr,dd,s1,s2,s3,hob⟩:=hms'.at hmi;dsimp only at hob;have hmem:(ms'[i].1,mob dd [.int i2 s1,.int j2 s2,.int k2 s3])∈ms':=by rw [← hob];exact List.getElem_mem hi'
   have hlen:=hps.len;have hacc:acc.length≤i:=by have:=merged_len ts' i;rw [hst] at this;exact this
   have hnext:∀ st',mgStep ((i1,j1,k1),acc) (i2,j2,k2)=st'→(ts'.take (i+1)).foldl mgStep ((0,0,0),[])=st':=by
    rintro st' rfl;rw [yS,htr,List.foldl_append,hst];rfl
   refine u_mob3 Z W (W.get (by wtm_at "m")) (fun _ _ W'=>?_) (by k_ne) (by k_ne) (by k_ne) (by k_ne);wtm_at "w";iterate 4 k_go
   · have c12:=‹i1+k1=i2∧j1+k1=j2›;kd_p;refine hQ _ _ (tn_next (news:=(nl,lob (refs ps) n)::(mbl,lob (refs ms') n3)::(dx,od)::(ps++(ms'++jk))) W ⟨ps,n,((i1,j1,k1+k2),acc),jk,rfl,hps,hnext _ (by unfold mgStep;rw [if_pos c12]),by k_is,⟨_,by k_is⟩,⟨_,by k_is⟩,by k_is,⟨_,by k_is⟩,⟨_,by k_is⟩,⟨_,by k_is⟩⟩)
   · have hno:=‹¬ (i1+k1=i2∧j1+k1=j2)›;refine x_joinM (σ:=σ) (PX nl mbl dx od ms' n3 own₁ (if k1≠0 then acc++[(i1,j1,k1)] else acc)) W ?_ ?_
     · kd_p;refine tr_int ?_;refine ite_d (fun hk=>?_) (fun hk=>?_)
       · kd_p;with_reducible rename zV=>tl
         obtain ⟨ot,hrow,W'⟩:=name_trow W;wtm_at "w";replace W:=W.perm (news':=(nl,lob (refs ps) n)::(tl,ot)::(own₁++((mbl,lob (refs ms') n3)::(dx,od)::(ps++(ms'++jk))))) (by wtm_at "p");refine m_append W (by rw [zO];lia) fun h' n5 W'=>?_;rw [show refs ps++[.ref tl]=refs (ps++[(tl,ot)]) by simp [refs]] at W';wtm_at "w";kd_p;refine jn (W.perm (by wtm_at "p")) ⟨rfl,ps++[(tl,ot)],n5,jk,rfl,by rw [if_pos hk];exact hps.snoc hrow⟩
       · kd_p;refine jn W ⟨rfl,ps,n,jk,rfl,by rw [if_neg hk];exact hps⟩
     · clear W;intro h' t' news' hP W;obtain ⟨ps2,n2,jk2,rfl,hps2⟩:=hP;kd_p;refine hQ _ _ (tn_next (news:=(nl,lob (refs ps2) n2)::(mbl,lob (refs ms') n3)::(dx,od)::(ps2++(ms'++jk2))) W ⟨ps2,n2,((i2,j2,k2),(if k1≠0 then acc++[(i1,j1,k1)] else acc)),jk2,rfl,hps2,hnext _ (if_neg hno),by k_is,⟨_,by k_is⟩,⟨_,by k_is⟩,by k_is,⟨_,by k_is⟩,⟨_,by k_is⟩,⟨_,by k_is⟩⟩)
 · clear W;rintro h' t' m' news' ⟨ps,n,⟨⟨i1,j1,k1⟩,acc⟩,jk,rfl,hps,hst,g1,⟨u1,g2⟩,⟨u2,g3⟩,g4,⟨u3,g5⟩,⟨u4,g6⟩,⟨u5,g7⟩⟩ W;dsimp only at hps g5 g6 g7
   have hfull:merged ts'=((i1,j1,k1),acc):=by
    unfold merged;rw [zO,hms'.len,yR] at hst;exact hst
   have hacc:=merged_len ts' ts'.length;rw [yR] at hacc;rw [show ts'.foldl mgStep ((0,0,0),[])=((i1,j1,k1),acc) from hfull] at hacc;dsimp only at hacc;have hlen2:=hms'.len;have hlen:=hps.len;with_reducible refine x_next ?_
   refine x_joinM (σ:=σ) (PX nl mbl dx od ms' n3 [] (if k1≠0 then acc++[(i1,j1,k1)] else acc)) W ?_ ?_
   · kd_p;refine tr_int ?_;refine ite_d (fun hk=>?_) (fun hk=>?_)
     · kd_p;with_reducible rename zV=>tl
       obtain ⟨ot,hrow,W'⟩:=name_trow W;wtm_at "w";replace W:=W.perm (news':=(nl,lob (refs ps) n)::(tl,ot)::((mbl,lob (refs ms') n3)::(dx,od)::(ps++(ms'++jk)))) (by wtm_at "p");refine m_append W (by rw [zO];(revert hz hl hacc hlen2 hlen;k_in)) fun h' n5 W'=>?_;rw [show refs ps++[.ref tl]=refs (ps++[(tl,ot)]) by simp [refs]] at W';wtm_at "w";kd_p;refine jn (W.perm (by wtm_at "p")) ⟨rfl,ps++[(tl,ot)],n5,jk,rfl,by rw [if_pos hk];exact hps.snoc hrow⟩
     · kd_p;refine jn W ⟨rfl,ps,n,jk,rfl,by rw [if_neg hk];exact hps⟩
   · clear W;intro h' t' news' hP W;obtain ⟨ps2,n2,jk2,rfl,hps2⟩:=hP;have hlen:=hps2.len;have hl2:(if k1≠0 then acc++[(i1,j1,k1)] else acc).length≤acc.length+1:=by split <;> simp
     kd_p;with_reducible rename zV=>tk
     obtain ⟨ok,hrk,W'⟩:=name_trow W;wtm_at "w";replace W:=W.perm (news':=(nl,lob (refs ps2) n2)::(tk,ok)::((mbl,lob (refs ms') n3)::(dx,od)::(ps2++(ms'++jk2)))) (by wtm_at "p");refine m_append W (by rw [zO];(revert hz hl hacc hlen2 hlen hl2;k_in)) fun h' n6 W'=>?_;rw [show refs ps2++[.ref tk]=refs (ps2++[(tk,ok)]) by simp [refs]] at W';wtm_at "w";with_reducible refine x_next ?_
     with_unfolding_all exact k _ _ _ nl n6 (ps2++[(tk,ok)]) ts' ((mbl,lob (refs ms') n3)::(ms'++jk2)) hp hpw (by unfold joinAll;rw [hfull];exact hps2.snoc hrk) (by rw [zD,List.length_singleton];(revert hz hl hacc hlen2 hlen hl2;k_in)) (by k_is) (by k_is) (W.perm (by wtm_at "p"))
end
end
section
theorem Wk.rot {h₀ L h m} {a b c:zV×Obj}{r:Led}(W:Wk h₀ L h m (a::b::c::r)):Wk h₀ L h m (c::b::a::r):=W.perm (by wtm_at "p")
theorem find_make {P:Params}:findCls (KF PW P) (.ref 150) (.type "type") (PySem.Str.ofString "_make")=some (.get (.builtin "classmethod.__get__") (.ref 106) .none (.ref 150)):=by k_ne
section
variable {w:zT}{K:Kd w}{x dx one two bd bj:zV}{od jo:Obj}{ep:Nat}{j bp:zV}{odd:Int}{xs ys:List El2}{rows:List Rw}{g:Heap}
variable {A:zU}{L':zV}{h:Heap}{t:Nat}{σ:zX}{m:NM}{f:zV}{Q:FP}{E:VP}
theorem g_make {h₀:Heap}{L:zV}{news:Led}{expr:Bool}{Q:VP}(Z:Site w A L h₀) (W:Wk h₀ L h m news) (k:∀ bm h' t',Wk h₀ L h' m ((bm,methodObj (.ref 104) (.ref 150))::news)→Q (.ref bm) (S σ h' t')):
 zZ (zW PW w) A (getAttr (.ref 150) (zQ "_make") expr) Q E (S σ h t):=
 cls_cm (s:=S σ h t) (p:=106) (f:=.ref 104) (rest:=[.bool false]) W.fr Z.X W.nw (by k_ne) (by k_ne) find_make (by k_ne) fun bm h' F' N' lt=>k bm h' _ ⟨F',N',by
  rw [zM,zJ];refine ⟨fun q=>?_,W.nd⟩;obtain ⟨p,hp,e⟩:=zN.mp q;have:=lt p hp;rw [e] at this
  exact yY _ this⟩
def GmbR (xs ys:List El2) (odd:Int) (q0:Quad) (bs:List Tri):Prop:=∃ ts',ts'.Perm (RB xs ys odd q0)∧ts'.Pairwise (fun a b=>a.1<b.1)∧bs=joinAll xs.length ys.length ts'
theorem gmb_body (FA:Frm A (envX n134 (dS (me PW 8 7)) L' f (.ref 217) [])) (KF:KdF K) (KE:KdE K) (Z:Site w A L' g) (W:Wk g L' h m [(dx,od)]) (room:A.depth+4<zS) (ru:A.units+180<cLine)
 (hM:∀ H,Kp g H→H.get? dx=some od→Ms w K x dx one two bd bj od jo ep j bp .none odd xs ys rows H) (hx:g.get? x=some (instObj 257 dx)) (sd:Sd od (as5 (.ref j) (.ref one) (.ref two) .none (.ref bd) (.ref bj) (.ref bp)))
 (h1:∃ n,g.get? one=some (lob (xs.map (·.1)) n)) (h2:∃ n,g.get? two=some (lob (ys.map (·.1)) n)) (zx:xs.length≤50) (zy:ys.length≤50) (e0:m (zQ "self")=some (.ref x))
 (ke:∀ e d h' t',okd L' d→Fl A g [(dx,od)] e d h'→(∃ z∈xs,¬ K.ok z.2)→E (.ref e) (S σ h' t'))
 (k:∀ h' t' m' D n ms bs od' jk,GmbR xs ys odd (0,(xs.length:Int),0,(ys.length:Int)) bs→MRows ms bs→(∀ z∈xs,K.ok z.2)→Wk g L' h' m' ((D,lob (refs ms) n)::(dx,od')::(ms++jk))→Q (.ret (.ref D)) (S σ h' t')):
 zZ (zW PW w) A (execs (dB (me PW 8 7)) (envX n134 (dS (me PW 8 7)) L' f (.ref 217) [])) Q E (S σ h t):=by
 obtain ⟨m1,h1⟩:=h1;obtain ⟨m2,h2⟩:=h2;have hL1:Ls g one (xs.map (·.1)):=⟨_,h1,rfl,_,rfl⟩;have hL2:Ls g two (ys.map (·.1)):=⟨_,h2,rfl,_,rfl⟩;with_unfolding_all refine x_cons ?_
 kd_p;k_call_by "gat" (.none);kd_p;with_reducible refine isnot_nn ?_
 kd_p;with_reducible refine x_swap2 ?_ Z (by wtm_at "u") (by wtm_at "u") (by k_ne) (by k_ne) (by k_ne)
 kd_p;k_call_by "gat" (.ref one);kd_p;refine b_len (hL1.kp W.kp) (by rw [zO];lia) fun _ _=>?_;rw [zO];kd_p;k_call_by "gat" (.ref two);kd_p;refine b_len (hL2.kp W.kp) (by rw [zO];lia) fun _ _=>?_;rw [zO];kd_p;refine sw2_mk W fun _ _ W'=>?_;wtm_at "w";iterate 11 k_go
 with_reducible rename zV=>ql
 obtain ⟨qt,rfl⟩:∃ x,x=nt:=⟨_,rfl⟩;iterate 7 k_go
 with_reducible rename zV=>mbl
 obtain ⟨qo,hqo,W'⟩:=name_row W.rot;wtm_at "w";with_unfolding_all refine gmb_while (p0:=(qt,qo)) (q0:=(0,(xs.length:Int),0,(ys.length:Int))) (ql:=ql) (mbl:=mbl) (jk:=[]) FA KF KE Z (W.perm (by wtm_at "p")) room ru hM hx sd hqo rfl zx ⟨by k_is,⟨_,by k_is⟩,⟨_,by k_is⟩,by k_is,by k_is⟩ ke fun h' t' m' n1 n2 ms jk hms hok gl W=>?_
 have hv0:Vq xs ys (0,(xs.length:Int),0,(ys.length:Int)):=⟨⟨yW _,by dsimp only;k_in,yW _⟩,⟨yW _,by dsimp only;k_in,yW _⟩⟩;obtain ⟨hfl,hnd,-⟩:=RB_facts (odd:=odd) _ _ hv0 (yX _);dsimp only at hfl;refine gmb_merge Z W ru hms (by rw [hms.len];(revert zx hfl;k_in)) hnd gl fun h' t' m' nl n ps ts' jk hp hpw hps hpz e1 e2 W=>?_;clear gl;with_unfolding_all refine x_cons ?_
 with_reducible refine x_asgA ?_ (by wtm_at "u")
 kd_p;with_reducible refine r_attr ?_
 k_go;refine g_make Z W fun bm h' t' W'=>?_;wtm_at "w";kd_p;refine c_map W (W.ls (n:=n) (by wtm_at "m")) fun mo tp li o h' hlo W' _=>?_;wtm_at "w";kd_p;refine c_listmap (ps:=ps) (ts:=joinAll xs.length ys.length ts') (l:=nl) (n:=n) Z W (by lia) (by wtm_at "m") (by wtm_at "m") (fun p hp=>by wtm_at "m") hps (by lia) hlo fun D h' t' ms2 c jk2 hm2 W'=>?_;wtm_at "w";replace W:=W.perm (news':=(dx,od)::(D,lob (refs ms2) c)::(ms2++(jk2++((bm,methodObj (.ref 104) (.ref 150))::(nl,lob (refs ps) n)::(ps++jk))))) (by wtm_at "p");kd_p;wtm_at "z";replace sd:=sdc (bs:=as5 (.ref j) (.ref one) (.ref two) (.ref D) (.ref bd) (.ref bj) (.ref bp)) sd (by k_ne);kd_p;k_call_by "gat" (.ref D);kd_p;exact k _ _ _ D c ms2 _ _ _ ⟨ts',hp,hpw,rfl⟩ hm2 hok (W.perm (news':=(D,lob (refs ms2) c)::(dx,od')::(ms2++(jk2++((bm,methodObj (.ref 104) (.ref 150))::(nl,lob (refs ps) n)::(ps++jk))))) (by wtm_at "p"))
end
end
section
section
variable {w:zT}{K:Kd w}{x dx one two bd bj:zV}{od jo:Obj}{ep:Nat}{j bp:zV}{odd:Int}{xs ys:List El2}{rows:List Rw}{h₀:Heap}
variable {A:zU}{L:zV}{h:Heap}{t:Nat}{σ:zX}{m:NM}{rest:Led}{Q E:VP}
def MsL (w:zT) (K:Kd w) (x dx one two bd bj:zV) (od jo:Obj) (ep:Nat) (j bp:zV) (odd:Int) (xs ys:List El2) (rows:List Rw) (h₀:Heap) (rest:Led):Prop:=
 Sd od (as5 (.ref j) (.ref one) (.ref two) .none (.ref bd) (.ref bj) (.ref bp))∧
 ∀ H,Kp h₀ H→(∀ p∈rest,H.get? p.1=some p.2)→(H.get? x=some (instObj 257 dx)∧(∃ n,H.get? one=some (lob (xs.map (·.1)) n))∧(∃ n,H.get? two=some (lob (ys.map (·.1)) n)))∧
  (H.get? dx=some od→Ms w K x dx one two bd bj od jo ep j bp .none odd xs ys rows H)
theorem gmb_spec (KF:KdF K) (KE:KdE K) (Z:Site w A L h₀) (W:Wk h₀ L h m ((dx,od)::rest)) (room:A.depth+5<zS) (ru:A.units+190<cLine) (M:MsL w K x dx one two bd bj od jo ep j bp odd xs ys rows h₀ rest) (zx:xs.length≤50) (zy:ys.length≤50)
 (ke:∀ e h' t',Fl A h₀ ((dx,od)::rest) e .fly h'→h'.Ns L m→(∃ z∈xs,¬ K.ok z.2)→E (.ref e) (S σ h' t'))
 (k:∀ h' t' D n ms bs od' jk,GmbR xs ys odd (0,(xs.length:Int),0,(ys.length:Int)) bs→MRows ms bs→(∀ z∈xs,K.ok z.2)→Wk h₀ L h' m ((D,lob (refs ms) n)::(dx,od')::(ms++(jk++rest)))→Q (.ref D) (S σ h' t')):
 zZ (zW PW w) A (call (.ref 218) [.ref x]) Q E (S σ h t):=by
 obtain ⟨sd,M⟩:=M;have hb:Kp h₀ (gnd h [(dx,od)]):=kpu (mu:=[(dx,od)]) W;have hr:∀ p∈rest,(gnd h [(dx,od)]).get? p.1=some p.2:=fun p hp=>gndall (mu:=[(dx,od)]) W hp
 obtain ⟨⟨hx,h1,h2⟩,-⟩:=M _ hb hr
 refine fn_genE (mu:=[(dx,od)]) (rest:=rest) (binds:=[(zQ "self",.ref x)]) [(dx,od)] (∃ z∈xs,¬ K.ok z.2) Z W (by lia) (by rfl) (by k_ne) (BindsTo.of_eq (by k_ne)) (locs (by k_ne)) (by decide) (by k_ne) (by k_ne) (by k_ne)
  (fun e h' t' x y hb=>ke e h' t' x y hb) fun L' h₁ t₁ et FA SBf Z' W'=>
  gmb_body (K:=K) (x:=x) (dx:=dx) (one:=one) (two:=two) (bd:=bd) (bj:=bj) (od:=od) (jo:=jo) (ep:=ep) (j:=j) (bp:=bp) (odd:=odd) (xs:=xs) (ys:=ys) (rows:=rows) FA KF KE Z' W' (by show A.depth+1+4<_;lia) (by show A.units+3+180<_;lia)
   (fun H k1 hd=>(M H (hb.trans k1) fun p hp=>k1 _ _ (hr p hp)).2 hd) hx sd h1 h2 zx zy (by k_ne)
   (fun e d h' t' hd x hb=>⟨e,d,h',t',rfl,rfl,hd,x,hb⟩) fun h' t' m' D n ms bs od' jk hbs hms hok W₂=>⟨h',t',_,_,rfl,W₂,fun W₃=>k h' t' D n ms bs od' jk hbs hms hok (by simpa using W₃)⟩
end
end
section
open PyProof.Rows.LCg PyProof.Rows.LCt
section
variable {w:zT}{A:zU}{E:VP}{σ:zX}{h₀ h:Heap}{t:Nat}{L:zV}{m:NM}{news:Led}{env:Env}{elt ct:Expr}{x:Str}{scope:Scope}{cl:List (Str×zV)}
def CE (σ:zX) (h₀:Heap) (L:zV) (m:NM) (I:zV) (oI:Obj) (C:zV) (oC:Obj) (D:zV) (ys:List zY) (J:zY→Led→Prop):VP:=fun y s'=>
 ∃ h' t' news',s'=S σ h' t'∧Wk h₀ L h' m ((I,oI)::(C,oC)::(D,lst ys)::news')∧J y news'
theorem off3_of {I C D:zV}{oI oC oD:Obj}(W:Wk h₀ L h m ((I,oI)::(C,oC)::(D,oD)::news)):Off3 I C D news:=by
 have nd:=W.nd;simp only [zM,zJ,zL,not_or] at nd;refine Off3.of fun p hp=>⟨fun e=>nd.1.2.2 ?_,fun e=>nd.2.1.2 ?_,fun e=>nd.2.2.1 ?_⟩
 · rw [← e];exact l_o hp
 · rw [← e];exact l_o hp
 · rw [← e];exact l_o hp
theorem wk_of3 {I C D:zV}{oI oC oD:Obj}(F:Fr h₀ L h m) (N:News h₀ L h ((I,oI)::(C,oC)::(D,oD)::news)) (off:Off3 I C D news) (ne:((@Ne Nat I C)∧(@Ne Nat I D)∧(@Ne Nat C D))) (nd:(news.map (·.1)).Nodup):Wk h₀ L h m ((I,oI)::(C,oC)::(D,oD)::news):=by
 refine ⟨F,N,?_⟩;have o:=Off3.mem off;simp only [zM,zJ,zL,not_or];refine ⟨⟨ne.1,ne.2.1,fun q=>?_⟩,⟨ne.2.2,fun q=>?_⟩,fun q=>?_,nd⟩
 · obtain ⟨p,hp,e⟩:=zN.mp q;exact (o p hp).1 e
 · obtain ⟨p,hp,e⟩:=zN.mp q;exact (o p hp).2.1 e
 · obtain ⟨p,hp,e⟩:=zN.mp q;exact (o p hp).2.2 e
theorem off1_nd {D:zV}:∀ {l:Led},Off1 D l→D∉l.map (·.1)
 |[],_,h=>by cases h
 |p::r,x,h=>by
  rcases zL.mp h with e|h
  · exact x.1 e.symm
  · exact off1_nd x.2 h
theorem lc_restU {n:Nat}{P:Nat→zY→Prop}{Ss:Led→Prop}{g:Heap}{tg:Nat}{Fin:List zY→Led→Prop}(J:Nat→List zY→Led→Prop) (hS:∀ i ys news,J i ys news→Ss news)
 (turn:∀ i ys news v I oI C oC D m₂ h t E',i<n→P i v→J i ys news→NsObj oC m₂→m₂ x=some v→Wk h₀ L h m ((I,oI)::(C,oC)::(D,lst ys)::news)→
  zZ (zW PW w) A (eval elt (compEnvC scope cl C env)) (CE σ h₀ L m I oI C oC D ys (fun y news'=>J (i+1) (ys++[y]) news')) E' (S σ h t))
 (fin:∀ ys news,J n ys news→(news.map (·.1)).Nodup→Fin ys news):
 ∀ (k i:Nat) (ys:List zY) (news:Led),i+k=n→J i ys news→(news.map (·.1)).Nodup→CompRest PW w A h₀ L m env elt x scope cl (S σ g tg) Ss P Fin k i ys news
 |0,i,ys,news,hk,j,nd=>by
  obtain rfl:i=n:=by lia
  exact CompRest.zero (fin ys news j nd)
 |k+1,i,ys,news,hk,j,nd=>by
  refine CompRest.succ fun v I oI C oC D m₂ h t E' hv hC hx F N off ne=>?_;refine w_m (turn i ys news v I oI C oC D m₂ h t E' (by revert hk;k_in) hv j hC hx (wk_of3 F N off ne nd)) (fun y s' q=>?_) fun _ _ e=>e
  obtain ⟨h',t',news',rfl,W',j'⟩:=q
  have nd':(news'.map (·.1)).Nodup:=by
   have:=W'.nd;simp only [zM,zJ] at this;exact this.2.2.2
  exact ⟨h',t',news',rfl,W'.fr,W'.nw,off3_of W',hS _ _ _ j',lc_restU J hS turn fin k (i+1) (ys++[y]) news' (by revert hk;k_in) j' nd'⟩
theorem lc_restT {n:Nat}{P:Nat→zY→Prop}{Ss:Led→Prop}{g:Heap}{tg:Nat}{Fin:List zY→Led→Prop}(J:Nat→List zY→Led→Prop) (hS:∀ i ys news,J i ys news→Ss news)
 (turn:∀ i ys news v I oI C oC D m₂ h t E',i<n→P i v→J i ys news→NsObj oC m₂→m₂ x=some v→Wk h₀ L h m ((I,oI)::(C,oC)::(D,lst ys)::news)→
  zZ (zW PW w) A (isTrue ct (compEnvC scope cl C env) (eval ct (compEnvC scope cl C env))) (fun ok s'=>if ok=true then
   zZ (zW PW w) A (eval elt (compEnvC scope cl C env)) (CE σ h₀ L m I oI C oC D ys (fun y news'=>J (i+1) (ys++[y]) news')) E' s'
   else CE σ h₀ L m I oI C oC D ys (fun _ news'=>J (i+1) ys news') Value.none s') E' (S σ h t))
 (fin:∀ ys news,J n ys news→(news.map (·.1)).Nodup→Fin ys news):
 ∀ (k i:Nat) (ys:List zY) (news:Led),i+k=n→J i ys news→(news.map (·.1)).Nodup→CompRestT PW w A h₀ L m env ct elt x scope cl (S σ g tg) Ss P Fin k i ys news
 |0,i,ys,news,hk,j,nd=>by
  obtain rfl:i=n:=by lia
  exact CompRestT.zero (fin ys news j nd)
 |k+1,i,ys,news,hk,j,nd=>by
  refine CompRestT.succ fun v I oI C oC D m₂ h t E' hv hC hx F N off ne=>?_
  have step:∀ (ys':List zY) (y:zY) (s':zX),CE σ h₀ L m I oI C oC D ys (fun _ news'=>J (i+1) ys' news') y s'→CompEnd h₀ L m { S σ g tg with heap:=h,toks:=t } I oI C oC D (lst ys) Ss (fun _ news'=>CompRestT PW w A h₀ L m env ct elt x scope cl (S σ g tg) Ss P Fin k (i+1) ys' news') y s':=by
   rintro ys' y s' ⟨h',t',news',rfl,W',j'⟩
   have nd':(news'.map (·.1)).Nodup:=by
    have:=W'.nd;simp only [zM,zJ] at this;exact this.2.2.2
   exact ⟨h',t',news',rfl,W'.fr,W'.nw,off3_of W',hS _ _ _ j',lc_restT J hS turn fin k (i+1) ys' news' (by revert hk;k_in) j' nd'⟩
  refine w_m (turn i ys news v I oI C oC D m₂ h t E' (by revert hk;k_in) hv j hC hx (wk_of3 F N off ne nd)) (fun ok s' q=>?_) fun _ _ e=>e
  cases ok with
  |true=>
   refine w_m q (fun y s'' q=>?_) fun _ _ e=>e
   exact step (ys++[y]) y s'' q
  |false=>exact step ys Value.none s' q
end
end
section
open PyProof.Rows.LCg PyProof.Rows.LCt
section
variable {w:zT}{A:zU}{E:VP}{σ:zX}{h₀ h:Heap}{t:Nat}{L:zV}{m:NM}{news:Led}{env:Env}{elt ct iter:Expr}{x:Str}{scope:Scope}{cl:List (Str×zV)}{px pos:Pos}
def LcU (w:zT) (A:zU) (σ:zX) (h₀:Heap) (L:zV) (m:NM) (env:Env) (elt:Expr) (x:Str) (scope:Scope) (cl:List (Str×zV)) (Fin:List zY→Led→Prop):VP:=fun v s₁=>
 ∃ (h':Heap) (t':Nat) (ax:zV) (vs:List zY) (news:Led),v= .ref ax∧s₁=S σ h' t'∧Wk h₀ L h' m news∧SrcAt h₀ ax vs.toArray news∧vs.length≤1000∧∃ J:Nat→List zY→Led→Prop,J 0 [] news∧(∀ i ys nw,J i ys nw→SrcAt h₀ ax vs.toArray nw)∧
  (∀ i ys news v I oI C oC D m₂ h t E',i<vs.length→vs[i]? =some v→J i ys news→NsObj oC m₂→m₂ x=some v→Wk h₀ L h m ((I,oI)::(C,oC)::(D,lst ys)::news)→
   zZ (zW PW w) A (eval elt (compEnvC scope cl C env)) (CE σ h₀ L m I oI C oC D ys (fun y news'=>J (i+1) (ys++[y]) news')) E' (S σ h t))∧
  (∀ ys nw,J vs.length ys nw→(nw.map (·.1)).Nodup→Fin ys nw)
theorem lcU {Fin:List zY→Led→Prop}{ax:zV}{vs:List zY}(J:Nat→List zY→Led→Prop) (W:Wk h₀ L h m news) (hs:SrcAt h₀ ax vs.toArray news) (hz:vs.length≤1000) (j0:J 0 [] news) (hS:∀ i ys nw,J i ys nw→SrcAt h₀ ax vs.toArray nw)
 (turn:∀ i ys news v I oI C oC D m₂ h t E',i<vs.length→vs[i]? =some v→J i ys news→NsObj oC m₂→m₂ x=some v→Wk h₀ L h m ((I,oI)::(C,oC)::(D,lst ys)::news)→
  zZ (zW PW w) A (eval elt (compEnvC scope cl C env)) (CE σ h₀ L m I oI C oC D ys (fun y news'=>J (i+1) (ys++[y]) news')) E' (S σ h t))
 (fin:∀ ys nw,J vs.length ys nw→(nw.map (·.1)).Nodup→Fin ys nw):LcU w A σ h₀ L m env elt x scope cl Fin (.ref ax) (S σ h t):=
 ⟨h,t,ax,vs,news,rfl,rfl,W,hs,hz,J,j0,hS,turn,fin⟩
def LcT (w:zT) (A:zU) (σ:zX) (h₀:Heap) (L:zV) (m:NM) (env:Env) (ct elt:Expr) (x:Str) (scope:Scope) (cl:List (Str×zV)) (Fin:List zY→Led→Prop):VP:=fun v s₁=>
 ∃ (h':Heap) (t':Nat) (ax:zV) (vs:List zY) (news:Led),v= .ref ax∧s₁=S σ h' t'∧Wk h₀ L h' m news∧SrcAt h₀ ax vs.toArray news∧vs.length≤1000∧∃ J:Nat→List zY→Led→Prop,J 0 [] news∧(∀ i ys nw,J i ys nw→SrcAt h₀ ax vs.toArray nw)∧
  (∀ i ys news v I oI C oC D m₂ h t E',i<vs.length→vs[i]? =some v→J i ys news→NsObj oC m₂→m₂ x=some v→Wk h₀ L h m ((I,oI)::(C,oC)::(D,lst ys)::news)→
   zZ (zW PW w) A (isTrue ct (compEnvC scope cl C env) (eval ct (compEnvC scope cl C env))) (fun ok s'=>if ok=true then
    zZ (zW PW w) A (eval elt (compEnvC scope cl C env)) (CE σ h₀ L m I oI C oC D ys (fun y news'=>J (i+1) (ys++[y]) news')) E' s'
    else CE σ h₀ L m I oI C oC D ys (fun _ news'=>J (i+1) ys news') Value.none s') E' (S σ h t))∧
  (∀ ys nw,J vs.length ys nw→(nw.map (·.1)).Nodup→Fin ys nw)
theorem lcT {Fin:List zY→Led→Prop}{ax:zV}{vs:List zY}(J:Nat→List zY→Led→Prop) (W:Wk h₀ L h m news) (hs:SrcAt h₀ ax vs.toArray news) (hz:vs.length≤1000) (j0:J 0 [] news) (hS:∀ i ys nw,J i ys nw→SrcAt h₀ ax vs.toArray nw)
 (turn:∀ i ys news v I oI C oC D m₂ h t E',i<vs.length→vs[i]? =some v→J i ys news→NsObj oC m₂→m₂ x=some v→Wk h₀ L h m ((I,oI)::(C,oC)::(D,lst ys)::news)→
  zZ (zW PW w) A (isTrue ct (compEnvC scope cl C env) (eval ct (compEnvC scope cl C env))) (fun ok s'=>if ok=true then
   zZ (zW PW w) A (eval elt (compEnvC scope cl C env)) (CE σ h₀ L m I oI C oC D ys (fun y news'=>J (i+1) (ys++[y]) news')) E' s'
   else CE σ h₀ L m I oI C oC D ys (fun _ news'=>J (i+1) ys news') Value.none s') E' (S σ h t))
 (fin:∀ ys nw,J vs.length ys nw→(nw.map (·.1)).Nodup→Fin ys nw):LcT w A σ h₀ L m env ct elt x scope cl Fin (.ref ax) (S σ h t):=
 ⟨h,t,ax,vs,news,rfl,rfl,W,hs,hz,J,j0,hS,turn,fin⟩
def FE (σ:zX) (h₀:Heap) (L:zV) (m:NM) (Q:VP) (ys:List zY) (nw:Led):Prop:=∀ D h t,Wk h₀ L h m ((D,lob ys ys.length)::nw)→Q (.ref D) (S σ h t)
def FA2 (σ:zX) (h₀:Heap) (L:zV) (m:NM) (y:Str) (Q:FP) (ys:List zY) (nw:Led):Prop:=∀ D h t,Wk h₀ L h (setm m y (.ref D)) ((D,lob ys ys.length)::nw)→Q .next (S σ h t)
theorem fe_of {g:Heap}{tg:Nat}{Q:VP}{ys:List zY}{nw:Led}(nd:(nw.map (·.1)).Nodup) (f:FE σ h₀ L m Q ys nw):FinE h₀ L m (S σ g tg) Q ys nw:=fun D h tk F N o1=>
 f D h tk ⟨F,N,by rw [zM,zJ];exact ⟨off1_nd o1,nd⟩⟩
theorem fa_of {g:Heap}{tg:Nat}{y:Str}{Q:FP}{ys:List zY}{nw:Led}(nd:(nw.map (·.1)).Nodup) (f:FA2 σ h₀ L m y Q ys nw):FinA h₀ L m (S σ g tg) y Q ys nw:=fun D h tk F N o1=>
 f D h tk ⟨F,N,by rw [zM,zJ];exact ⟨off1_nd o1,nd⟩⟩
theorem e_lcU {Q:VP}(W0:Wk h₀ L h m news) (hh:A.handled=none)
 (h1:zZ (zW PW w) A (eval iter env) (LcU w A σ h₀ L m env elt x scope cl (FE σ h₀ L m Q)) E (S σ h t))
 (hclos:closureFor scope env=pure cl) (hcell:∀ y∈scope.names,y.2≠ .cell) (hkind:scope.kind= .function)
 (hnames:∀ y∈scope.names,y.2= .local→scope.names.lookup y.1=some .local) (hx:scope.names.lookup x=some .local) (hs:∀ x,foldedSetIterable iter env x=pure x):
 zZ (zW PW w) A (eval (.ListComp elt [⟨.Name x px,iter,[],0⟩] scope pos) env) Q E (S σ h t):=by
 refine ListComp_U W0.fr hclos hcell hkind hnames hx (w_m h1 (fun v s₁ q=>?_) fun _ _ e=>e) hs;obtain ⟨h',t',ax,vs,nw,rfl,rfl,W,hsrc,hz,J,j0,hS,turn,fin⟩:=q;refine .inl ⟨ax,vs.toArray,nw,rfl,hh,W.fr,W.nw,hsrc,by rw [zI,yF];lia,?_⟩;rintro s₂ ⟨g,rfl⟩;have hn:vs.toArray.size=vs.length:=zI ..;rw [hn];exact lc_restU (n:=vs.length) (P:=fun i v=>vs.toArray[i]? =some v) (g:=g) (tg:=t') J hS (fun i ys news v I oI C oC D m₂ h t E' hi hv=>turn i ys news v I oI C oC D m₂ h t E' hi (by simpa using hv)) (fun ys nw j nd=>fe_of nd (fin ys nw j nd)) _ 0 [] nw (by k_in) j0 W.nd
variable {y:Str}{py spos:Pos}
theorem x_lcU {Q:FP}(W0:Wk h₀ L h m news) (hh:A.handled=none)
 (h1:zZ (zW PW w) A (eval iter env) (LcU w A σ h₀ L m env elt x scope cl (FA2 σ h₀ L m y Q)) E (S σ h t)) (hLe:env.locals=L)
 (hsw:swapsWith (.ListComp elt [⟨.Name x px,iter,[],0⟩] scope pos) (some (.Name y py)) spos.line env=pure true)
 (hclos:closureFor scope env=pure cl) (hcell:∀ y∈scope.names,y.2≠ .cell) (hkind:scope.kind= .function)
 (hnames:∀ y∈scope.names,y.2= .local→scope.names.lookup y.1=some .local) (hx:scope.names.lookup x=some .local)
 (hy:env.kindOf y=some .local) (hp:(env.scope.kind== .class||(env.scope.kind== .module&&env.locals !=env.globals))=false) (hs:∀ x,foldedSetIterable iter env x=pure x):
 zZ (zW PW w) A (exec (.Assign [.Name y py] (.ListComp elt [⟨.Name x px,iter,[],0⟩] scope pos) spos) env) Q E (S σ h t):=by
 refine Assign_ListComp_U W0.fr hLe hsw hclos hcell hkind hnames hx hy hp (w_m h1 (fun v s₁ q=>?_) fun _ _ e=>e) hs;obtain ⟨h',t',ax,vs,nw,rfl,rfl,W,hsrc,hz,J,j0,hS,turn,fin⟩:=q;refine .inl ⟨ax,vs.toArray,nw,rfl,hh,W.fr,W.nw,hsrc,by rw [zI,yF];lia,?_⟩;rintro s₂ ⟨g,rfl⟩;have hn:vs.toArray.size=vs.length:=zI ..;rw [hn];exact lc_restU (n:=vs.length) (P:=fun i v=>vs.toArray[i]? =some v) (g:=g) (tg:=t') J hS (fun i ys news v I oI C oC D m₂ h t E' hi hv=>turn i ys news v I oI C oC D m₂ h t E' hi (by simpa using hv)) (fun ys nw j nd=>fa_of nd (fin ys nw j nd)) _ 0 [] nw (by k_in) j0 W.nd
theorem x_lcT {Q:FP}(W0:Wk h₀ L h m news) (hh:A.handled=none)
 (h1:zZ (zW PW w) A (eval iter env) (LcT w A σ h₀ L m env ct elt x scope cl (FA2 σ h₀ L m y Q)) E (S σ h t)) (hLe:env.locals=L)
 (hsw:swapsWith (.ListComp elt [⟨.Name x px,iter,[ct],0⟩] scope pos) (some (.Name y py)) spos.line env=pure true)
 (hclos:closureFor scope env=pure cl) (hcell:∀ y∈scope.names,y.2≠ .cell) (hkind:scope.kind= .function)
 (hnames:∀ y∈scope.names,y.2= .local→scope.names.lookup y.1=some .local) (hx:scope.names.lookup x=some .local)
 (hy:env.kindOf y=some .local) (hp:(env.scope.kind== .class||(env.scope.kind== .module&&env.locals !=env.globals))=false) (hs:∀ x,foldedSetIterable iter env x=pure x):
 zZ (zW PW w) A (exec (.Assign [.Name y py] (.ListComp elt [⟨.Name x px,iter,[ct],0⟩] scope pos) spos) env) Q E (S σ h t):=by
 refine Assign_ListComp_T W0.fr hLe hsw hclos hcell hkind hnames hx hy hp (w_m h1 (fun v s₁ q=>?_) fun _ _ e=>e) hs;obtain ⟨h',t',ax,vs,nw,rfl,rfl,W,hsrc,hz,J,j0,hS,turn,fin⟩:=q;refine .inl ⟨ax,vs.toArray,nw,rfl,hh,W.fr,W.nw,hsrc,by rw [zI,yF];lia,?_⟩;rintro s₂ ⟨g,rfl⟩;have hn:vs.toArray.size=vs.length:=zI ..;rw [hn];exact lc_restT (n:=vs.length) (P:=fun i v=>vs.toArray[i]? =some v) (g:=g) (tg:=t') J hS (fun i ys news v I oI C oC D m₂ h t E' hi hv=>turn i ys news v I oI C oC D m₂ h t E' hi (by simpa using hv)) (fun ys nw j nd=>fa_of nd (fin ys nw j nd)) _ 0 [] nw (by k_in) j0 W.nd
theorem n_own {C:zV}{oC:Obj}{m₂:NM}{z:Str}{v:zY}{Q:VP}(W:Wk h₀ L h m news) (hm:(C,oC)∈news) (hC:NsObj oC m₂) (hz:m₂ z=some v) (k:Q v (S σ h t))
 (hk:(compEnvC scope cl C env).scope.kind= .function) (hl:(compEnvC scope cl C env).kindOf z=some .local) (hd:(z==("__debug__":Str))=false):
 zZ (zW PW w) A (eval (.Name z pos) (compEnvC scope cl C env)) Q E (S σ h t):=LCgL.ld_own W.nw hm hC hz k hk hl hd
theorem n_glob {C:zV}{z:Str}{v:zY}{Q:VP}(Z:Site w A L h₀) (W:Wk h₀ L h m news) (e:nsIn (KF PW w.params) mainGlobals z=some (some v)) (k:Q v (S σ h t)) (hg:env.globals=mainGlobals)
 (hk:(compEnvC scope cl C env).scope.kind= .function) (hl:(compEnvC scope cl C env).kindOf z=some .globalImplicit) (hd:(z==("__debug__":Str))=false):
 zZ (zW PW w) A (eval (.Name z pos) (compEnvC scope cl C env)) Q E (S σ h t):=by
 obtain ⟨pT,lT,mean,mg,mb,T⟩:=Z.T;exact LCgL.ld_global W.fr Z.X T e k hg hk hl hd
theorem n_cell {C c:zV}{o:Obj}{z:Str}{v:zY}{Q:VP}(W:Wk h₀ L h m news) (hc:cl.lookup z=some c) (hm:(c,o)∈news) (hd:o.data= .cell (some v)) (k:Q v (S σ h t))
 (hk:(compEnvC scope cl C env).scope.kind= .function) (hx:(compEnvC scope cl C env).kindOf z=some .cell) (hb:(z==("__debug__":Str))=false):
 zZ (zW PW w) A (eval (.Name z pos) (compEnvC scope cl C env)) Q E (S σ h t):=lcf_cell W.nw hc hm hd k hk hx hb
end
end
section
noncomputable def slN (xs:List El2) (lo hi:Int):List Int:=((xs.map (·.2)).take hi.toNat).drop lo.toNat
theorem slN_get {xs:List El2}{lo hi:Int}(h0:0≤lo) (h1:lo≤hi) (h2:hi≤xs.length) (a:Nat):(slN xs lo hi)[a]? =if (a:Int)<hi - lo then some (nAt xs (lo+a)) else none:=by
 unfold slN;rw [List.getElem?_drop,List.getElem?_take];by_cases h:(a:Int)<hi - lo
 · rw [if_pos h,if_pos (by revert h0 h;k_in)];have hlt:lo.toNat+a<xs.length:=by (revert h0 h2 h;k_in)
   rw [zF,l_e hlt];unfold nAt;rw [show (lo+(a:Int)).toNat=lo.toNat+a by revert h0;k_in,l_e hlt];rfl
 · rw [if_neg h,if_neg (by revert h0 h1 h;k_in)]
theorem slN_len {xs:List El2}{lo hi:Int}(h0:0≤lo) (h1:lo≤hi) (h2:hi≤xs.length):(slN xs lo hi).length=(hi - lo).toNat:=by
 unfold slN;simp only [xW,yP,zO]
 (revert h0 h1 h2;k_in)
theorem idxF_mem (c:Int):∀ (ys:List El2) (k j:Int),j∈idxF c k ys↔k≤j∧j<k+ys.length∧∃ y,ys[(j - k).toNat]? =some y∧y.2=c
 |[],k,j=>by dsimp only [idxF];simp
 |y::r,k,j=>by
  have ih:=idxF_mem c r (k+1) j
  have tail:(k+1≤j∧j<k+1+r.length∧∃ z,r[(j - (k+1)).toNat]? =some z∧z.2=c)↔(k<j∧j<k+(y::r).length∧∃ z,(y::r)[(j - k).toNat]? =some z∧z.2=c):=by
   constructor
   · rintro ⟨a,b,z,hz,e⟩;refine ⟨by lia,by simp only [yU];(revert b;k_in),z,?_,e⟩;rw [show (j - k).toNat=(j - (k+1)).toNat+1 by revert a;k_in,List.getElem?_cons_succ];exact hz
   · rintro ⟨a,b,z,hz,e⟩;refine ⟨by lia,by simp only [yU] at b;(revert b;k_in),z,?_,e⟩;rw [show (j - k).toNat=(j - (k+1)).toNat+1 by revert a;k_in,List.getElem?_cons_succ] at hz;exact hz
  dsimp only [idxF];by_cases hy:y.2=c
  · rw [if_pos hy,zL,ih,tail];constructor
    · rintro (rfl|⟨a,b,d⟩)
      · exact ⟨yW _,by simp only [yU];k_in,y,by simp,hy⟩
      · exact ⟨by lia,b,d⟩
    · rintro ⟨a,b,d⟩;by_cases e:j=k
      · exact .inl e
      · exact .inr ⟨by revert a e;k_in,b,d⟩
  · rw [if_neg hy,ih,tail];constructor
    · rintro ⟨a,b,d⟩;exact ⟨by lia,b,d⟩
    · rintro ⟨a,b,z,hz,e⟩;refine ⟨?_,b,z,hz,e⟩;rcases Int.lt_or_eq_of_le a with h|h
      · exact h
      · subst h;simp at hz;subst hz;exact absurd e hy
theorem idxF_asc (c:Int):∀ (ys:List El2) (k:Int),(idxF c k ys).Pairwise (· <·)
 |[],k=>.nil
 |y::r,k=>by
  dsimp only [idxF];split
  · refine .cons (fun j hj=>?_) (idxF_asc c r (k+1));have:=((idxF_mem c r (k+1) j).mp hj).1
    (revert this;k_in)
  · exact idxF_asc c r (k+1)
theorem idxO_mem {odd c:Int}{ys:List El2}{j:Int}:j∈idxO odd c ys↔0≤j∧j<ys.length∧nAt ys j=c∧c≠odd:=by
 unfold idxO;by_cases hc:c=odd
 · rw [if_pos hc];simp [hc]
 · rw [if_neg hc];unfold idx;rw [idxF_mem];constructor
   · rintro ⟨a,b,y,hy,e⟩;refine ⟨a,by revert b;k_in,?_,hc⟩;rw [Int.sub_zero] at hy;unfold nAt;rw [hy];exact e
   · rintro ⟨a,b,e,_⟩;have hlt:j.toNat<ys.length:=by (revert a b;k_in)
     refine ⟨a,by revert b;k_in,ys[j.toNat],by rw [Int.sub_zero,l_e hlt],?_⟩;unfold nAt at e;rw [l_e hlt] at e;exact e
theorem idxO_asc {odd c:Int}{ys:List El2}:(idxO odd c ys).Pairwise (· <·):=by
 unfold idxO;split
 · exact .nil
 · exact idxF_asc c ys 0
theorem fiRow_get {old:List (Int×Int)}{i blo bhi:Int}:∀ (l:List Int) (st:List (Int×Int)×Tri),l.Pairwise (· <·)→∀ j,getI (fiRow old i blo bhi l st).1 j=if j∈l∧blo≤j∧j<bhi then getI old (j - 1)+1 else getI st.1 j
 |[],st,_,j=>by dsimp only [fiRow];simp
 |a::r,st,hp,j=>by
  rw [List.pairwise_cons] at hp;dsimp only [fiRow];by_cases h1:a<blo
  · rw [if_pos h1,fiRow_get r st hp.2 j];by_cases hj:j∈r∧blo≤j∧j<bhi
    · rw [if_pos hj,if_pos ⟨.tail _ hj.1,hj.2⟩]
    · rw [if_neg hj,if_neg];rintro ⟨hm,h2⟩;rcases zL.mp hm with rfl|hm
      · (revert h2 h1;k_in)
      · exact hj ⟨hm,h2⟩
  · rw [if_neg h1];by_cases h2:bhi≤a
    · rw [if_pos h2,if_neg];rintro ⟨hm,h3,h4⟩;rcases zL.mp hm with rfl|hm
      · (revert h4 h2;k_in)
      · have:=hp.1 j hm;(revert h2 h4 this;k_in)
    · rw [if_neg h2,fiRow_get r _ hp.2 j];unfold fiStep;rw [getI_put];by_cases hj:j∈r∧blo≤j∧j<bhi
      · rw [if_pos hj,if_pos ⟨.tail _ hj.1,hj.2⟩]
      · rw [if_neg hj];by_cases e:a=j
        · subst e;rw [if_pos rfl,if_pos ⟨.head _,by lia,by lia⟩]
        · rw [if_neg e,if_neg];rintro ⟨hm,h3⟩;rcases zL.mp hm with rfl|hm
          · exact e rfl
          · exact hj ⟨hm,h3⟩
section
variable {xs ys:List El2}{odd alo ahi blo bhi:Int}
theorem mt_iff (v1:0≤alo∧alo≤ahi∧ahi≤xs.length) (v2:0≤blo∧blo≤bhi∧bhi≤ys.length) {a b:Nat}:Mt odd (slN xs alo ahi) (slN ys blo bhi) a b↔(a:Int)<ahi - alo∧(b:Int)<bhi - blo∧nAt xs (alo+a)=nAt ys (blo+b)∧nAt xs (alo+a)≠odd:=by
 unfold Mt;rw [slN_get v1.1 v1.2.1 v1.2.2,slN_get v2.1 v2.2.1 v2.2.2];constructor
 · rintro ⟨c,h1,h2,h3⟩;by_cases ha:(a:Int)<ahi - alo
   · rw [if_pos ha] at h1;by_cases hb:(b:Int)<bhi - blo
     · rw [if_pos hb] at h2;simp only [Option.some.injEq] at h1 h2;exact ⟨ha,hb,by rw [h1,h2],by rw [h1];exact h3⟩
     · rw [if_neg hb] at h2;cases h2
   · rw [if_neg ha] at h1;cases h1
 · rintro ⟨ha,hb,e,hn⟩;rw [if_pos ha,if_pos hb];exact ⟨_,rfl,by rw [e],hn⟩
def RowIs (odd:Int) (ns ks:List Int) (blo bhi:Int) (n:Nat) (ps:List (Int×Int)):Prop:=∀ j,getI ps j=if blo≤j∧j<bhi then (eN odd ns ks n (j - blo+1).toNat:Int) else 0
theorem eN_z {odd ns ks} (n:Nat):eN odd ns ks n 0=0:=by cases n <;> rfl
theorem row_val {old:List (Int×Int)}{n:Nat}(h:RowIs odd (slN xs alo ahi) (slN ys blo bhi) blo bhi n old) {j:Int}(h1:blo≤j) (h2:j<bhi):getI old (j - 1)=(eN odd (slN xs alo ahi) (slN ys blo bhi) n (j - blo).toNat:Int):=by
 rw [h (j - 1)];by_cases h3:blo≤j - 1
 · rw [if_pos ⟨h3,by revert h2;k_in⟩,show (j - 1 - blo+1).toNat=(j - blo).toNat by k_in]
 · rw [if_neg (fun q=>h3 q.1),show (j - blo).toNat=0 by revert h3;k_in,eN_z];rfl
theorem row_next (v1:0≤alo∧alo≤ahi∧ahi≤xs.length) (v2:0≤blo∧blo≤bhi∧bhi≤ys.length) {old:List (Int×Int)}{n:Nat}{best:Tri}(hn:(n:Int)<ahi - alo) (h:RowIs odd (slN xs alo ahi) (slN ys blo bhi) blo bhi n old):
 RowIs odd (slN xs alo ahi) (slN ys blo bhi) blo bhi (n+1) (fiRow old (alo+n) blo bhi (idxO odd (nAt xs (alo+n)) ys) ([],best)).1:=by
 intro j;rw [fiRow_get _ _ idxO_asc];by_cases hj:blo≤j∧j<bhi
 · rw [if_pos hj];have hb:∃ b:Nat,j=blo+b:=⟨(j - blo).toNat,by revert hj;k_in⟩;obtain ⟨b,rfl⟩:=hb;rw [show (blo+(b:Int) - blo+1).toNat=b+1 by k_in];have hv:=row_val h hj.1 hj.2;rw [show (blo+(b:Int) - blo).toNat=b by k_in] at hv;have hm:=mt_iff (odd:=odd) v1 v2 (a:=n) (b:=b);dsimp only [eN];by_cases hmt:Mt odd (slN xs alo ahi) (slN ys blo bhi) n b
   · obtain ⟨m1,m2,m3,m4⟩:=hm.mp hmt;rw [if_pos hmt,if_pos ⟨idxO_mem.mpr ⟨by revert v2;k_in,by revert v2 hj;k_in,m3.symm,m4⟩,hj⟩,hv];k_in
   · rw [if_neg hmt,if_neg]
     · rfl
     · rintro ⟨hmem,-⟩;obtain ⟨k1,k2,k3,k4⟩:=idxO_mem.mp hmem;exact hmt (hm.mpr ⟨hn,by lia,k3.symm,k4⟩)
 · rw [if_neg hj,if_neg (fun q=>hj q.2)];rfl
def BRel (alo blo:Int) (best:Tri) (b:Nat×Nat×Nat):Prop:=best.1=alo+b.1∧best.2.1=blo+b.2.1∧best.2.2=b.2.2
def Pn (blo:Int) (n:Nat) (l:List Int) (i' j':Nat):Prop:=i'<n∨(i'=n∧∀ j∈l,blo+j'<j)
theorem row_best (v1:0≤alo∧alo≤ahi∧ahi≤xs.length) (v2:0≤blo∧blo≤bhi∧bhi≤ys.length) {old:List (Int×Int)}{n:Nat}(hn:(n:Int)<ahi - alo) (h:RowIs odd (slN xs alo ahi) (slN ys blo bhi) blo bhi n old):
 ∀ (l:List Int) (st:List (Int×Int)×Tri) (b:Nat×Nat×Nat),l.Pairwise (· <·)→(∀ j∈l,j∈idxO odd (nAt xs (alo+n)) ys)→(∀ j':Nat,¬ Pn blo n l n j'→blo+j'∉l→eN odd (slN xs alo ahi) (slN ys blo bhi) (n+1) (j'+1)=0)→
  EndTo odd (slN xs alo ahi) (slN ys blo bhi) (Pn blo n l) b→BRel alo blo st.2 b→
  ∃ b',EndTo odd (slN xs alo ahi) (slN ys blo bhi) (Pn blo n []) b'∧BRel alo blo (fiRow old (alo+n) blo bhi l st).2 b'
 |[],st,b,_,_,_,he,hb=>⟨b,he,hb⟩
 |a::r,st,b,hp,hl,hz,he,hb=>by
  rw [List.pairwise_cons] at hp;have sub:∀ i j,Pn blo n (a::r) i j→Pn blo n r i j:=fun i j q=>q.imp id fun q=>⟨q.1,fun x hx=>q.2 x (.tail _ hx)⟩
  have zr:∀ j':Nat,¬ Pn blo n r n j'→blo+j'∉r→eN odd (slN xs alo ahi) (slN ys blo bhi) (n+1) (j'+1)=0:=fun j' q1 q2=>by
   refine hz j' (fun q=>q1 (sub _ _ q)) fun q=>?_;rcases zL.mp q with e|q
   · exact q1 (.inr ⟨rfl,fun x hx=>by have:=hp.1 x hx;(revert e this;k_in)⟩)
   · exact q2 q
  dsimp only [fiRow];by_cases h1:a<blo
  · rw [if_pos h1];refine row_best v1 v2 hn h r st b hp.2 (fun j hj=>hl j (.tail _ hj)) zr (he.more sub fun i' j' q=>?_) hb;rcases q with q|⟨rfl,q⟩
    · exact .inl (.inl q)
    · refine .inr (hz j' (fun x=>?_) fun x=>?_)
      · rcases x with x|x
        · (revert x;k_in)
        · have:=x.2 a (.head _);(revert h1 this;k_in)
      · rcases zL.mp x with e|x
        · (revert h1 e;k_in)
        · have:=q _ x;(revert this;k_in)
  · rw [if_neg h1];by_cases h2:bhi≤a
    · rw [if_pos h2];refine ⟨b,he.more (fun i j q=>q.imp id fun q=>⟨q.1,fun x hx=>by cases hx⟩) fun i' j' q=>?_,hb⟩;rcases q with q|⟨rfl,-⟩
      · exact .inl (.inl q)
      · by_cases hlt:blo+(j':Int)<a
        · exact .inl (.inr ⟨rfl,fun x hx=>by
           rcases zL.mp hx with rfl|hx
           · exact hlt
           · have:=hp.1 x hx;(revert hlt this;k_in)⟩)
        · refine .inr (e_out (.inr ?_) (Nat.succ_pos _) (Nat.succ_pos _));rw [slN_len v2.1 v2.2.1 v2.2.2]
          (revert h2 hlt;k_in)
    · rw [if_neg h2];obtain ⟨j0,rfl⟩:∃ j0:Nat,a=blo+j0:=⟨(a - blo).toNat,by revert h1;k_in⟩;have hmem:=hl _ (.head _);obtain ⟨k1,k2,k3,k4⟩:=idxO_mem.mp hmem;have hmt:Mt odd (slN xs alo ahi) (slN ys blo bhi) n j0:=(mt_iff v1 v2).mpr ⟨hn,by revert h2;k_in,k3.symm,k4⟩;have hv:=row_val h (j:=blo+j0) (by lia) (by lia);rw [show (blo+(j0:Int) - blo).toNat=j0 by k_in] at hv
      have hkv:eN odd (slN xs alo ahi) (slN ys blo bhi) (n+1) (j0+1)=eN odd (slN xs alo ahi) (slN ys blo bhi) n j0+1:=by
       conv=>lhs;dsimp only [eN]
       rw [if_pos hmt]
      have hadd:=he.add (P':=Pn blo n r) (i0:=n) (j0:=j0) sub (fun i' j' q=>by
       rcases q with q|⟨rfl,q⟩
       · exact .inl (.inl q)
       · by_cases hlt:j'<j0
         · exact .inl (.inr ⟨rfl,fun x hx=>by
            rcases zL.mp hx with rfl|hx
            · (revert hlt;k_in)
            · exact q x hx⟩)
         · by_cases heq:j'=j0
           · exact .inr (.inl ⟨rfl,heq⟩)
           · refine .inr (.inr (hz j' (fun x=>?_) fun x=>?_))
             · rcases x with x|x
               · (revert x;k_in)
               · have:=x.2 _ (.head _);(revert hlt heq this;k_in)
             · rcases zL.mp x with e|x
               · (revert hlt heq e;k_in)
               · have:=q _ x;(revert this;k_in))
       (.inr ⟨rfl,fun x hx=>hp.1 x hx⟩) (fun i j q=>by
        rcases q with q|⟨rfl,q⟩
        · exact .inl q
        · have:=q _ (.head _);exact .inr ⟨rfl,by revert this;k_in⟩)
      refine row_best v1 v2 hn h r _ _ hp.2 (fun j hj=>hl j (.tail _ hj)) zr hadd ?_;obtain ⟨b1,b2,b3⟩:=hb;obtain ⟨le1,le2⟩:=eN_le (odd:=odd) (ns:=slN xs alo ahi) (ks:=slN ys blo bhi) n j0;unfold fiStep upB;rw [hkv,hv];by_cases hlt:b.2.2<eN odd (slN xs alo ahi) (slN ys blo bhi) n j0+1
      · rw [if_pos hlt];dsimp only;rw [if_pos (by revert b3 hlt;k_in)];unfold BRel;dsimp only
        (revert le1 le2;k_in)
      · rw [if_neg hlt];dsimp only;rw [if_neg (by revert b3 hlt;k_in)];exact ⟨b1,b2,b3⟩
theorem all_best (v1:0≤alo∧alo≤ahi∧ahi≤xs.length) (v2:0≤blo∧blo≤bhi∧bhi≤ys.length):∀ (k n:Nat) (old:List (Int×Int)) (best:Tri) (b:Nat×Nat×Nat),(n:Int)+k=ahi - alo→RowIs odd (slN xs alo ahi) (slN ys blo bhi) blo bhi n old→
 EndTo odd (slN xs alo ahi) (slN ys blo bhi) (fun i' _=>i'<n) b→BRel alo blo best b→
 ∃ b',EndTo odd (slN xs alo ahi) (slN ys blo bhi) (fun i' _=>(i':Int)<ahi - alo) b'∧BRel alo blo (fiAll xs ys odd blo bhi k (alo+n) old best) b'
 |0,n,old,best,b,hk,hr,he,hb=>⟨b,he.more (fun i j q=>by revert hk q;k_in) (fun i j q=>.inl (by revert hk q;k_in)),hb⟩
 |k+1,n,old,best,b,hk,hr,he,hb=>by
  have hn:(n:Int)<ahi - alo:=by (revert hk;k_in)
  dsimp only [fiAll]
  obtain ⟨b1,e1,r1⟩:=row_best v1 v2 hn hr (idxO odd (nAt xs (alo+n)) ys) ([],best) b idxO_asc (fun j hj=>hj) (fun j' q1 q2=>by
   dsimp only [eN];rw [if_neg];intro hmt;obtain ⟨m1,m2,m3,m4⟩:=(mt_iff v1 v2).mp hmt
   exact q2 (idxO_mem.mpr ⟨by revert v2;k_in,by revert v2 m2;k_in,m3.symm,m4⟩)) (he.more (fun i j q=>.inl q) fun i j q=>by
   rcases q with q|⟨rfl,q⟩
   · exact .inl q
   · right
     dsimp only [eN];rw [if_neg];intro hmt;obtain ⟨m1,m2,m3,m4⟩:=(mt_iff v1 v2).mp hmt;have:=q _ (idxO_mem.mpr ⟨by revert v2;k_in,by revert v2 m2;k_in,m3.symm,m4⟩)
     (revert this;k_in)) hb
  have:=all_best v1 v2 k (n+1) _ _ b1 (by revert hk;k_in) (row_next (best:=best) v1 v2 hn hr) (e1.more (fun i j q=>by
   rcases q with q|q
   · (revert hk q;k_in)
   · lia) fun i j q=>by
     by_cases h:i<n
     · exact .inl (.inl h)
     · exact .inl (.inr ⟨by revert hk q h;k_in,fun x hx=>by cases hx⟩)) r1
  rw [show alo+((n+1:Nat):Int)=alo+n+1 by k_in] at this;exact this
theorem fiBest_best (v1:0≤alo∧alo≤ahi∧ahi≤xs.length) (v2:0≤blo∧blo≤bhi∧bhi≤ys.length):BRel alo blo (fiBest xs ys odd alo ahi blo bhi) (best odd (slN xs alo ahi) (slN ys blo bhi)):=by
 obtain ⟨b,he,hb⟩:=all_best (xs:=xs) (ys:=ys) (odd:=odd) v1 v2 (ahi - alo).toNat 0 [] (alo,blo,0) (0,0,0) (by revert v1;k_in) (fun j=>by
  show (0:Int)=_
  split
  · cases h:(j - blo+1).toNat with
    |zero=>rfl
    |succ n=>rfl
  · rfl) ⟨fun i j q=>absurd q (Nat.not_lt_zero _),fun _=>⟨rfl,rfl⟩,fun h=>absurd h (yY 0)⟩ ⟨by simp,by simp,rfl⟩
 have hB:=endTo_best he fun i j hi hj=>by
  rw [slN_len v1.1 v1.2.1 v1.2.2] at hi;show (i:Int)<ahi - alo
  (revert hi;k_in)
 have:=IsBest.uniq hB best_is;subst this;rw [show alo+((0:Nat):Int)=alo by k_in] at hb;exact hb
end
end
section
theorem bk_iff {xs ys:List El2}{odd:Int}{want:Bool}{alo blo:Int}{s:Tri}:bkC xs ys odd want alo blo s=true↔alo<s.1∧blo<s.2.1∧decide (nAt ys (s.2.1 - 1)=odd)=want∧nAt xs (s.1 - 1)=nAt ys (s.2.1 - 1):=by
 unfold bkC;simp only [yT,decide_eq_true_eq,beq_iff_eq,and_assoc]
theorem fw_iff {xs ys:List El2}{odd:Int}{want:Bool}{ahi bhi:Int}{s:Tri}:fwC xs ys odd want ahi bhi s=true↔s.1+s.2.2<ahi∧s.2.1+s.2.2<bhi∧decide (nAt ys (s.2.1+s.2.2)=odd)=want∧nAt xs (s.1+s.2.2)=nAt ys (s.2.1+s.2.2):=by
 unfold fwC;simp only [yT,decide_eq_true_eq,beq_iff_eq,and_assoc]
section
variable {xs ys:List El2}{odd alo ahi blo bhi:Int}
theorem back_cond (v1:0≤alo∧alo≤ahi∧ahi≤xs.length) (v2:0≤blo∧blo≤bhi∧bhi≤ys.length) {p q:Nat}{s1 s2 s3:Int}(hp:(p:Int)≤ahi - alo) (hq:(q:Int)≤bhi - blo) (e1:s1=alo+p) (e2:s2=blo+q):
 bkC xs ys odd true alo blo (s1,s2,s3)=true↔0<backN odd (slN xs alo ahi) (slN ys blo bhi) p q:=by
 rw [bk_iff,backN_pos odd (slN xs alo ahi) (slN ys blo bhi) p q];dsimp only;constructor
 · rintro ⟨c1,c2,c3,c4⟩;rw [slN_get v1.1 v1.2.1 v1.2.2,slN_get v2.1 v2.2.1 v2.2.2,if_pos (by revert hp e1 c1;k_in),if_pos (by revert hq e2 c2;k_in)];rw [show alo+((p - 1:Nat):Int)=s1 - 1 by revert e1 c1;k_in,show blo+((q - 1:Nat):Int)=s2 - 1 by revert e2 c2;k_in];exact ⟨by revert e1 c1;k_in,by revert e2 c2;k_in,by rw [c4],by rw [c4,of_decide_eq_true c3]⟩
 · rintro ⟨c1,c2,c3,c4⟩;rw [slN_get v1.1 v1.2.1 v1.2.2,if_pos (by revert hp c1;k_in),show alo+((p - 1:Nat):Int)=s1 - 1 by revert e1 c1;k_in] at c3 c4;rw [slN_get v2.1 v2.2.1 v2.2.2,if_pos (by revert hq c2;k_in),show blo+((q - 1:Nat):Int)=s2 - 1 by revert e2 c2;k_in] at c3;have d3:=l_j c3;have d4:=l_j c4;exact ⟨by revert e1 c1;k_in,by revert e2 c2;k_in,l_t (d3.symm.trans d4),d3⟩
theorem back_runs (v1:0≤alo∧alo≤ahi∧ahi≤xs.length) (v2:0≤blo∧blo≤bhi∧bhi≤ys.length):∀ (k p q:Nat) (s1 s2 s3:Int),backN odd (slN xs alo ahi) (slN ys blo bhi) p q=k→(p:Int)≤ahi - alo→(q:Int)≤bhi - blo→s1=alo+p→s2=blo+q→
 back xs ys odd true alo blo (s1,s2,s3)=(s1 - k,s2 - k,s3+k):=by
 intro k
 induction k with
 |zero=>
  intro p q s1 s2 s3 hk hp hq e1 e2;rw [back_stop (zG.mpr fun h=>absurd ((back_cond v1 v2 hp hq e1 e2).mp h) (by rw [hk];exact yY _))];simp only [Int.natCast_zero,Int.sub_zero,Int.add_zero]
 |succ k ih=>
  intro p q s1 s2 s3 hk hp hq e1 e2;have hb:0<backN odd (slN xs alo ahi) (slN ys blo bhi) p q:=by rw [hk];exact Nat.succ_pos _
  have hpq:=(backN_pos odd (slN xs alo ahi) (slN ys blo bhi) p q).mp hb;have hs:=backN_step odd (slN xs alo ahi) (slN ys blo bhi) 1 p q hb;rw [back_step ((back_cond v1 v2 hp hq e1 e2).mpr hb)];obtain ⟨g1,g2,-⟩:=hpq;clear hb;obtain ⟨N,hN⟩:∃ N,backN odd (slN xs alo ahi) (slN ys blo bhi) p q=N:=⟨_,rfl⟩;rw [hN] at hk hs;rw [ih (p - 1) (q - 1) (s1 - 1) (s2 - 1) (s3+1) (by clear ih;(revert hs hk;k_in)) (by clear ih;(revert hp g1;k_in)) (by clear ih;(revert hq g2;k_in)) (by clear ih;(revert e1 g1;k_in)) (by clear ih;(revert e2 g2;k_in))];rw [show s1 - 1 - (k:Int)=s1 - ((k+1:Nat):Int) by clear ih;k_in,show s2 - 1 - (k:Int)=s2 - ((k+1:Nat):Int) by clear ih;k_in,show s3+1+(k:Int)=s3+((k+1:Nat):Int) by clear ih;k_in]
theorem fwd_cond (v1:0≤alo∧alo≤ahi∧ahi≤xs.length) (v2:0≤blo∧blo≤bhi∧bhi≤ys.length) {p q:Nat}{s1 s2 s3:Int}(e1:s1+s3=alo+p) (e2:s2+s3=blo+q):
 fwC xs ys odd true ahi bhi (s1,s2,s3)=true↔0<frontN odd ((slN xs alo ahi).drop p) ((slN ys blo bhi).drop q):=by
 have pos:=frontN_pos odd ((slN xs alo ahi).drop p) ((slN ys blo bhi).drop q);rw [List.getElem?_drop,List.getElem?_drop,Nat.add_zero,Nat.add_zero] at pos;rw [fw_iff,pos];dsimp only;rw [e1,e2,slN_get v1.1 v1.2.1 v1.2.2,slN_get v2.1 v2.2.1 v2.2.2];constructor
 · rintro ⟨c1,c2,c3,c4⟩;rw [if_pos (by revert c1;k_in),if_pos (by revert c2;k_in)];exact ⟨by rw [c4,of_decide_eq_true c3],by rw [of_decide_eq_true c3]⟩
 · rintro ⟨c1,c2⟩;by_cases h1:(p:Int)<ahi - alo
   · by_cases h2:(q:Int)<bhi - blo
     · rw [if_pos h1] at c1;rw [if_pos h2] at c2;have d1:=l_j c1;have d2:=l_j c2;exact ⟨by revert h1;k_in,by revert h2;k_in,l_t d2,d1.trans d2.symm⟩
     · rw [if_neg h2] at c2;exact absurd c2 nofun
   · rw [if_neg h1] at c1;exact absurd c1 nofun
theorem fwd_runs (v1:0≤alo∧alo≤ahi∧ahi≤xs.length) (v2:0≤blo∧blo≤bhi∧bhi≤ys.length):∀ (k p q:Nat) (s1 s2 s3:Int),frontN odd ((slN xs alo ahi).drop p) ((slN ys blo bhi).drop q)=k→s1+s3=alo+p→s2+s3=blo+q→
 fwd xs ys odd true ahi bhi (s1,s2,s3)=(s1,s2,s3+k):=by
 intro k
 induction k with
 |zero=>
  intro p q s1 s2 s3 hk e1 e2;rw [fwd_stop (zG.mpr fun h=>absurd ((fwd_cond v1 v2 e1 e2).mp h) (by rw [hk];exact yY _))];simp only [Int.natCast_zero,Int.add_zero]
 |succ k ih=>
  intro p q s1 s2 s3 hk e1 e2;have hb:0<frontN odd ((slN xs alo ahi).drop p) ((slN ys blo bhi).drop q):=by rw [hk];exact Nat.succ_pos _
  rw [fwd_step ((fwd_cond v1 v2 e1 e2).mpr hb)];have hs:=frontN_step odd 1 ((slN xs alo ahi).drop p) ((slN ys blo bhi).drop q) hb;rw [List.drop_drop,List.drop_drop,hk] at hs;rw [ih (p+1) (q+1) s1 s2 (s3+1) (Nat.add_right_cancel hs) (by clear ih;(revert e1;k_in)) (by clear ih;(revert e2;k_in))];rw [show s3+1+(k:Int)=s3+((k+1:Nat):Int) by clear ih;k_in]
theorem flm_match (v1:0≤alo∧alo≤ahi∧ahi≤xs.length) (v2:0≤blo∧blo≤bhi∧bhi≤ys.length):BRel alo blo (flm xs ys odd alo ahi blo bhi) (matchP odd (slN xs alo ahi) (slN ys blo bhi)):=by
 have hB:=fiBest_best (odd:=odd) v1 v2;have hI:=best_is (odd:=odd) (ns:=slN xs alo ahi) (ks:=slN ys blo bhi);have hL:Lies (slN xs alo ahi) (slN ys blo bhi) (best odd (slN xs alo ahi) (slN ys blo bhi)):=best_lies _ (yX _);have l1:=slN_len v1.1 v1.2.1 v1.2.2;have l2:=slN_len v2.1 v2.2.1 v2.2.2
 have hm:matchP odd (slN xs alo ahi) (slN ys blo bhi)=(let (p,q,z):=best odd (slN xs alo ahi) (slN ys blo bhi)
  let b:=backN odd (slN xs alo ahi) (slN ys blo bhi) p q
  (p - b,q - b,z+b+frontN odd ((slN xs alo ahi).drop (p+z)) ((slN ys blo bhi).drop (q+z)))):=rfl
 unfold flm;generalize best odd (slN xs alo ahi) (slN ys blo bhi)=pqz at hm hB hI hL;obtain ⟨p,q,z⟩:=pqz;generalize fiBest xs ys odd alo ahi blo bhi=s0 at hB ⊢;obtain ⟨s1,s2,s3⟩:=s0;obtain ⟨e1,e2,e3⟩:=hB;obtain ⟨m1,m2,m3⟩:=hI;obtain ⟨n1,n2⟩:=hL;dsimp only at hm e1 e2 e3 m1 m2 m3 n1 n2
 have runpq:z≤runAt odd (slN xs alo ahi) (slN ys blo bhi) p q:=by
  by_cases h0:z=0
  · (revert h0;k_in)
  · have:=(m3 (by revert h0;k_in)).1;(revert this;k_in)
 have b0:back xs ys odd false alo blo (s1,s2,s3)=(s1,s2,s3):=by
  refine back_stop (zG.mpr fun h=>?_);obtain ⟨c1,c2,c3,c4⟩:=bk_iff.mp h;dsimp only at c1 c2 c3 c4;have hp:0<p:=by (revert e1 c1;k_in)
  have hq:0<q:=by (revert e2 c2;k_in)
  have hz:z≠0:=fun h=>by have:=m2 h;(revert e1 m2 c1 h;k_in)
  have:z+1≤runAt odd (slN xs alo ahi) (slN ys blo bhi) (p - 1) (q - 1):=by
   rw [r_ge];intro t ht;cases t with
   |zero=>
    refine (mt_iff v1 v2).mpr ⟨by revert l1 e1 n1 c1 hz;k_in,by revert l2 e2 n2 c2 hz;k_in,?_,?_⟩
    · rw [show alo+((p - 1+0:Nat):Int)=s1 - 1 by revert e1 c1;k_in,show blo+((q - 1+0:Nat):Int)=s2 - 1 by revert e2 c2;k_in];exact c4
    · rw [show alo+((p - 1+0:Nat):Int)=s1 - 1 by revert e1 c1;k_in,c4];exact of_decide_eq_false c3
   |succ t=>
    have:=(r_ge (odd:=odd) (ns:=slN xs alo ahi) (ks:=slN ys blo bhi) p q z).mp runpq t (by revert ht;k_in);rw [show p - 1+(t+1)=p+t by revert e1 c1;k_in,show q - 1+(t+1)=q+t by revert e2 c2;k_in];exact this
  have:=m1 (p - 1) (q - 1)
  (rename_i z0;revert z0 this;k_in)
 have f0:fwd xs ys odd false ahi bhi (s1,s2,s3)=(s1,s2,s3):=by
  refine fwd_stop (zG.mpr fun h=>?_);obtain ⟨c1,c2,c3,c4⟩:=fw_iff.mp h;dsimp only at c1 c2 c3 c4
  have:z+1≤runAt odd (slN xs alo ahi) (slN ys blo bhi) p q:=by
   rw [r_ge];intro t ht;by_cases e:t<z
   · exact (r_ge (odd:=odd) (ns:=slN xs alo ahi) (ks:=slN ys blo bhi) p q z).mp runpq t e
   · obtain rfl:t=z:=by (revert ht e;k_in)
     refine (mt_iff v1 v2).mpr ⟨by revert e1 c1 e3;k_in,by revert e2 c2 e3;k_in,?_,?_⟩
     · rw [show alo+((p+t:Nat):Int)=s1+s3 by revert e1 e3;k_in,show blo+((q+t:Nat):Int)=s2+s3 by revert e2 e3;k_in];exact c4
     · rw [show alo+((p+t:Nat):Int)=s1+s3 by revert e1 e3;k_in,c4];exact of_decide_eq_false c3
  have:=m1 p q
  (rename_i z0;revert runpq z0 this;k_in)
 rw [b0,f0];have bl:=backN_le odd (slN xs alo ahi) (slN ys blo bhi) p q;rw [back_runs v1 v2 _ p q s1 s2 s3 rfl (by revert v1 l1 n1;k_in) (by revert v2 l2 n2;k_in) e1 e2];rw [fwd_runs v1 v2 _ (p+z) (q+z) _ _ _ rfl (by revert e1 e3;k_in) (by revert e2 e3;k_in),hm];unfold BRel;dsimp only
 (revert e1 e2 e3 bl;k_in)
end
end
noncomputable def castT (b:Nat×Nat×Nat):Tri:=((b.1:Int),(b.2.1:Int),(b.2.2:Int))
theorem slN_take {xs:List El2}{lo hi:Int}{p:Nat}(h0:0≤lo) (h1:lo+p≤hi):(slN xs lo hi).take p=slN xs lo (lo+p):=by
 unfold slN;rw [List.take_drop,List.take_take,Nat.min_eq_left (by revert h0 h1;k_in),show (lo+(p:Int)).toNat=lo.toNat+p by revert h0;k_in]
theorem slN_drop {xs:List El2}{lo hi:Int}{p:Nat}(h0:0≤lo):(slN xs lo hi).drop p=slN xs (lo+p) hi:=by
 unfold slN;rw [List.drop_drop,show (lo+(p:Int)).toNat=lo.toNat+p by revert h0;k_in]
theorem blocks_empty {odd:Int}{N:Nat}{ns ks:List Int}{i j:Nat}(h:ns.length=0∨ks.length=0):blocksF odd N ns ks i j=[]:=by
 cases N with
 |zero=>rfl
 |succ N=>
  dsimp only [blocksF];have hl:=matchP_lies odd ns ks;unfold Lies at hl;rw [if_pos (by revert h hl;k_in)]
theorem RB_blocks {xs ys:List El2}{odd:Int}:∀ (N:Nat) (q:Quad),Vq xs ys q→(q.2.1 - q.1).toNat<N→
 (RB xs ys odd q).Perm ((blocksF odd N (slN xs q.1 q.2.1) (slN ys q.2.2.1 q.2.2.2) q.1.toNat q.2.2.1.toNat).map castT)
 |0,q,_,h=>absurd h (Nat.not_lt_zero _)
 |N+1,q,hv,h=>by
  have hr:BRel q.1 q.2.2.1 (flq xs ys odd q) (matchP odd (slN xs q.1 q.2.1) (slN ys q.2.2.1 q.2.2.2)):=flm_match (odd:=odd) hv.1 hv.2;have hl:=matchP_lies odd (slN xs q.1 q.2.1) (slN ys q.2.2.1 q.2.2.2);unfold Lies at hl;rw [slN_len hv.1.1 hv.1.2.1 hv.1.2.2,slN_len hv.2.1 hv.2.2.1 hv.2.2.2] at hl;obtain ⟨r1,r2,r3⟩:=hr;obtain ⟨⟨v1,v2,v3⟩,v4,v5,v6⟩:=hv;have hv:Vq xs ys q:=⟨⟨v1,v2,v3⟩,v4,v5,v6⟩;dsimp only [blocksF];by_cases h0:(matchP odd (slN xs q.1 q.2.1) (slN ys q.2.2.1 q.2.2.2)).2.2=0
  · rw [if_pos h0,RB_zero (by rw [r3,h0];rfl)];exact .nil
  · rw [if_neg h0,RB_more hv (by rw [r3];(revert h0;k_in))];generalize matchP odd (slN xs q.1 q.2.1) (slN ys q.2.2.1 q.2.2.2)=mp at r1 r2 r3 hl h0 ⊢
    have hR:(if cR (flq xs ys odd q) q then RB xs ys odd (qR (flq xs ys odd q) q) else []).Perm ((blocksF odd N ((slN xs q.1 q.2.1).drop (mp.1+mp.2.2)) ((slN ys q.2.2.1 q.2.2.2).drop (mp.2.1+mp.2.2)) (q.1.toNat+mp.1+mp.2.2) (q.2.2.1.toNat+mp.2.1+mp.2.2)).map castT):=by
     by_cases c:cR (flq xs ys odd q) q
     · rw [if_pos c];have:=RB_blocks (odd:=odd) N _ (vR hv c) (by unfold qR;dsimp only;(revert h v2 r1 r3 hl h0 c;k_in));unfold qR at this ⊢;dsimp only at this ⊢;rw [slN_drop v1,slN_drop v4];rw [show (flq xs ys odd q).1+(flq xs ys odd q).2.2=q.1+((mp.1+mp.2.2:Nat):Int) by revert r1 r3;k_in,show (flq xs ys odd q).2.1+(flq xs ys odd q).2.2=q.2.2.1+((mp.2.1+mp.2.2:Nat):Int) by revert r2 r3;k_in] at this ⊢;rw [show (q.1+((mp.1+mp.2.2:Nat):Int)).toNat=q.1.toNat+mp.1+mp.2.2 by revert v1;k_in,show (q.2.2.1+((mp.2.1+mp.2.2:Nat):Int)).toNat=q.2.2.1.toNat+mp.2.1+mp.2.2 by revert v4 h0;k_in] at this;exact this
     · rw [if_neg c,blocks_empty]
       · exact .nil
       · unfold cR at c;rw [xW,xW,slN_len v1 v2 v3,slN_len v4 v5 v6]
         (revert r1 r2 r3 hl h0 c;k_in)
    have hL:(if cL (flq xs ys odd q) q then RB xs ys odd (qL (flq xs ys odd q) q) else []).Perm ((blocksF odd N ((slN xs q.1 q.2.1).take mp.1) ((slN ys q.2.2.1 q.2.2.2).take mp.2.1) q.1.toNat q.2.2.1.toNat).map castT):=by
     by_cases c:cL (flq xs ys odd q) q
     · rw [if_pos c];have:=RB_blocks (odd:=odd) N _ (vL hv c) (by unfold qL cL at*;dsimp only;(revert h r1 hl h0 c;k_in));unfold qL at this ⊢;dsimp only at this ⊢;rw [slN_take v1 (by revert r1 r3 hl h0 c;k_in),slN_take v4 (by revert r2 r3 hl h0 c;k_in),← r1,← r2];exact this
     · rw [if_neg c,blocks_empty]
       · exact .nil
       · unfold cL at c;rw [yP,yP]
         (revert r1 r2 c;k_in)
    have hs:flq xs ys odd q=castT (q.1.toNat+mp.1,q.2.2.1.toNat+mp.2.1,mp.2.2):=by
     unfold castT;exact Prod.ext (by dsimp only;(revert v1 r1;k_in)) (Prod.ext (by dsimp only;(revert v4 r2;k_in)) (by dsimp only;(revert r3;k_in)))
    rw [zK,zM,← hs];refine .trans ?_ List.perm_middle.symm;refine .cons _ ?_;exact .trans List.perm_append_comm (hL.append hR)
theorem blocks_ord (odd:Int):∀ (N:Nat) (ns ks:List Int) (i j:Nat),(∀ b∈blocksF odd N ns ks i j,i≤b.1∧b.1+b.2.2≤i+ns.length∧0<b.2.2)∧(blocksF odd N ns ks i j).Pairwise (fun a b=>a.1<b.1)
 |0,ns,ks,i,j=>⟨fun b hb=>(by cases hb),.nil⟩
 |N+1,ns,ks,i,j=>by
  have hl:=matchP_lies odd ns ks;dsimp only [blocksF];unfold Lies at hl;by_cases h0:(matchP odd ns ks).2.2=0
  · rw [if_pos h0];exact ⟨fun b hb=>(by cases hb),.nil⟩
  · rw [if_neg h0];generalize matchP odd ns ks=mp at hl h0 ⊢;obtain ⟨a1,a2⟩:=blocks_ord odd N (ns.take mp.1) (ks.take mp.2.1) i j;obtain ⟨b1,b2⟩:=blocks_ord odd N (ns.drop (mp.1+mp.2.2)) (ks.drop (mp.2.1+mp.2.2)) (i+mp.1+mp.2.2) (j+mp.2.1+mp.2.2);rw [yP] at a1;rw [xW] at b1;refine ⟨fun b hb=>?_,List.pairwise_append.mpr ⟨a2,List.pairwise_cons.mpr ⟨fun b hb=>?_,b2⟩,fun a ha b hb=>?_⟩⟩
    · rcases zE.mp hb with hb|hb
      · have:=a1 b hb;(revert hl h0 this;k_in)
      · rcases zL.mp hb with rfl|hb
        · dsimp only;(revert hl h0;k_in)
        · have:=b1 b hb;(revert h0 this;k_in)
    · have:=b1 b hb;dsimp only;(revert h0 this;k_in)
    · have:=a1 a ha;rcases zL.mp hb with rfl|hb
      · dsimp only;(revert hl h0 this;k_in)
      · have:=b1 b hb;(rename_i z0;revert h0 z0 this;k_in)
theorem merged_due:∀ (bs:List (Nat×Nat×Nat)),(∀ b∈bs,0<b.2.2)→∀ (acc:List (Nat×Nat×Nat)) (c:Nat×Nat×Nat),0<c.2.2→
 ∃ acc' c',bs.foldl addDue (acc++[c])=acc'++[c']∧0<c'.2.2∧(bs.map castT).foldl mgStep (castT c,acc.map castT)=(castT c',acc'.map castT)
 |[],_,acc,c,hc=>⟨acc,c,rfl,hc,rfl⟩
 |b::bs,hb,acc,c,hc=>by
  have hb0:=hb b (.head _);rw [xZ,zM,xZ]
  have e1:addDue (acc++[c]) b=if c.1+c.2.2=b.1∧c.2.1+c.2.2=b.2.1 then acc++[(c.1,c.2.1,c.2.2+b.2.2)] else (acc++[c])++[b]:=by
   unfold addDue;rw [List.getLast?_append];simp
  have e2:mgStep (castT c,acc.map castT) (castT b)=if c.1+c.2.2=b.1∧c.2.1+c.2.2=b.2.1 then (castT (c.1,c.2.1,c.2.2+b.2.2),acc.map castT) else (castT b,(acc++[c]).map castT):=by
   unfold mgStep castT;dsimp only;by_cases q:c.1+c.2.2=b.1∧c.2.1+c.2.2=b.2.1
   · rw [if_pos q,if_pos (by revert q;k_in)];rw [Int.natCast_add]
   · rw [if_neg q,if_neg (by revert q;k_in),if_pos (by revert hc;k_in),zK];rfl
  rw [e1,e2];by_cases q:c.1+c.2.2=b.1∧c.2.1+c.2.2=b.2.1
  · rw [if_pos q,if_pos q];exact merged_due bs (fun x hx=>hb x (.tail _ hx)) acc _ (by dsimp only;(revert hc;k_in))
  · rw [if_neg q,if_neg q];exact merged_due bs (fun x hx=>hb x (.tail _ hx)) (acc++[c]) b hb0
theorem join_due {la lb:Int}(bs:List (Nat×Nat×Nat)) (hb:∀ b∈bs,0<b.2.2):joinAll la lb (bs.map castT)=(dueF bs).map castT++[(la,lb,0)]:=by
 cases bs with
 |nil=>rfl
 |cons b bs=>
  have hb0:=hb b (.head _);obtain ⟨acc',c',h1,h2,h3⟩:=merged_due bs (fun x hx=>hb x (.tail _ hx)) [] b hb0;have e1:dueF (b::bs)=acc'++[c']:=h1
  have e2:mgStep ((0,0,0),[]) (castT b)=(castT b,[]):=by
   unfold mgStep castT;dsimp only;by_cases q:(0:Int)+0=b.1∧(0:Int)+0=b.2.1
   · rw [if_pos q,← q.1,← q.2];simp
   · rw [if_neg q,if_neg (by simp)]
  have e3:merged ((b::bs).map castT)=(castT c',acc'.map castT):=by
   unfold merged;rw [zM,xZ,e2];exact h3
  unfold joinAll;rw [e3,e1,if_pos (by unfold castT;dsimp only;(revert h2;k_in)),zK];rfl
theorem perm_asc {l₁ l₂:List Tri}(hp:l₁.Perm l₂) (h1:l₁.Pairwise (fun a b=>a.1<b.1)) (h2:l₂.Pairwise (fun a b=>a.1<b.1)):l₁=l₂:=
 hp.eq_of_pairwise (fun a b _ _ x y=>absurd x (by revert x y;k_in)) h1 h2
theorem gmb_due {xs ys:List El2}{odd:Int}{bs:List Tri}(h:GmbR xs ys odd (0,(xs.length:Int),0,(ys.length:Int)) bs):bs=(dueP odd (xs.map (·.2)) (ys.map (·.2))).map castT:=by
 obtain ⟨ts',hp,hs,rfl⟩:=h;have hv:Vq xs ys (0,(xs.length:Int),0,(ys.length:Int)):=⟨⟨yW _,by dsimp only;k_in,yW _⟩,yW _,by dsimp only;k_in,yW _⟩;have hb:=RB_blocks (odd:=odd) (xs.length+1) _ hv (by dsimp only;lia);dsimp only at hb;have ex:slN xs 0 xs.length=xs.map (·.2):=by unfold slN;simp [List.take_of_length_le]
 have ey:slN ys 0 ys.length=ys.map (·.2):=by unfold slN;simp [List.take_of_length_le]
 rw [ex,ey] at hb;change (RB xs ys odd _).Perm ((blocksF odd (xs.length+1) (xs.map (·.2)) (ys.map (·.2)) 0 0).map castT) at hb;obtain ⟨o1,o2⟩:=blocks_ord odd (xs.length+1) (xs.map (·.2)) (ys.map (·.2)) 0 0
 have ho:((blocksF odd (xs.length+1) (xs.map (·.2)) (ys.map (·.2)) 0 0).map castT).Pairwise (fun a b=>a.1<b.1):=by
  rw [List.pairwise_map];exact o2.imp fun {a b} h=>by unfold castT;dsimp only;(revert h;k_in)
 obtain rfl:=perm_asc (hp.trans hb) hs ho;rw [join_due _ fun b hb=>(o1 b hb).2.2];unfold dueP;rw [zO,zO,zK];rfl
local macro_rules | `(tactic| wtm_at $s) => mgx s "g" "id_name: n_own W hm:m3 hC:a1 hz:a2 ? hk:u hl:u hd:k"
section
open PyProof.Rows.LCg
theorem find_gmb {P:Params}:findIn (KF PW P) (.ref 257) (zQ "get_matching_blocks")=some (some (.ref 218)):=by k_ne
theorem joinAll_len (la lb:Int) (ts:List Tri):(joinAll la lb ts).length≤ts.length+2:=by
 have h:=merged_len ts ts.length;rw [yR] at h;unfold joinAll;unfold merged at*;split <;> simp only [zD,yU,yA] <;> (revert h;k_in)
theorem GmbR.len {xs ys odd bs} (h:GmbR xs ys odd (0,(xs.length:Int),0,(ys.length:Int)) bs):bs.length≤xs.length+2:=by
 obtain ⟨ts,hp,-,rfl⟩:=h;have hv0:Vq xs ys (0,(xs.length:Int),0,(ys.length:Int)):=⟨⟨yW _,by dsimp only;k_in,yW _⟩,⟨yW _,by dsimp only;k_in,yW _⟩⟩;have this:_≤_:=And.left (RB_facts (odd:=odd) _ _ hv0 (yX _));have h2:=joinAll_len xs.length ys.length ts;rw [hp.length_eq] at h2;dsimp only at this
 (revert this h2;k_in)
theorem told_body {w A L' g h t σ} {K:Kd w}{x dx one two bd bj:zV}{od jo:Obj}{ep:Nat}{j bp:zV}{odd:Int}{xs ys:List El2}{rows:List Rw}{f:zV}{m} {Q:FP}{E:VP}
 (FA:Frm A (envX n153 (dS (st PW 18)) L' f (.ref 321) [])) (sb:SB w A L' g) (KF:KdF K) (KE:KdE K) (Z:Site w A L' g) (W:Wk g L' h m [(dx,od)]) (room:A.depth+5<zS) (ru:A.units+190<cLine)
 (M:MsL w K x dx one two bd bj od jo ep j bp odd xs ys rows g []) (zx:xs.length≤50) (zy:ys.length≤50) (e1:m (zQ "matcher")=some (.ref x))
 (ke:∀ e h' t',Fl A g [(dx,od)] e .fly h'→(∃ z∈xs,¬ K.ok z.2)→Q (.ret .none) (S σ h' t'))
 (k:∀ h' t' m' D ps bs n jk,GmbR xs ys odd (0,(xs.length:Int),0,(ys.length:Int)) bs→TRows ps bs→(∀ z∈xs,K.ok z.2)→Wk g L' h' m' ((D,lob (refs ps) n)::(ps++jk))→Q (.ret (.ref D)) (S σ h' t')):
 zZ (zW PW w) A (execs (dB (st PW 18)) (envX n153 (dS (st PW 18)) L' f (.ref 321) [])) Q E (S σ h t):=by
 have ab:=W.fr.above;obtain ⟨⟨hx,h1,h2⟩,-⟩:=M.2 _ (fun _ _ e=>e) (fun p hp=>by cases hp);have sd:=M.1;with_unfolding_all refine x_cons ?_
 with_reducible refine x_tryNone (m:=m) (keep:=[(dx,od)]) FA sb ab ?_ (by k_ne) (by k_ne)
 kd_p;refine e_lcU W Z.hh ?_ (by rfl) (by decide) (by rfl) (by decide) (by rfl) (by intro _;rfl);kd_p;refine g_meth (f:=218) Z W (W.kp _ _ hx) (W.get (.head _)) sd (by k_ne) (by k_ne) find_gmb (by k_ne) ?_;with_reducible refine c_fn10 Z W (by k_ne) ?_
 refine gmb_spec (K:=K) (rest:=[]) KF KE Z W (by lia) (by lia) M zx zy ?_ ?_
 · intro e h' t' x hn hb;exact ⟨e,.fly,h',t',rfl,rfl,trivial,x,hn,fun h'' t'' y=>ke e h'' t'' y hb⟩
 · intro h' t' D n ms bs od' jk hbs hms hok W';wtm_at "w";have hml:=hms.len;have hbl:=hbs.len;refine lcU (vs:=refs ms) (fun i ys nw=>∃ ps jk2,ys=refs ps∧TRows ps (bs.take i)∧nw=(D,lob (refs ms) n)::(ms++(ps++jk2))) (W.perm (news':=(D,lob (refs ms) n)::(ms++([]++((dx,od')::jk)))) (by wtm_at "p")) (.inr ⟨_,.head _,rfl,n,rfl⟩) (by rw [zO];(revert zx hml hbl;k_in)) ⟨[],_,rfl,.nil,rfl⟩ ?_ ?_ ?_
   · rintro i ys nw ⟨ps,jk2,rfl,hps,rfl⟩;exact .inr ⟨_,.head _,rfl,n,rfl⟩
   · clear W;rintro i ys nw v I oI C oC D2 m₂ h t E' hi hv ⟨ps,jk2,rfl,hps,rfl⟩ hC hz W;have hi':i<ms.length:=by rw [zO] at hi;exact hi
     have hmi:ms[i]? =some ms[i]:=l_e hi';rw [zF,hmi] at hv;obtain rfl:=l_j hv;obtain ⟨⟨i2,j2,k2⟩,htr,dd,s1,s2,s3,hob⟩:=hms.at hmi;dsimp only at hob;have hmem:(ms[i].1,mob dd [.int i2 s1,.int j2 s2,.int k2 s3])∈ms:=by rw [← hob];exact List.getElem_mem hi'
     kd_p;refine mb_t0 (W.inK Z) (W.get (by wtm_at "m")) ?_ (by wtm_at "u");kd_p;refine mb_t1 (W.inK Z) (W.get (by wtm_at "m")) ?_ (by wtm_at "u");kd_p;refine mb_t2 (W.inK Z) (W.get (by wtm_at "m")) ?_ (by wtm_at "u");kd_p;with_reducible rename zV=>tl
     obtain ⟨ot,hrow,W'⟩:=name_trow W;wtm_at "w";refine ⟨_,_,(D,lob (refs ms) n)::(ms++((ps++[(tl,ot)])++jk2)),rfl,W.perm (by wtm_at "p"),ps++[(tl,ot)],jk2,by simp [refs],?_,rfl⟩;rw [yS,htr];exact hps.snoc hrow
   · rintro ys nw ⟨ps,jk2,rfl,hps,rfl⟩ nd D2 h t W;rw [zO,hml,yR] at hps;with_reducible refine x_ret ?_
     exact k _ _ _ D2 ps bs _ _ hbs hps hok (W.perm (news':=(D2,lob (refs ps) (refs ps).length)::(ps++((D,lob (refs ms) n)::(ms++jk2)))) (by wtm_at "p"))
theorem told_spec {w A L h₀ h t σ m rest} {K:Kd w}{x dx one two bd bj:zV}{od jo:Obj}{ep:Nat}{j bp:zV}{odd:Int}{xs ys:List El2}{rows:List Rw}{Q E:VP}
 (KF:KdF K) (KE:KdE K) (l1:L1 A) (Z:Site w A L h₀) (W:Wk h₀ L h m ((dx,od)::rest)) (room:A.depth+6<zS) (ru:A.units+200<cLine) (M:MsL w K x dx one two bd bj od jo ep j bp odd xs ys rows h₀ rest) (zx:xs.length≤50) (zy:ys.length≤50)
 (k:∀ h' t' D ps bs n jk,GmbR xs ys odd (0,(xs.length:Int),0,(ys.length:Int)) bs→TRows ps bs→(∀ z∈xs,K.ok z.2)→Wk h₀ L h' m ((D,lob (refs ps) n)::(ps++(jk++rest)))→Q (.ref D) (S σ h' t'))
 (ke:∀ h' t',Wk h₀ L h' m ((dx,od)::rest)→(∃ z∈xs,¬ K.ok z.2)→Q .none (S σ h' t')):
 zZ (zW PW w) A (call (.ref 322) [.ref x]) Q E (S σ h t):=
 fn_try1 (mu:=[(dx,od)]) (rest:=rest) (binds:=[(zQ "matcher",.ref x)]) [(dx,od)] Z l1 W (by lia) (by rfl) (by k_ne) (BindsTo.of_eq (by k_ne)) (locs (by k_ne)) (by decide) (by k_ne) (by k_ne) (by k_ne) (by simp)
  fun L' h₁ t₁ et FA sb Z' W'=>
  told_body (K:=K) (x:=x) (dx:=dx) (one:=one) (two:=two) (bd:=bd) (bj:=bj) (od:=od) (jo:=jo) (ep:=ep) (j:=j) (bp:=bp) (odd:=odd) (xs:=xs) (ys:=ys) (rows:=rows) FA sb KF KE Z' W' (by show A.depth+1+5<_;lia) (by show A.units+3+190<_;lia)
   ⟨M.1,fun H k1 _=>M.2 H ((kpu (mu:=[(dx,od)]) W).trans k1) fun p hp=>k1 _ _ (gndall (mu:=[(dx,od)]) W hp)⟩ zx zy (by k_ne)
   (fun e h' t' x hb=>.inr ⟨h',t',e,_,rfl,x,fun W₃=>ke h' t' W₃ hb⟩)
   (fun h' t' m' D ps bs n jk hbs hps hok W₂=>.inl ⟨h',t',_,_,rfl,W₂,fun W₃=>k h' t' D ps bs n jk hbs hps hok (by simpa using W₃)⟩)
end
section
section
variable {w:zT}{A:zU}{E:VP}{σ:zX}{h₀ h h':Heap}{t:Nat}{L:zV}{m:NM}{news:Led}
theorem Wk.chg {cs cs':Led}(W:Wk h₀ L h m (cs++news)) (ha:cs'.map (·.1)=cs.map (·.1)) (hk:∀ c o,c∉cs.map (·.1)→h.get? c=some o→h'.get? c=some o) (hc:∀ p∈cs',h'.get? p.1=some p.2):Wk h₀ L h' m (cs'++news):=by
 have hin:∀ c,c∈cs.map (·.1)→c≠L∧h₀.get? c=none:=fun c q=>by
  obtain ⟨p,hp,rfl⟩:=zN.mp q;exact (W.nw p (l_l _ hp)).2
 obtain ⟨oL,es,ep,hL,r⟩:=W.fr.ns;have nd:=W.nd;rw [zK,yQ] at nd;refine ⟨⟨⟨oL,es,ep,hk _ _ (fun q=>(hin _ q).1 rfl) hL,r⟩,fun b o e=>hk _ _ (fun q=>by have:=(hin _ q).2;rw [e] at this;cases this) (W.fr.keep _ _ e),W.fr.above⟩,fun p hp=>?_,?_⟩
 · rcases zE.mp hp with hp|hp
   · have q:p.1∈cs.map (·.1):=by rw [← ha];exact l_o hp
     exact ⟨hc p hp,hin _ q⟩
   · have z:=W.nw p (l_r _ hp);exact ⟨hk _ _ (fun q=>nd.2.2 _ q _ (l_o hp) rfl) z.1,z.2⟩
 · rw [zK,ha,← zK];exact W.nd
theorem Wk.fresh (W:Wk h₀ L h m news):(∀ p∈news,p.1≠h.objs.size)∧h.objs.size≠L∧h₀.get? h.objs.size=none:=by
 refine ⟨fun p hp e=>?_,fun e=>?_,?_⟩
 · exact absurd (zB (W.nw p hp).1) (by rw [e];exact yY _)
 · obtain ⟨oL,es,ep,hL,_⟩:=W.fr.ns;exact absurd (zB hL) (by rw [← e];exact yY _)
 · cases z:h₀.get? h.objs.size with
   |none=>rfl
   |some o=>exact absurd (zB (W.fr.keep _ _ z)) (yY _)
theorem Wk.add {a:zV}{o:Obj}(W:Wk h₀ L h m news) (ho:h.get? a=some o) (h1:∀ p∈news,p.1≠a) (h2:a≠L) (h3:h₀.get? a=none):Wk h₀ L h m ((a,o)::news):=by
 refine ⟨W.fr,fun p hp=>?_,?_⟩
 · rcases zL.mp hp with rfl|hp
   · exact ⟨ho,h2,h3⟩
   · exact W.nw p hp
 · rw [zM,zJ];refine ⟨fun q=>?_,W.nd⟩;obtain ⟨p,hp,e⟩:=zN.mp q;exact h1 p hp e
noncomputable def zob (TI TO:zV):Obj:={ cls:=.type "zip",dict:=none,data:=.fields #[.none,.bool false,.bool false,.ref TI,.ref TO],slots:=#[] }
noncomputable def pob (a b:zY):Obj:={ cls:=.type "tuple",data:=.seq #[a,b] }
theorem nm {x y:zV}{l:List zV}(h:x∉l) (m:y∈l):y≠x:=fun e=>h (e ▸ m)
theorem zap {z TI TO i1 i2 l1 l2:zV}{r:List zV}(nd:(z::TO::i1::i2::TI::r).Nodup) (hap:∀ c,c=z∨c=TO∨c=i1∨c=i2→l1≠c∧l2≠c):ZipApart z TI TO i1 i2 l1 l2:=by
 obtain ⟨a,nd⟩:=zJ.mp nd;obtain ⟨b,nd⟩:=zJ.mp nd;obtain ⟨c,nd⟩:=zJ.mp nd;obtain ⟨d,nd⟩:=zJ.mp nd;have p:=hap _ (.inl rfl);have q:=hap _ (.inr (.inl rfl));have r:=hap _ (.inr (.inr (.inl rfl)));have s:=hap _ (.inr (.inr (.inr rfl)));exact ⟨nm a (by wtm_at "m"),nm a (by wtm_at "m"),nm a (by wtm_at "m"),nm a (by wtm_at "m"),nm b (by wtm_at "m"),nm c (by wtm_at "m"),nm d (by wtm_at "m"),(nm b (by wtm_at "m")).symm,(nm b (by wtm_at "m")).symm,(nm c (by wtm_at "m")).symm,p.1,q.1,r.1,s.1,p.2,q.2,r.2,s.2⟩
theorem stp_zip (hh:A.handled=none) (z TI TO i1 i2 l1 l2:zV) (xs ys:List zY) (hl:xs.length=ys.length) {elts:List Expr}{x1} {pos:Pos}:StpT w A (.Tuple elts x1 pos) (.ref z) xs.length (fun h=>Ls h l1 xs∧Ls h l2 ys∧∀ c,c=z∨c=TO∨c=i1∨c=i2→l1≠c∧l2≠c)
 (fun i own=>∃ a b o1 o2 junk,own=(z,zob TI TO)::(TO,pob a b)::(i1,o1)::(i2,o2)::(TI,pob (.ref i1) (.ref i2))::junk∧liob l1 i o1∧liob l2 i o2)
 (fun i v own=>∃ a b o1 o2 junk T x y,own=(z,zob TI TO)::(TO,pob a b)::(i1,o1)::(i2,o2)::(TI,pob (.ref i1) (.ref i2))::(T,tob [x,y] 0)::junk∧liob l1 (i+1) o1∧liob l2 (i+1) o2∧v= .ref T∧xs[i]? =some x∧ys[i]? =some y) where
 item:=by
  rintro i h₀ L h m news own σ t Q E hi ⟨a,b,o1,o2,junk,rfl,ho1,ho2⟩ ⟨hl1,hl2,hap⟩ W k;obtain ⟨x,hx⟩:∃ v,xs[i]? =some v:=⟨xs[i],by simp [hi]⟩;obtain ⟨y,hy⟩:∃ v,ys[i]? =some v:=⟨ys[i]'(by lia),by simp⟩;have D:=zap (show (z::TO::i1::i2::TI::(junk++news).map (·.1)).Nodup from W.nd) hap;refine wpAny_pyNext_zip_item (s:=S σ h t) (k1:=i) (k2:=i) (xs:=xs.toArray) (ys:=ys.toArray) (x:=x) (y:=y) (a:=a) (b:=b) D (W.get (.head _)) (W.get (show (TI,pob (.ref i1) (.ref i2))∈_ by wtm_at "m")) (W.get (show (TO,pob a b)∈_ by wtm_at "m")) ⟨o1,W.get (show (i1,o1)∈_ by wtm_at "m"),ho1⟩ ⟨o2,W.get (show (i2,o2)∈_ by wtm_at "m"),ho2⟩ hl1 hl2 (by simpa using hx) (by simpa using hy) fun h' hz' hTO' hi1' hi2' hT hsz hk=>?_;obtain ⟨o1',ho1',hl1'⟩:=hi1';obtain ⟨o2',ho2',hl2'⟩:=hi2';have f:=W.fresh
  have W1:Wk h₀ L h' m ([(z,{ cls:=.type "zip",dict:=none,data:=.fields #[rawInt h.objs.size,.bool false,.bool false,.ref TI,.ref TO],slots:=#[] }),(TO,pob x y),(i1,o1'),(i2,o2')]++((TI,pob (.ref i1) (.ref i2))::(junk++news))):=by
   refine Wk.chg (cs:=[(z,zob TI TO),(TO,pob a b),(i1,o1),(i2,o2)]) W rfl (fun c o hc e=>hk c o (fun q=>hc (q ▸ .head _)) (fun q=>hc (q ▸ .tail _ (.head _))) (fun q=>hc (q ▸ .tail _ (.tail _ (.head _)))) (fun q=>hc (q ▸ .tail _ (.tail _ (.tail _ (.head _))))) e) ?_;intro p hp;simp only [zL,List.not_mem_nil,or_false] at hp;rcases hp with rfl|rfl|rfl|rfl
   · exact hz'
   · exact hTO'
   · exact ho1'
   · exact ho2'
  have W2:=Wk.add (a:=h.objs.size) (o:=tob [x,y] 0) W1 hT (fun p hp=>by
   have:p.1∈([(z,zob TI TO),(TO,pob a b),(i1,o1),(i2,o2)]++((TI,pob (.ref i1) (.ref i2))::(junk++news))).map (·.1):=by
    have:=l_o (f:=fun p:zV×Obj=>p.1) hp;exact this
   obtain ⟨q,hq,e⟩:=zN.mp this;rw [← e]
   exact f.1 q hq) f.2.1 f.2.2
  refine wpAny_letOwnedTupleGo_zip (s:=S σ h' t) hz' fun h'' hz'' hs''=>?_;have W3:=(W2.perm (news':=(z,{ cls:=.type "zip",dict:=none,data:=.fields #[rawInt h.objs.size,.bool false,.bool false,.ref TI,.ref TO],slots:=#[] })::(TO,pob x y)::(i1,o1')::(i2,o2')::(TI,pob (.ref i1) (.ref i2))::(h.objs.size,tob [x,y] 0)::(junk++news)) (by wtm_at "p")).upd hs'' hz'';exact k ((z,zob TI TO)::(TO,pob x y)::(i1,o1')::(i2,o2')::(TI,pob (.ref i1) (.ref i2))::(h.objs.size,tob [x,y] 0)::junk) (.ref h.objs.size) h'' _ ⟨x,y,o1',o2',junk,h.objs.size,x,y,rfl,hl1',hl2',rfl,hx,hy⟩ W3
 next:=by
  rintro i v own ⟨a,b,o1,o2,junk,T,x,y,rfl,h1,h2,-⟩;exact ⟨a,b,o1,o2,_,rfl,h1,h2⟩
 done:=by
  rintro h₀ L h m news own σ t Q E ⟨a,b,o1,o2,junk,rfl,ho1,ho2⟩ ⟨hl1,hl2,hap⟩ W k;have D:=zap (show (z::TO::i1::i2::TI::(junk++news).map (·.1)).Nodup from W.nd) hap;refine wpAny_pyNext_zip_end (s:=S σ h t) (k1:=xs.length) (k2:=xs.length) (xs:=xs.toArray) (ys:=ys.toArray) (a:=a) (b:=b) hh D (W.get (.head _)) (W.get (show (TI,pob (.ref i1) (.ref i2))∈_ by wtm_at "m")) (W.get (show (TO,pob a b)∈_ by wtm_at "m")) ⟨o1,W.get (show (i1,o1)∈_ by wtm_at "m"),ho1⟩ ⟨o2,W.get (show (i2,o2)∈_ by wtm_at "m"),ho2⟩ hl1 hl2 (.inl (by simp)) fun h' hk=>k h' _ ?_
  have W0:Wk h₀ L h m ([(z,zob TI TO),(TO,pob a b),(i1,o1),(i2,o2)]++((TI,pob (.ref i1) (.ref i2))::(junk++news))):=W
  have:Wk h₀ L h' m ((TI,pob (.ref i1) (.ref i2))::(junk++news)):=by
   obtain ⟨oL,es,ep,hL,r⟩:=W0.fr.ns
   have hin:∀ c,c∈([(z,zob TI TO),(TO,pob a b),(i1,o1),(i2,o2)]).map (·.1)→c≠L∧h₀.get? c=none:=fun c q=>by
    obtain ⟨p,hp,rfl⟩:=zN.mp q;exact (W0.nw p (l_l _ hp)).2
   have hk':∀ c o,c∉([(z,zob TI TO),(TO,pob a b),(i1,o1),(i2,o2)]).map (·.1)→h.get? c=some o→h'.get? c=some o:=fun c o hc e=>hk c o (fun q=>hc (q ▸ .head _)) (fun q=>hc (q ▸ .tail _ (.head _))) (fun q=>hc (q ▸ .tail _ (.tail _ (.head _)))) (fun q=>hc (q ▸ .tail _ (.tail _ (.tail _ (.head _))))) e
   have nd:=W0.nd;rw [zK,yQ] at nd;refine ⟨⟨⟨oL,es,ep,hk' _ _ (fun q=>(hin _ q).1 rfl) hL,r⟩,fun b o e=>hk' _ _ (fun q=>by have:=(hin _ q).2;rw [e] at this;cases this) (W0.fr.keep _ _ e),W0.fr.above⟩,fun p hp=>?_,nd.2.1⟩;have z:=W0.nw p (l_r _ hp);exact ⟨hk' _ _ (fun q=>nd.2.2 _ q _ (l_o hp) rfl) z.1,z.2⟩
  exact this.drop (by simp)
end
end
section
open PySem.SeqAt
section
variable {w:zT}{A:zU}{E:VP}{σ:zX}{h₀ h h':Heap}{t:Nat}{L:zV}{m:NM}{news:Led}
theorem c_zip {l1 l2:zV}{xs ys:List zY}{Q:VP}(W:Wk h₀ L h m news) (hl1:Ls h l1 xs) (hl2:Ls h l2 ys)
 (k:∀ z TI TO i1 i2 o1 o2 h',liob l1 0 o1→liob l2 0 o2→(∀ c,c=z∨c=TO∨c=i1∨c=i2→l1≠c∧l2≠c)→Wk h₀ L h' m ((z,zob TI TO)::(TO,pob .none .none)::(i1,o1)::(i2,o2)::(TI,pob (.ref i1) (.ref i2))::news)→Kp h h'→Q (.ref z) (S σ h' t)):
 zZ (zW PW w) A (call (.type "zip") [.ref l1,.ref l2]) Q E (S σ h t):=by
 refine callType_new (s:=S σ h t) PySem.F.called_zip (by decide) (PySem.F.typeCall_zip_2 _ _) (PySem.F.newCall_zip_2 _ _) (fun obj=>PySem.F.args_object_init_3 obj _ _) PySem.F.entry_zip_new (meets_zip_new l1 l2 xs.toArray ys.toArray) ⟨hl1,hl2,?_⟩;have W1:=W.new { cls:=.type "list_iterator",data:=.fields #[.ref l1,.int 0 0] } rfl;have W2:=W1.new { cls:=.type "list_iterator",data:=.fields #[.ref l2,.int 0 0] } rfl;have W3:=W2.new (pob (.ref h.objs.size) (.ref (zipH1 h l1).objs.size)) rfl;have W4:=W3.new (pob .none .none) rfl;have W5:=W4.new (zob (zipH2 h l1 l2).objs.size (zipH3 h l1 l2).objs.size) rfl;have kp:Kp h (zipH5 h l1 l2):=(Kp.push _ _).trans ((Kp.push _ _).trans ((Kp.push _ _).trans ((Kp.push _ _).trans (Kp.push _ _))));have lt1:l1<h.objs.size:=by obtain ⟨_,e,_⟩:=hl1;exact zB e
 have lt2:l2<h.objs.size:=by obtain ⟨_,e,_⟩:=hl2;exact zB e
 have z1:(zipH1 h l1).objs.size=h.objs.size+1:=Heap.size_push ..;have z2:(zipH2 h l1 l2).objs.size=h.objs.size+2:=by rw [Heap.size_push,z1]
 have z3:(zipH3 h l1 l2).objs.size=h.objs.size+3:=by rw [Heap.size_push,z2]
 have z4:(zipH4 h l1 l2).objs.size=h.objs.size+4:=by rw [Heap.size_push,z3]
 refine ⟨⟨_,yO _ rfl,rfl⟩,k (zipH4 h l1 l2).objs.size (zipH2 h l1 l2).objs.size (zipH3 h l1 l2).objs.size h.objs.size (zipH1 h l1).objs.size { cls:=.type "list_iterator",data:=.fields #[.ref l1,.int 0 0] } { cls:=.type "list_iterator",data:=.fields #[.ref l2,.int 0 0] } _ ⟨rfl,rfl⟩ ⟨rfl,rfl⟩ ?_ (W5.perm (by wtm_at "p")) kp⟩;intro c hc;have far:∀ {n:Nat}{l:zV},l<h.objs.size→h.objs.size≤n→l≠n:=fun a b e=>absurd (Nat.lt_of_lt_of_le a b) (by rw [e];exact yY _)
 rcases hc with rfl|rfl|rfl|rfl
 · exact ⟨far lt1 (by show h.objs.size≤(zipH4 h l1 l2).objs.size;rw [z4];exact Nat.le_add_right ..),far lt2 (by show h.objs.size≤(zipH4 h l1 l2).objs.size;rw [z4];exact Nat.le_add_right ..)⟩
 · exact ⟨far lt1 (by rw [z3];exact Nat.le_add_right ..),far lt2 (by rw [z3];exact Nat.le_add_right ..)⟩
 · exact ⟨far lt1 (yX _),far lt2 (yX _)⟩
 · exact ⟨far lt1 (by show h.objs.size≤(zipH1 h l1).objs.size;rw [z1];exact Nat.le_add_right ..),far lt2 (by show h.objs.size≤(zipH1 h l1).objs.size;rw [z1];exact Nat.le_add_right ..)⟩
theorem z_iter {z TI TO:zV}{Q:VP}(hz:h.get? z=some (zob TI TO)) (k:Q (.ref z) (S σ h t)):zZ (zW PW w) A (pyIter (.ref z)) Q E (S σ h t):=wpAny_pyIter_zip (s:=S σ h t) hz k
def HT (h:Heap) (v:zY):Prop:=∃ X,(∀ (σ:zX) (t:Nat),(S σ h t).TypeIs v X)∧(Value.type X==Value.type "builtin_function_or_method")=false
theorem reads_type {h:Heap}{v:zY}{d:PyData}{as:List zV}(r:Reads h v d as):HT h v:=by
 induction r using Reads.casesOn with
 |none=>exact ⟨"NoneType",fun _ _=>rfl,by decide⟩
 |bool b=>exact ⟨"bool",fun _ _=>PySem.typeIs_bool _ _,by decide⟩
 |int i t=>exact ⟨"int",fun _ _=>typeIs_int _ _ _,by decide⟩
 |str y t=>exact ⟨"str",fun _ _=>rfl,by decide⟩
 |list ho hc=>exact ⟨"list",fun _ _=>⟨_,ho,hc⟩,by decide⟩
 |tuple ho hc=>exact ⟨"tuple",fun _ _=>⟨_,ho,hc⟩,by decide⟩
 |dict ho hc=>exact ⟨"dict",fun _ _=>⟨_,ho,hc⟩,by decide⟩
theorem el_type {h:Heap}{v:zY}{k:Nat}(hx:El w h v k) (hk:k<10):HT h v:=by
 obtain ⟨-,as,r⟩:=hx.plain (by revert hk;k_in) (by revert hk;k_in);exact reads_type r
theorem ne_str (x:Str) (t u:Tok) {s:zX}:RcNeAt A s (.str x t) (.str x u) false:=by
 have:=RcNeAt.str_str (A:=A) (s:=s) x t x u;rw [show (!(x==x))=false by simp] at this;exact this
theorem reads_ne {v:zY}{d:PyData}{as:List zV}(r:Reads h v d as) (hl:d.canLay0=true) (hu:A.units+60<cLine):RcNeAt A (S σ h t) v v false:=by
 induction r using Reads.casesOn with
 |none=>exact RcNeAt.none_none
 |bool b=>cases b;exact RcNeAt.bool_bool false false;exact RcNeAt.bool_bool true true
 |int i u=>have:=RcNeAt.int_int (A:=A) (s:=S σ h t) i u i u;rw [show (!(i==i))=false by simp] at this;exact this
 |str y u=>exact ne_str y u u
 |@list a o vs n xs as ho hc hd _=>
  have hT:(S σ h t).heap.IsList a vs:=⟨o,ho,hc,n,hd⟩;have:=RcNeAt.lists (A:=A) (e:=fun _=>true) hT hT rfl (by lia) (fun j h1 h2=>EqAt.same _);rw [show (!((xY vs.size).all (fun _=>true)))=false by simp] at this;exact this
 |@tuple a o vs n xs as ho hc hd _=>
  have hT:(S σ h t).heap.IsTuple a vs:=⟨o,ho,hc,n,hd⟩;have:=RcNeAt.tuples (A:=A) (e:=fun _=>true) hT hT (by lia) (fun j h1 h2=>EqAt.same _);rw [show (!((xY (min vs.size vs.size)).all (fun _=>true)&&vs.size==vs.size))=false by simp] at this;exact this
 |dict=>simp [PyData.canLay0] at hl
theorem el_ne {v:zY}{k:Nat}(hx:El w h v k) (hk:k<10) (hu:A.units+60<cLine):RcNeAt A (S σ h t) v v false:=by
 obtain ⟨h1,as,r⟩:=hx.plain (by revert hk;k_in) (by revert hk;k_in);exact reads_ne r (datK_lay k h1 (by revert hk;k_in) (by revert hk;k_in)).1 hu
end
section
variable {M:Model}{A:zU}{E:VP}{env:Env}
theorem i_or {x y rest pos whole} {Q:Bool→zX→Prop}{s:zX}(k:zZ M A (isTrue x env (eval x env)) (fun c s'=>if c=true then Q true s' else zZ M A (isTrue (.BoolOp .Or (y::rest) pos) env whole) Q E s') E s):zZ M A (isTrue (.BoolOp .Or (x::y::rest) pos) env whole) Q E s:=isTrue_or k
theorem i_or1 {x pos whole} {Q:Bool→zX→Prop}{s:zX}(k:zZ M A (isTrue x env (eval x env)) Q E s):zZ M A (isTrue (.BoolOp .Or [x] pos) env whole) Q E s:=
 isTrue_or (w_m k (fun c s' q=>by cases c;exact isTrue_or_nil q;exact q) fun _ _ e=>e)
end
end
local macro_rules | `(tactic| wtm_at $s) => mgx s "g" "id_true: i_or ?; i_or1 ?"
section
open PySem.SeqAt
theorem same_body {w A L' g h t σ} {l1 l2:zV}{vs:List zY}{f:zV}{m} {Q:FP}{E:VP}
 (Z:Site w A L' g) (W:Wk g L' h m []) (ru:A.units+80<cLine) (h1:Ls g l1 vs) (h2:Ls g l2 vs) (hz:vs.length≤100) (hv:∀ v∈vs,∃ k,k<10∧El w g v k)
 (e1:m (zQ "told")=some (.ref l1)) (e2:m (zQ "due")=some (.ref l2))
 (k:∀ h' t' m',Wk g L' h' m' []→Q (.ret (.bool true)) (S σ h' t')):
 zZ (zW PW w) A (execs (dB (st PW 20)) (envX n155 (dS (st PW 20)) L' f (.ref 335) [])) Q E (S σ h t):=by
 with_unfolding_all refine x_cons ?_
 kd_p;refine b_len (h1.kp W.kp) (by lia) fun _ _=>?_;kd_p;refine b_len (h2.kp W.kp) (by lia) fun _ _=>?_;kd_p
 · rename_i q;exact absurd rfl q
 refine x_for ?_ (by intro _;rfl);kd_p;refine c_zip W (h1.kp W.kp) (h2.kp W.kp) fun z TI TO i1 i2 o1 o2 h' ho1 ho2 hap W' _=>?_;wtm_at "w";refine z_iter (W.get (.head _)) ?_;refine for_loopX (own:=[(z,zob TI TO),(TO,pob .none .none),(i1,o1),(i2,o2),(TI,pob (.ref i1) (.ref i2))]) (news:=[]) (fun i m' news'=>True) (stp_zip Z.hh z TI TO i1 i2 l1 l2 vs vs rfl) (fun i m' news' own' h' _ W=>⟨h1.kp W.kp,h2.kp W.kp,hap⟩) trivial ⟨.none,.none,o1,o2,[],rfl,ho1,ho2⟩ W ?_ ?_
 · clear W;intro i v m₁ news₁ own₁ h₁ t₁ hi j8 j9 W;refine hid fun QQ hQ=>?_;obtain ⟨a,b,p1,p2,junk,T,x,y,rfl,hp1,hp2,rfl,hx,hy⟩:=j8;clear j9;rw [hx] at hy;obtain rfl:=l_j hy;obtain ⟨kk,hk,hel⟩:=hv x (l_m hx);kd_p;obtain ⟨X,tx,hX⟩:=el_type (hel.kp W.kp) hk;refine call_type_of (tx _ _) hX ?_;kd_p;refine call_type_of (tx _ _) hX ?_;kd_p;refine isnot_type_same ?_;kd_p;refine el_ne (hel.kp W.kp) hk (by lia) PW w _ _ ?_;kd_p;exact hQ _ _ (tn_next (news:=[]) (W.drop (by simp)) trivial)
 · clear W;rintro h' t' m' news' - W;kd_p;exact k _ _ _ W.nil
theorem same_spec {w A L h₀ h t σ m news} {l1 l2:zV}{vs:List zY}{Q E:VP}
 (Z:Site w A L h₀) (W:Wk h₀ L h m news) (room:A.depth<zS) (ru:A.units+90<cLine) (h1:Ls h l1 vs) (h2:Ls h l2 vs) (hz:vs.length≤100) (hv:∀ v∈vs,∃ k,k<10∧El w h v k)
 (k:∀ h' t',Wk h₀ L h' m news→Q (.bool true) (S σ h' t')):
 zZ (zW PW w) A (call (.ref 336) [.ref l1,.ref l2]) Q E (S σ h t):=
 fn_gen (mu:=[]) (rest:=news) (binds:=[(zQ "told",.ref l1),(zQ "due",.ref l2)]) Z W room (by rfl) (by k_ne) (BindsTo.of_eq (by k_ne)) (locs (by k_ne)) (by decide) (by k_ne) (by k_ne) (by k_ne) fun L' h₁ t₁ Z' W'=>
  same_body (l1:=l1) (l2:=l2) (vs:=vs) Z' W' (by show A.units+3+80<_;lia) h1 h2 hz hv (by k_ne) (by k_ne) fun h' t' m' W₂=>⟨h',t',_,_,rfl,W₂,fun W₃=>k h' t' W₃⟩
end
section
section
variable {w:zT}{A:zU}{E:VP}{σ:zX}{h₀ h:Heap}{t:Nat}{L:zV}{m:NM}{news rest mu:Led}{M:Model}{cn:Str}{cs:Scope}{a:zV}{ccd:zY}{cl:List (Str×zV)}{x:Str}{pos:Pos}{v:zY}{c:zV}{o:Obj}
theorem Wk.ne {c:zV}{o:Obj}{rest:Led}(W:Wk h₀ L h m ((c,o)::rest)):∀ p∈rest,p.1≠c:=fun p hp e=>by
 have:=W.nd;rw [zM,zJ] at this;exact this.1 (zN.mpr ⟨p,hp,e⟩)
theorem r_cell {Q:VP}(W:Wk h₀ L h m news) (hc:cl.lookup x=some c) (hm:(c,o)∈news) (hd:o.data= .cell (some v)) (k:Q v (S σ h t))
 (hk:cs.kind= .function) (hx:(envX cn cs L a ccd cl).kindOf x=some .cell) (hb:(x==("__debug__":Str))=false):
 zZ M A (eval (.Name x pos) (envX cn cs L a ccd cl)) Q E (S σ h t):=nameX_C W.nw hc hm hd k hk hx hb
theorem s_cell {v₀:Option zY}{Q:UP}(W:Wk h₀ L h m ((c,o)::rest)) (hc:cl.lookup x=some c) (hd:o.data= .cell v₀) (k:∀ h' o',Wk h₀ L h' m ((c,o')::rest)→o'.data= .cell (some v)→Q () (S σ h' t))
 (hk:cs.kind= .function) (hx:(envX cn cs L a ccd cl).kindOf x=some .cell):
 zZ M A (storeName (envX cn cs L a ccd cl) x v) Q E (S σ h t):=
 storeX_C W.fr W.nw hc (.head W.ne) hd (fun h' o' F N d=>k h' o' ⟨F,N,W.nd⟩ d) hk hx
theorem r_free {Q:VP}(W:Wk h₀ L h m news) (hc:cl.lookup x=some c) (hm:h₀.get? c=some o) (hd:o.data= .cell (some v)) (k:Q v (S σ h t))
 (hk:cs.kind= .function) (hx:(envX cn cs L a ccd cl).kindOf x=some .free) (hb:(x==("__debug__":Str))=false) (hn:(x==("__classdict__":Str))=false):
 zZ M A (eval (.Name x pos) (envX cn cs L a ccd cl)) Q E (S σ h t):=wpAny_Name (wpAny_loadName_free hk hx hc ⟨o,W.kp _ _ hm,hd⟩ k hn) hb
theorem m_lam {name qual:Str}{params:Arguments}{body:Expr}{scope:Scope}{firstLine:Nat}{clos:List (Str×zV)}{P:zV}{ps:Array zY}{Q:VP}(Z:Site w A L h₀) (C:CodeHd h₀ c P) (W:Wk h₀ L h m ((P,tabObj ps)::rest))
 (ht:TriplesOk ps.toList) (hnf:codeAmong pos ps.toList=none) (hcl:closureFor scope (envX cn cs L a (.ref c) cl)=pure clos)
 (k:∀ f c' oc pm ctv h' t',Wk h₀ L h' m ((f,kla_obj name qual params body scope clos pm c' ctv)::(c',oc)::(P,tabObj (ps++#[rawInt pos.line,rawInt pos.col,.ref c']))::rest)→(∃ vs t,oc.data= .fields vs∧vs[1]? =some (.str qual t))→Q (.ref f) (S σ h' t')):
 zZ M A (makeFunction name qual params (.expr body) scope (envX cn cs L a (.ref c) cl) [] [] [] pos firstLine) Q E (S σ h t):=by
 obtain ⟨pT,lT,mean,mg,mb,T⟩:=Z.T;refine kla_nest (s:=S σ h t) W.fr W.nw T C rfl (.head W.ne) ht hnf hcl fun f c' oc vs t ctv h' tk F' N' hd hv lt1 lt2=>?_;refine k f c' oc _ ctv h' tk ⟨F',N',?_⟩ ⟨vs,t,hd,hv⟩;have nd:=W.nd;rw [zM,zM,zJ,zJ];refine ⟨fun q=>?_,fun q=>?_,nd⟩
 · rcases zL.mp q with e|q
   · exact absurd e (Nat.ne_of_gt lt2)
   · obtain ⟨p,hp,e⟩:=zN.mp q
     have:∃ p',p'∈((P,tabObj ps)::rest)∧p'.1=f:=by
      rcases zL.mp hp with rfl|hp
      · exact ⟨_,.head _,e⟩
      · exact ⟨p,.tail _ hp,e⟩
     obtain ⟨p',hp',e'⟩:=this;have l:=lt1 p' hp';rw [e'] at l;exact absurd (Nat.lt_trans l lt2) (yY _)
 · obtain ⟨p,hp,e⟩:=zN.mp q
   have:∃ p',p'∈((P,tabObj ps)::rest)∧p'.1=c':=by
    rcases zL.mp hp with rfl|hp
    · exact ⟨_,.head _,e⟩
    · exact ⟨p,.tail _ hp,e⟩
   obtain ⟨p',hp',e'⟩:=this;have l:=lt1 p' hp';rw [e'] at l;exact absurd l (yY _)
theorem lam_gen {f c':zV}{oc:Obj}{vs:Array zY}{tq:Tok}{name qual:Str}{params:Arguments}{body:Expr}{scope:Scope}{pm ctv:zY}{binds:List (Str×zY)}{pos:List zY}{kw:List (Str×zY)}{Q:VP}
 (Z:Site w A L h₀) (W:Wk h₀ L h m (mu++rest)) (hroom:A.depth<zS)
 (ho:h.get? f=some (kla_obj name qual params body scope cl pm c' ctv)) (hoc:h.get? c'=some oc) (hvs:oc.data= .fields vs) (hv1:vs[1]? =some (.str qual tq))
 (hbind:bindArgs (kla_fn name qual params body scope cl pm (.ref c') ctv) ⟨pos,kw⟩=pure binds) (hloc:∀ y∈binds,scope.names.lookup y.1=some .local)
 (hcell:∀ x∈scope.names,x.2≠ .cell) (hco:scope.isCoroutine=false) (hgen:scope.isGenerator=false) (hk:scope.kind= .function)
 (k:∀ L' h₁ t₁,Site w (A.deeper (envX qual scope L' f (.ref c') cl)) L' (gnd h mu)→Wk (gnd h mu) L' h₁ (fun y=>binds.reverse.lookup y) mu→
  zZ (zW PW w) (A.deeper (envX qual scope L' f (.ref c') cl)) (eval body (envX qual scope L' f (.ref c') cl))
   (fun v s'=>∃ h' t' m' mu',s'=S σ h' t'∧Wk (gnd h mu) L' h' m' mu'∧(Wk h₀ L h' m (mu'++rest)→Q v (S σ h' t')))
   (fun _ _=>False) (S σ h₁ t₁)):
 zZ (zW PW w) A (call (.ref f) pos kw) Q E (S σ h t):=by
 obtain ⟨⟨A₀,base,outer,env,B,hA,hf,hke⟩,X,⟨pT,lT,mean,mg,mb,T⟩,hh⟩:=Z;have N:News h₀ L h mu:=fun p hp=>W.nw p (l_l _ hp)
 obtain ⟨FG,BG,st,-⟩:=groundX (R:=fun _ _=>True) (s:=S σ h t) B W.fr N hA hf hke;refine wpAny_call ?_;refine kla_callFunE (s:=S σ h t) hroom ho rfl hco hgen rfl ⟨c',oc,vs,tq,rfl,hoc,hvs,hv1⟩ ?_;rw [hbind];refine w_p (wpAny_newFunctionEnv hcell hloc (fun h₁ hns hsb=>⟨((T.nolimit).keeps W.fr.keep).fresh _ hsb,?_⟩) hk);show codeAny _ _ (.expr body (envX qual scope h.objs.size f (.ref c') cl)) _ _
 have hk₁:∀ b o,h.get? b=some o→h₁.get? b=some o:=fun b o e=>hsb.extBut b o (Nat.ne_of_lt (zB e)) (Heap.get?_push_of_some _ e)
 have W₁:Wk (gnd h mu) h.objs.size h₁ (fun y=>binds.reverse.lookup y) mu:=
  ⟨⟨hns,fun b o e=>hk₁ b o (of_hideAll _ e),Nat.le_of_eq (hideAll_size _ _)⟩,
   fun p hp=>⟨hk₁ _ _ (N p hp).1,Nat.ne_of_lt (zB (N p hp).1),hideAll_none _ (l_o hp)⟩,by
   have:=W.nd;rw [zK,yQ] at this;exact this.1⟩
 refine kla_codeExpr (w_m (k h.objs.size h₁ _ ⟨⟨A,base,env::outer,_,BG,yM hA,rfl,hk⟩,X.keeps st,⟨pT,lT,mean,mg,mb,T.keeps st⟩,hh⟩ W₁) ?_ ?_)
 · rintro v s' ⟨h',t',m',mu',rfl,W',kk⟩;exact kk (W.back W')
 · intro e s' hf;exact hf.elim
end
end
section
open PySem.SeqAt PyProof.Rows.LSm
section
variable {w:zT}{A:zU}{E:VP}{σ:zX}{h₀ h:Heap}{t:Nat}{L:zV}{m:NM}{news:Led}{env:Env}{M:Model}
theorem IntsL.are:∀ {vs:List zY}{ns:List Int},IntsL vs ns→IntsAre vs ns
 |[],[],_=>.nil
 |[],n::ns,x=>absurd x.1 (by simp)
 |v::vs,[],x=>absurd x.1 (by simp)
 |v::vs,n::ns,x=>by
  obtain ⟨t,e⟩:=x.2 0 n rfl;obtain rfl:v= .int n t:=by simpa using e
  exact .cons n t (IntsL.are ⟨by have:=x.1;simpa using this,fun k m e=>x.2 (k+1) m (by simpa using e)⟩)
theorem IntsL.of {vs:List zY}{ns:List Int}(x:IntsAre vs ns):IntsL vs ns:=by
 induction x with
 |nil=>exact ⟨rfl,fun k n e=>by simp at e⟩
 |cons n t _ ih=>
  refine ⟨by simp [ih.1],fun k m e=>?_⟩;cases k with
  |zero=>exact ⟨t,by simpa using e⟩
  |succ k=>simpa using ih.2 k m (by simpa using e)
theorem IntsL.app {vs ws ns ms} (x:IntsL vs ns) (y:IntsL ws ms):IntsL (vs++ws) (ns++ms):=by
 refine ⟨by simp [x.1,y.1],fun k n e=>?_⟩;by_cases hk:k<ns.length
 · rw [yD hk] at e;rw [yD (by rw [x.1];exact hk)];exact x.2 k n e
 · rw [yE (by lia)] at e;rw [yE (by rw [x.1];lia),x.1];exact y.2 _ n e
theorem b_sum {l:zV}{vs:List zY}{ns:List Int}{Q:VP}(W:Wk h₀ L h m news) (hh:A.handled=none) (hl:Ls h l vs) (hi:IntsL vs ns) (k:∀ h' t' tk,Wk h₀ L h' m news→Q (.int ns.sum tk) (S σ h' t')):
 zZ (zW PW w) A (call (.builtin "sum") [.ref l]) Q E (S σ h t):=
 LSm.sum_ints (s:=S σ h t) W.fr W.nw hh hl hi.are fun h' tk t' F N=>k h' tk t' ⟨F,N,W.nd⟩
theorem b_max {l:zV}{vs:List zY}{ns:List Int}{Q:VP}(W:Wk h₀ L h m news) (hh:A.handled=none) (hl:Ls h l vs) (hi:IntsL vs ns) (hz:0<ns.length)
 (k:∀ h' t' M tk,Wk h₀ L h' m news→M∈ns→(∀ a∈ns,a≤M)→Q (.int M tk) (S σ h' t')):
 zZ (zW PW w) A (call (.builtin "max") [.ref l]) Q E (S σ h t):=
 kso_max (s:=S σ h t) W.fr W.nw hl hi.are hz hh fun h' M tk t' F N a b=>k h' t' M tk ⟨F,N,W.nd⟩ a b
theorem o_fdivE {a b ta tb} {Q:VP}(hb:b≠0) (hs:b<100) (h0:0<b) (k:Q (.int (a.fdiv b) t) (S σ h t.succ)):zZ (zW PW w) A (binaryOp .FloorDiv (.int a ta) (.int b tb)) Q E (S σ h t):=
 floordiv_int hb k (Or.inl (PyProof.noPylong_small (Nat.lt_trans (Int.natAbs_lt_natAbs_of_nonneg_of_lt (Int.le_of_lt h0) hs) (by decide))))
theorem o_neb {a b:Bool}{Q:VP}(k:Q (.bool (a !=b)) (S σ h t)):zZ (zW PW w) A (compareOp .NotEq (.bool a) (.bool b)) Q E (S σ h t):=ne_bool k
theorem r_ife {test body orelse pos} {Q:VP}{s:zX}(k:zZ M A (isTrue test env (eval test env)) (fun c s₂=>if c=true then zZ M A (eval body env) Q E s₂ else zZ M A (eval orelse env) Q E s₂) E s):
 zZ M A (eval (.IfExp test body orelse pos) env) Q E s:=IfExp_ k
theorem o_neS {a b:zV}{xs ys:List zY}{Q:VP}(hl:Ls h a xs) (hb:Ls h b ys) (hu:A.units<cLine) (hz:xs.length=ys.length)
 (he:∀ (j:Nat) (x y:zY),xs[j]? =some x→ys[j]? =some y→EqAt A.in1 (S σ h t) x y true) (k:Q (.bool false) (S σ h t)):
 zZ (zW PW w) A (compareOp .NotEq (.ref a) (.ref b)) Q E (S σ h t):=by
 have:=RcNeAt.lists (A:=A) (s:=S σ h t) (l:=a) (b:=b) (e:=fun _=>true) hl hb (by simpa using hz) hu (fun j h1 h2=>he j _ _ (by simpa using l_e (l:=xs) (by simpa using h1)) (by simpa using l_e (l:=ys) (by simpa using h2))) PW w E Q;rw [show (!(xY xs.toArray.size).all fun _=>true)=false by simp] at this;exact this k
theorem o_eqS {a b:zV}{xs ys:List zY}{Q:VP}(hl:Ls h a xs) (hb:Ls h b ys) (hu:A.units<cLine) (hz:xs.length=ys.length)
 (he:∀ (j:Nat) (x y:zY),xs[j]? =some x→ys[j]? =some y→EqAt A.in1 (S σ h t) x y true) (k:Q (.bool true) (S σ h t)):
 zZ (zW PW w) A (compareOp .Eq (.ref a) (.ref b)) Q E (S σ h t):=by
 have:=RcAt.lists (A:=A) (s:=S σ h t) (l:=a) (b:=b) (e:=fun _=>true) hl hb (by simpa using hz) hu (fun j h1 h2=>he j _ _ (by simpa using l_e (l:=xs) (by simpa using h1)) (by simpa using l_e (l:=ys) (by simpa using h2))) PW w E Q;rw [show ((xY xs.toArray.size).all fun _=>true)=true by simp] at this;exact this k
theorem eq_int_t {A:zU}{s:zX}{c:Int}{t u:Tok}:EqAt A s (.int c t) (.int c u) true:=by
 have:=keq_flat (A:=A) (s:=s) (PyProof.V.Flat.int c t) (PyProof.V.Flat.int c u);rw [show PyData.eqv (.int c) (.int c)=true by simp [PyData.eqv]] at this;exact this
theorem eq_ints {A:zU}{s:zX}{xs ys:List zY}{ns:List Int}(ix:IntsL xs ns) (iy:IntsL ys ns) (j:Nat) (x y:zY) (hx:xs[j]? =some x) (hy:ys[j]? =some y):EqAt A s x y true:=by
 have hj:j<ns.length:=by rw [← ix.1];exact (l_i.mp hx).1
 obtain ⟨t,e⟩:=ix.2 j ns[j] (by simp [hj]);obtain ⟨u,f⟩:=iy.2 j ns[j] (by simp [hj]);rw [hx] at e;rw [hy] at f;obtain rfl:=l_j e;obtain rfl:=l_j f;exact eq_int_t
theorem o_neI {a b:zV}{xs ys:List zY}{ns:List Int}{Q:VP}(hl:Ls h a xs) (hb:Ls h b ys) (ix:IntsL xs ns) (iy:IntsL ys ns) (hu:A.units<cLine) (k:Q (.bool false) (S σ h t)):
 zZ (zW PW w) A (compareOp .NotEq (.ref a) (.ref b)) Q E (S σ h t):=
 o_neS hl hb hu (by rw [ix.1,iy.1]) (eq_ints ix iy) k
theorem eq_tri {A:zU}{s:zX}{a b:zV}{p q r:Int}{t1 t2 t3 u1 u2 u3:Tok}{n n':Nat}(ha:s.heap.get? a=some (tob [.int p t1,.int q t2,.int r t3] n)) (hb:s.heap.get? b=some (tob [.int p u1,.int q u2,.int r u3] n')) (hu:A.units<cLine):
 EqAt A s (.ref a) (.ref b) true:=by
 by_cases hne:a=b
 · subst hne;exact EqAt.same _
 · refine EqAt.of_refs hne ?_
   have:=RcAt.tuples (A:=A) (s:=s) (l:=a) (b:=b) (items:=#[.int p t1,.int q t2,.int r t3]) (items2:=#[.int p u1,.int q u2,.int r u3]) (e:=fun _=>true) ⟨_,ha,rfl,n,rfl⟩ ⟨_,hb,rfl,n',rfl⟩ hu (fun j h1 h2=>by
    have h1:j<3:=h1;have:j=0∨j=1∨j=2:=by (revert h1;k_in)
    rcases this with rfl|rfl|rfl
    · exact eq_int_t
    · exact eq_int_t
    · exact eq_int_t)
   exact this
theorem eq_rows {A:zU}{s:zX}{ps tups:Led}{vs:List zY}{ts:List (Nat×Nat×Nat)}(hp:∀ p∈ps,s.heap.get? p.1=some p.2) (ht:∀ p∈tups,s.heap.get? p.1=some p.2) (x:TRows ps (ts.map castT)) (y:TrN tups vs ts) (hu:A.units<cLine)
 (j:Nat) (u v:zY) (h1:(refs ps)[j]? =some u) (h2:vs[j]? =some v):EqAt A s u v true:=by
 obtain ⟨p,hpj,rfl⟩:∃ p,ps[j]? =some p∧u= .ref p.1:=by
  unfold refs at h1;rw [zF] at h1;cases q:ps[j]? with
  |none=>rw [q] at h1;cases h1
  |some p=>rw [q] at h1;exact ⟨p,rfl,(l_j h1).symm⟩
 obtain ⟨tr,htr,n,t1,t2,t3,e⟩:=x.at hpj;have hj:j<ts.length:=by rw [← y.1];exact (l_i.mp h2).1
 rw [zF,l_e hj] at htr;obtain rfl:=l_j htr;obtain ⟨T,u1,u2,u3,n',f1,f2⟩:=y.2 j ts[j] (l_e hj);rw [h2] at f1;obtain rfl:=l_j f1;exact eq_tri (by rw [hp p (l_m hpj),e];rfl) (ht _ f2) hu
end
end
section
open PyProof.Rows.LCg PyProof.Rows.LCt
def lawS (n:Nat):List Stmt:=(dB (st PW 21)).drop n
noncomputable def CL (cW cK cO cA cN cD cT:zV):List (Str×zV):=[(sN "table",cT),(sN "odd",cD),(sN "noted",cN),(sN "asked",cA),(sN "other",cO),(sN "kinds",cK),(sN "width",cW)]
abbrev lenv (L f:zV) (cl:List (Str×zV)):Env:=envX n156 (dS (st PW 21)) L f (.ref 340) cl
noncomputable def nums (ns:List Int):List Int:=[14,30,7,17,9,2,14]++ns.take 6
def widthP (ns:List Int):Int:=if (nums ns).sum.fmod 2=0 then 10 else 16
def Cst (M:Model) (A:zU) (env:Env) (x:Str) (v:zY) (Q:UP) (E:VP) (s:zX):Prop:=zZ M A (storeName env x v) Q E s
theorem s_cst {M:Model}{A:zU}{env:Env}{x:Str}{v:zY}{Q:UP}{E:VP}{s:zX}(hx:env.kindOf x=some .cell) (k:Cst M A env x v Q E s):zZ M A (storeName env x v) Q E s:=k
theorem c_cell {A:zU}{E:VP}{σ:zX}{h₀ h:Heap}{t:Nat}{L:zV}{m:NM}{rest:Led}{M:Model}{cn:Str}{cs:Scope}{a:zV}{ccd:zY}{cl:List (Str×zV)}{x:Str}{v:zY}{c:zV}{o:Obj}{v₀:Option zY}{Q:UP}(W:Wk h₀ L h m ((c,o)::rest)) (hd:o.data= .cell v₀) (k:∀ h' o',Wk h₀ L h' m ((c,o')::rest)→o'.data= .cell (some v)→Q () (S σ h' t))
 (hc:cl.lookup x=some c) (hk:cs.kind= .function) (hx:(envX cn cs L a ccd cl).kindOf x=some .cell):
 Cst M A (envX cn cs L a ccd cl) x v Q E (S σ h t):=s_cell W hc hd k hk hx
end
local macro_rules | `(tactic| wtm_at $s) => mgx s "g" ": s_cst hx:u ? | id_bin: o_modE d ?; o_fdivE d d d ? | id_name: n_cell W hc:u2 hm:m3 hd:a4 ? hk:u hx:u1 hb:k; r_cell W hc:u2 hm:m3 hd:a4 ? hk:k hx:u1 hb:k"
section
open PyProof.Rows.LCg PyProof.Rows.LCt
theorem IntsL.nil':IntsL [] []:=IntsL.nil
theorem IntsL.cons {n:Int}{t:Tok}{vs ns} (x:IntsL vs ns):IntsL (.int n t::vs) (n::ns):=IntsL.of (.cons n t x.are)
section
variable {g h:Heap}{L:zV}{m:NM}{r:Led}{a b c d p:zV×Obj}
theorem Wk.p1 (W:Wk g L h m (a::p::r)):Wk g L h m (p::a::r):=W.perm (by wtm_at "p")
theorem Wk.p2 (W:Wk g L h m (a::b::p::r)):Wk g L h m (p::a::b::r):=W.perm (by wtm_at "p")
theorem Wk.p3 (W:Wk g L h m (a::b::c::p::r)):Wk g L h m (p::a::b::c::r):=W.perm (by wtm_at "p")
theorem Wk.p4 (W:Wk g L h m (a::b::c::d::p::r)):Wk g L h m (p::a::b::c::d::r):=W.perm (by wtm_at "p")
end
theorem seven {ns:List Int}{vs:List zY}{t1 t2 t3 t4 t5 t6 t7:Tok}(hi:IntsL vs ns):IntsL ([.int 14 t1,.int 30 t2,.int 7 t3,.int 17 t4,.int 9 t5,.int 2 t6,.int 14 t7]++vs.take 6) (nums ns):=
 IntsL.app (IntsL.cons (IntsL.cons (IntsL.cons (IntsL.cons (IntsL.cons (IntsL.cons (IntsL.cons IntsL.nil'))))))) (hi.take 6)
section
variable {w:zT}{A:zU}{E:VP}{σ:zX}{g h:Heap}{t:Nat}{L f:zV}{m:NM}{own:Led}{Q:FP}
variable {cW cK cO cA cN cD cT:zV}{oW oK oO oA oN oD oT:Obj}{ns:List Int}
theorem segA {script:zV}{vs:List zY}(Z:Site w A L g) (ru:A.units+300<cLine) (hl:Ls g script vs) (hi:IntsL vs ns) (hz:ns.length≤63)
 (W:Wk g L h m ((cW,oW)::own)) (dW:oW.data= .cell none) (e1:m (sN "script")=some (.ref script))
 (k:∀ h' t' m' na vn nn tt tw oW',IntsL vn (nums ns)→oW'.data= .cell (some (.int (widthP ns) tw))→m' (sN "numbers")=some (.ref na)→m' (sN "total")=some (.int (nums ns).sum tt)→
  Wk g L h' m' ((na,lob vn nn)::(cW,oW')::own)→zZ (zW PW w) A (execs (lawS 3) (lenv L f (CL cW cK cO cA cN cD cT))) Q E (S σ h' t')):
 zZ (zW PW w) A (execs (lawS 0) (lenv L f (CL cW cK cO cA cN cD cT))) Q E (S σ h t):=by
 have hi1:=hi.1;with_unfolding_all refine x_cons ?_
 kd_p;with_reducible rename zV=>la
 refine sl_upto W (hl.kp W.kp) (by decide) (by revert hz hi1;k_in) (fun a2 h' W' _=>?_) (by wtm_at "u") (by intro _;wtm_at "u");wtm_at "w";kd_p;refine o_addl W (Wk.ls W (.tail _ (.head _))) (Wk.ls W (.head _)) (by simp;(revert hi1;k_in)) fun a3 h' W' _=>?_;rw [show Int.toNat 6=6 from rfl] at W';replace W:=W'.drop (news':=(a3,lob _ 0)::(cW,oW)::own) (by wtm_at "b");clear W';kd_p;refine b_sum W Z.hh (W.ls (.head _)) (seven hi) fun h' t' tk W'=>?_;wtm_at "w";kd_p
 have hm:(nums ns).sum.fmod 2=0∨(nums ns).sum.fmod 2=1:=by
  rw [Int.fmod_eq_emod_of_nonneg _ (by decide)];lia
 have hw:widthP ns=if (nums ns).sum.fmod 2=0 then 10 else 16:=rfl
 generalize (nums ns).sum.fmod 2=i at hm hw ⊢;refine t_listE (fun _ v=>∃ u,v= .int (widthP ns) u) (W.ls (.head _)) (by revert hm;k_in) (by revert hm;k_in) ?_ ?_ (by wtm_at "u")
 · rcases hm with rfl|rfl
   · exact ⟨_,rfl,_,by rw [hw];rfl⟩
   · exact ⟨_,rfl,_,by rw [hw];rfl⟩
 rintro _ ⟨tw,rfl⟩;k_go;refine c_cell W.p2 dW (fun h' oW' W' d=>?_) (by wtm_at "u") (by wtm_at "u") (by wtm_at "u");with_reducible refine x_next ?_
 with_unfolding_all exact k _ _ _ a3 _ _ _ tw oW' (seven hi) d (by k_is) (by k_is) ((W'.drop (news':=(cW,oW')::(a3,_)::own) (by wtm_at "b")).p1)
end
end
section
open PyProof.Rows.LCg PyProof.Rows.LCt
noncomputable def rowP (z width:Int) (l:List Int):List Int:=(l.filter fun n=>decide (n.fmod 3≠z)).map fun n=>(n.fdiv 3).fmod width
theorem rowP_yes {z width:Int}{l:List Int}{i:Nat}{n:Int}(h:l[i]? =some n) (hn:n.fmod 3≠z):rowP z width (l.take (i+1))=rowP z width (l.take i)++[(n.fdiv 3).fmod width]:=by
 unfold rowP;rw [yS,h,List.filter_append,zK];simp [hn]
theorem rowP_no {z width:Int}{l:List Int}{i:Nat}{n:Int}(h:l[i]? =some n) (hn:¬ n.fmod 3≠z):rowP z width (l.take (i+1))=rowP z width (l.take i):=by
 unfold rowP;rw [yS,h,List.filter_append,zK];simp [Decidable.not_not.mp hn]
theorem IntsL.get {vs ns} (x:IntsL vs ns) {i:Nat}{v:zY}(h:vs[i]? =some v):∃ n t,ns[i]? =some n∧v= .int n t:=by
 have hj:i<ns.length:=by rw [← x.1];exact (l_i.mp h).1
 obtain ⟨t,e⟩:=x.2 i ns[i] (l_e hj);rw [h] at e;exact ⟨ns[i],t,l_e hj,l_j e⟩
section
variable {w:zT}{A:zU}{E:VP}{σ:zX}{g h:Heap}{t:Nat}{L f:zV}{m:NM}{own:Led}{Q:FP}
variable {cW cK cO cA cN cD cT:zV}{oW oK oO oA oN oD oT:Obj}{ns:List Int}
theorem segB1 {la:zV}{vn:List zY}{nn:Nat}{wd:Int}{tw:Tok}(Z:Site w A L g) (ru:A.units+300<cLine) (hi:IntsL vn ns) (hz:ns.length≤63) (hwd:wd=10∨wd=16)
 (W:Wk g L h m ((la,lob vn nn)::(cW,oW)::own)) (dW:oW.data= .cell (some (.int wd tw))) (e1:m (sN "numbers")=some (.ref la))
 (k:∀ h' t' lf vf nf,IntsL vf (rowP 1 wd ns)→ 
  Wk g L h' (setm m (sN "first") (.ref lf)) ((lf,lob vf nf)::(la,lob vn nn)::(cW,oW)::own)→zZ (zW PW w) A (execs (lawS 4) (lenv L f (CL cW cK cO cA cN cD cT))) Q E (S σ h' t')):
 zZ (zW PW w) A (execs (lawS 3) (lenv L f (CL cW cK cO cA cN cD cT))) Q E (S σ h t):=by
 have hi1:=hi.1;with_unfolding_all refine x_cons ?_
 refine x_lcT W Z.hh ?_ (by rfl) (by wtm_at "u") (by rfl) (by decide) (by rfl) (by decide) (by rfl) (by rfl) (by rfl) (by intro _;rfl);kd_p;refine lcT (vs:=vn) (fun i ys nw=>IntsL ys (rowP 1 wd (ns.take i))∧nw=(la,lob vn nn)::(cW,oW)::own) W (.inr ⟨_,.head _,rfl,nn,rfl⟩) (by revert hz hi1;k_in) ⟨IntsL.nil,rfl⟩ ?_ ?_ ?_
 · rintro i ys nw ⟨-,rfl⟩;exact .inr ⟨_,.head _,rfl,nn,rfl⟩
 · clear W;rintro i ys nw v I oI C oC D m₂ h t E' hlt hv ⟨hys,rfl⟩ hC hx W;obtain ⟨n,tn,hn,rfl⟩:=hi.get hv;kd_p
   · have q:n.fmod 3≠1:=by assumption
     refine o_mod (by revert hwd;k_in) fun _ _=>⟨_,_,_,rfl,W,?_,rfl⟩;rw [rowP_yes hn q];exact hys.snoc
   · have q:¬ n.fmod 3≠1:=by assumption
     exact ⟨_,_,_,rfl,W,by rw [rowP_no hn q];exact hys,rfl⟩
 · rintro ys nw ⟨hys,rfl⟩ nd lf h' t' W';rw [hi1,yR] at hys;with_reducible refine x_next ?_
   with_unfolding_all exact k _ _ lf _ _ hys W'
theorem segB2 {la:zV}{vn:List zY}{nn:Nat}{wd:Int}{tw:Tok}(Z:Site w A L g) (ru:A.units+300<cLine) (hi:IntsL vn ns) (hz:ns.length≤63) (hwd:wd=10∨wd=16)
 (W:Wk g L h m ((la,lob vn nn)::(cW,oW)::own)) (dW:oW.data= .cell (some (.int wd tw))) (e1:m (sN "numbers")=some (.ref la))
 (k:∀ h' t' lf vf nf,IntsL vf (rowP 0 wd ns)→ 
  Wk g L h' (setm m (sN "second") (.ref lf)) ((lf,lob vf nf)::(la,lob vn nn)::(cW,oW)::own)→zZ (zW PW w) A (execs (lawS 5) (lenv L f (CL cW cK cO cA cN cD cT))) Q E (S σ h' t')):
 zZ (zW PW w) A (execs (lawS 4) (lenv L f (CL cW cK cO cA cN cD cT))) Q E (S σ h t):=by
 have hi1:=hi.1;with_unfolding_all refine x_cons ?_
 refine x_lcT W Z.hh ?_ (by rfl) (by wtm_at "u") (by rfl) (by decide) (by rfl) (by decide) (by rfl) (by rfl) (by rfl) (by intro _;rfl);kd_p;refine lcT (vs:=vn) (fun i ys nw=>IntsL ys (rowP 0 wd (ns.take i))∧nw=(la,lob vn nn)::(cW,oW)::own) W (.inr ⟨_,.head _,rfl,nn,rfl⟩) (by revert hz hi1;k_in) ⟨IntsL.nil,rfl⟩ ?_ ?_ ?_
 · rintro i ys nw ⟨-,rfl⟩;exact .inr ⟨_,.head _,rfl,nn,rfl⟩
 · clear W;rintro i ys nw v I oI C oC D m₂ h t E' hlt hv ⟨hys,rfl⟩ hC hx W;obtain ⟨n,tn,hn,rfl⟩:=hi.get hv;kd_p
   · have q:n.fmod 3≠0:=by assumption
     refine o_mod (by revert hwd;k_in) fun _ _=>⟨_,_,_,rfl,W,?_,rfl⟩;rw [rowP_yes hn q];exact hys.snoc
   · have q:¬ n.fmod 3≠0:=by assumption
     exact ⟨_,_,_,rfl,W,by rw [rowP_no hn q];exact hys,rfl⟩
 · rintro ys nw ⟨hys,rfl⟩ nd lf h' t' W';rw [hi1,yR] at hys;with_reducible refine x_next ?_
   with_unfolding_all exact k _ _ lf _ _ hys W'
end
end
section
open PyProof.Rows.LCg PyProof.Rows.LCt
def On (own:Led) (F:Heap→Prop):Prop:=∀ H:Heap,(∀ p∈own,H.get? p.1=some p.2)→F H
theorem On.more {own own' F} (x:On own F) (s:∀ p∈own,p∈own'):On own' F:=fun H k=>x H fun p hp=>k p (s p hp)
theorem On.at {g h:Heap}{L:zV}{m} {own news F} (x:On own F) (W:Wk g L h m news) (s:∀ p∈own,p∈news):F h:=x h fun p hp=>(W.nw p (s p hp)).1
def Els (w:zT) (H:Heap) (ys:List zY) (ks:List Int):Prop:=ys.length=ks.length∧∀ (j:Nat) (v:zY) (n:Int),ys[j]? =some v→ks[j]? =some n→El w H v n.toNat
theorem Els.nil {w H}:Els w H [] []:=⟨rfl,fun j v n e=>by simp at e⟩
theorem Els.snoc {w H ys ks v n} (x:Els w H ys ks) (e:El w H v n.toNat):Els w H (ys++[v]) (ks++[n]):=by
 refine ⟨by simp [x.1],fun j v' n' a b=>?_⟩;by_cases hj:j<ks.length
 · rw [yD (by rw [x.1];exact hj)] at a;rw [yD hj] at b;exact x.2 j v' n' a b
 · rw [yE (by rw [x.1];lia)] at a;rw [yE (by lia)] at b
   have hj0:j - ks.length=0:=by
    have:=(l_i.mp b).1;simp at this;lia
   rw [x.1,hj0] at a;rw [hj0] at b;simp only [List.getElem?_cons_zero,Option.some.injEq] at a b;rw [← a,← b];exact e
theorem Wk.mid3 {g h:Heap}{L:zV}{m} {own r:Led}{a b c:zV×Obj}(W:Wk g L h m (own++a::b::c::r)):Wk g L h m (a::b::c::(own++r)):=W.perm (by wtm_at "p")
end
local macro_rules | `(tactic| wtm_at $s) => mgx s "g" "id_name: n_glob Z W gl_law_thing ? u u u k; n_glob Z W gl_law_kind ? u u u k"
section
open PyProof.Rows.LCg PyProof.Rows.LCt
section
variable {w:zT}{A:zU}{E:VP}{σ:zX}{g h:Heap}{t:Nat}{L f:zV}{m:NM}{own:Led}{Q:FP}
variable {cW cK cO cA cN cD cT:zV}{oW oK oO oA oN oD oT:Obj}{ks:List Int}
theorem segC1 {la:zV}{vn:List zY}{nn:Nat}(Z:Site w A L g) (room:A.depth+200<zS) (ru:A.units+300<cLine) (hi:IntsL vn ks) (hz:ks.length≤63) (hb:∀ n∈ks,0≤n∧n<16)
 (W:Wk g L h m ((la,lob vn nn)::own)) (e1:m (sN "first")=some (.ref la))
 (k:∀ h' t' lf vf nf ow,On ow (fun H=>Els w H vf ks)→Wk g L h' (setm m (sN "things") (.ref lf)) ((lf,lob vf nf)::(ow++((la,lob vn nn)::own)))→zZ (zW PW w) A (execs (lawS 6) (lenv L f (CL cW cK cO cA cN cD cT))) Q E (S σ h' t')):
 zZ (zW PW w) A (execs (lawS 5) (lenv L f (CL cW cK cO cA cN cD cT))) Q E (S σ h t):=by
 have hi1:=hi.1;with_unfolding_all refine x_cons ?_
 refine x_lcU W Z.hh ?_ (by rfl) (by wtm_at "u") (by rfl) (by decide) (by rfl) (by decide) (by rfl) (by rfl) (by rfl) (by intro _;rfl);kd_p;refine lcU (vs:=vn) (fun i ys nw=>∃ ow,On ow (fun H=>Els w H ys (ks.take i))∧nw=ow++((la,lob vn nn)::own)) W (.inr ⟨_,.head _,rfl,nn,rfl⟩) (by revert hz hi1;k_in) ⟨[],fun H _=>Els.nil,rfl⟩ ?_ ?_ ?_
 · rintro i ys nw ⟨ow,-,rfl⟩;exact .inr ⟨_,l_r _ (.head _),rfl,nn,rfl⟩
 · clear W;rintro i ys nw v I oI C oC D m₂ h t E' hlt hv ⟨ow,hys,rfl⟩ hC hx W;obtain ⟨n,tn,hn,rfl⟩:=hi.get hv;have hn16:=hb n (l_m hn);kd_p;refine thing_spec (n:=n.toNat) Z W (by lia) (by revert hn16;k_in) (by revert hn16;k_in) fun h' t' v o2 W' hel=>?_;refine ⟨_,_,_,rfl,W'.mid3,o2++ow,fun H kH=>?_,by rw [List.append_assoc]⟩;rw [yS,hn];exact (hys H fun p hp=>kH p (l_r _ hp)).snoc (hel H fun p hp=>kH p (l_l _ hp))
 · rintro ys nw ⟨ow,hys,rfl⟩ nd lf h' t' W';rw [hi1,yR] at hys;with_reducible refine x_next ?_
   with_unfolding_all exact k _ _ lf _ _ ow hys W'
theorem segC2 {la:zV}{vn:List zY}{nn:Nat}(Z:Site w A L g) (room:A.depth+200<zS) (ru:A.units+300<cLine) (hi:IntsL vn ks) (hz:ks.length≤63) (hb:∀ n∈ks,0≤n∧n<16)
 (W:Wk g L h m ((la,lob vn nn)::own)) (e1:m (sN "second")=some (.ref la))
 (k:∀ h' t' lf vf nf ow,On ow (fun H=>Els w H vf ks)→Wk g L h' (setm m (sN "others") (.ref lf)) ((lf,lob vf nf)::(ow++((la,lob vn nn)::own)))→zZ (zW PW w) A (execs (lawS 7) (lenv L f (CL cW cK cO cA cN cD cT))) Q E (S σ h' t')):
 zZ (zW PW w) A (execs (lawS 6) (lenv L f (CL cW cK cO cA cN cD cT))) Q E (S σ h t):=by
 have hi1:=hi.1;with_unfolding_all refine x_cons ?_
 refine x_lcU W Z.hh ?_ (by rfl) (by wtm_at "u") (by rfl) (by decide) (by rfl) (by decide) (by rfl) (by rfl) (by rfl) (by intro _;rfl);kd_p;refine lcU (vs:=vn) (fun i ys nw=>∃ ow,On ow (fun H=>Els w H ys (ks.take i))∧nw=ow++((la,lob vn nn)::own)) W (.inr ⟨_,.head _,rfl,nn,rfl⟩) (by revert hz hi1;k_in) ⟨[],fun H _=>Els.nil,rfl⟩ ?_ ?_ ?_
 · rintro i ys nw ⟨ow,-,rfl⟩;exact .inr ⟨_,l_r _ (.head _),rfl,nn,rfl⟩
 · clear W;rintro i ys nw v I oI C oC D m₂ h t E' hlt hv ⟨ow,hys,rfl⟩ hC hx W;obtain ⟨n,tn,hn,rfl⟩:=hi.get hv;have hn16:=hb n (l_m hn);kd_p;refine thing_spec (n:=n.toNat) Z W (by lia) (by revert hn16;k_in) (by revert hn16;k_in) fun h' t' v o2 W' hel=>?_;refine ⟨_,_,_,rfl,W'.mid3,o2++ow,fun H kH=>?_,by rw [List.append_assoc]⟩;rw [yS,hn];exact (hys H fun p hp=>kH p (l_r _ hp)).snoc (hel H fun p hp=>kH p (l_l _ hp))
 · rintro ys nw ⟨ow,hys,rfl⟩ nd lf h' t' W';rw [hi1,yR] at hys;with_reducible refine x_next ?_
   with_unfolding_all exact k _ _ lf _ _ ow hys W'
end
end
section
open PyProof.Rows.LCg PyProof.Rows.LCt
noncomputable def EE (num:Nat→Int) (vs:List zY) (ks:List Int):List El2:=vs.zip (ks.map fun n=>num n.toNat)
theorem EE_fst {num vs ks} (h:vs.length=ks.length):(EE num vs ks).map (·.1)=vs:=by
 unfold EE;exact List.map_fst_zip (by simp [h])
theorem EE_snd {num vs ks} (h:vs.length=ks.length):(EE num vs ks).map (·.2)=ks.map fun n=>num n.toNat:=by
 unfold EE;exact List.map_snd_zip (by simp [h])
theorem EE_len {num vs ks} (h:vs.length=ks.length):(EE num vs ks).length=ks.length:=by
 unfold EE;simp [h]
theorem Els.ask {w:zT}{num hnum} {H:Heap}{vs:List zY}{ks:List Int}(x:Els w H vs ks):AsK (elKd w num hnum) H (EE num vs ks):=by
 intro y hy;obtain ⟨i,hi⟩:=yB.mp hy;unfold EE at hi;rw [List.getElem?_zip_eq_some,zF] at hi;obtain ⟨a,b⟩:=hi;cases q:ks[i]? with
 |none=>rw [q] at b;cases b
 |some n=>
  rw [q] at b;exact ⟨n.toNat,x.2 i y.1 n a q,l_j b⟩
theorem AsK.app {w:zT}{K:Kd w}{H xs ys} (x:AsK K H xs) (y:AsK K H ys):AsK K H (xs++ys):=fun z hz=>by
 rcases zE.mp hz with h|h
 · exact x z h
 · exact y z h
section
variable {w:zT}{A:zU}{E:VP}{σ:zX}{g h:Heap}{t:Nat}{L f:zV}{m:NM}{own:Led}{Q:FP}
variable {cW cK cO cA cN cD cT:zV}{oW oK oO oA oN oD oT:Obj}
theorem segD {K:Kd w}{xs ys:List El2}{lt lo:zV}{n1 n2:Nat}(Z:Site w A L g) (room:A.depth+200<zS) (ru:A.units+300<cLine) (z1:xs.length≤50) (z2:ys.length≤50)
 (W:Wk g L h m ((cT,oT)::own)) (dT:oT.data= .cell none) (h1:(lt,lob (xs.map (·.1)) n1)∈own) (h2:(lo,lob (ys.map (·.1)) n2)∈own) (k1:On own fun H=>AsK K H xs) (k2:On own fun H=>AsK K H ys)
 (e1:m (sN "things")=some (.ref lt)) (e2:m (sN "others")=some (.ref lo))
 (k:∀ h' t' lT nT oT',oT'.data= .cell (some (.ref lT))→Wk g L h' m ((cT,oT')::(lT,lob ((firsts (xs++ys)).map (·.1)) nT)::own)→zZ (zW PW w) A (execs (lawS 8) (lenv L f (CL cW cK cO cA cN cD cT))) Q E (S σ h' t')):
 zZ (zW PW w) A (execs (lawS 7) (lenv L f (CL cW cK cO cA cN cD cT))) Q E (S σ h t):=by
 with_unfolding_all refine x_cons ?_
 kd_p;refine o_addl W (W.ls (.tail _ h1)) (W.ls (.tail _ h2)) (by simp;(revert z1 z2;k_in)) fun a3 h' W' _=>?_;wtm_at "w";kd_p;rw [← zK] at W;refine dedupu_spec (K:=K) (xs:=xs++ys) Z W (by lia) (by lia) (by simp;(revert z1 z2;k_in)) (W.ls (.head _)) ((k1.at W fun p hp=>.tail _ (.tail _ hp)).app (k2.at W fun p hp=>.tail _ (.tail _ hp))) fun h' t' lT nT ow W' _=>?_
 replace W:=W'.drop (news':=(lT,lob ((firsts (xs++ys)).map (·.1)) nT)::(cT,oT)::own) (by
  refine List.Sublist.cons_cons _ ?_
  exact (yC _ _).trans (List.sublist_append_right _ _))
 k_go;refine c_cell W.p1 dT (fun h' oT' W' d=>?_) (by wtm_at "u") (by wtm_at "u") (by wtm_at "u");with_reducible refine x_next ?_
 with_unfolding_all exact k _ _ lT nT oT' d W'
end
end
section
open PyProof.Rows.LCg PyProof.Rows.LCt
theorem any_ints {ns:List Int}{n:Nat}(hn:n=ns.length) {c:Int}:(xY n).any (fun j=>decide (ns[j]? =some c))=decide (c∈ns):=by
 subst hn;rw [Bool.eq_iff_iff,List.any_eq_true,decide_eq_true_iff];constructor
 · rintro ⟨j,hj,e⟩;exact l_m (of_decide_eq_true e)
 · intro h;obtain ⟨j,hj⟩:=yB.mp h;exact ⟨j,List.mem_range.mpr (l_i.mp hj).1,by simpa using hj⟩
theorem eqw_ints {w:zT}{A:zU}{s:zX}{vs:List zY}{ns:List Int}(hi:IntsL vs ns) {c:Int}{u:Tok}(ru:A.units+70<cLine) (j:Nat) (hj:j<vs.length):EqW w A s vs[j] (.int c u) (decide (ns[j]? =some c)):=by
 obtain ⟨n,t,e,q⟩:=hi.get (l_e hj);rw [q,e];have:=(intKd w).eqv (A:=A) (s:=s) (x:=.int n t) (y:=.int c u) (c:=n) (d:=c) ⟨t,rfl⟩ ⟨u,rfl⟩ ru;simpa using this
section
variable {w:zT}{A:zU}{E:VP}{σ:zX}{g h:Heap}{t:Nat}{L f:zV}{m:NM}{own:Led}{Q:FP}
variable {cW cK cO cA cN cD cT:zV}{oW oK oO oA oN oD oT:Obj}
theorem segE {lf ls:zV}{vf vs:List zY}{fs ss:List Int}{n1 n2:Nat}(Z:Site w A L g) (room:A.depth+200<zS) (ru:A.units+300<cLine) (i1:IntsL vf fs) (i2:IntsL vs ss) (z1:fs.length≤50) (z2:ss.length≤50)
 (hb:∀ n∈fs++ss,0≤n∧n<16) (W:Wk g L h m ((cK,oK)::own)) (dK:oK.data= .cell none) (h1:(lf,lob vf n1)∈own) (h2:(ls,lob vs n2)∈own)
 (e1:m (sN "first")=some (.ref lf)) (e2:m (sN "second")=some (.ref ls))
 (k:∀ h' t' m' lk vk nk oK',(∀ z,(z==sN "k")=false→m' z=m z)→oK'.data= .cell (some (.ref lk))→IntsL vk (dd ((fs++ss).map kinI))→Wk g L h' m' ((lk,lob vk nk)::(cK,oK')::own)→zZ (zW PW w) A (execs (lawS 10) (lenv L f (CL cW cK cO cA cN cD cT))) Q E (S σ h' t')):
 zZ (zW PW w) A (execs (lawS 8) (lenv L f (CL cW cK cO cA cN cD cT))) Q E (S σ h t):=by
 have i1l:=i1.1;have i2l:=i2.1;with_unfolding_all refine x_cons ?_
 kd_p;with_reducible rename zV=>lk
 refine c_cell W.p1 dK (fun h' oK' W' d=>?_) (by wtm_at "u") (by wtm_at "u") (by wtm_at "u");wtm_at "w";with_reducible refine x_next ?_
 with_reducible refine x_cons ?_
 refine x_for ?_ (by intro _;rfl);kd_p;refine o_addl W (W.ls (.tail _ (.tail _ h1))) (W.ls (.tail _ (.tail _ h2))) (by revert z1 z2 i1l i2l;k_in) fun la h' W' _=>?_;wtm_at "w";have hi:=IntsL.app i1 i2;have hil:=hi.1;rw [zD] at hil
 refine for_list (vs:=vf++vs) (fun i m' news'=>∃ vk nk,(∀ z,(z==sN "k")=false→m' z=m z)∧IntsL vk (dd (((fs++ss).take i).map kinI))∧news'=(la,lob (vf++vs) 0)::(cK,oK')::(lk,lob vk nk)::own) W Z.hh (W.ls (.head _))
  ?_ (by intro _ _;rfl) ⟨[],0,fun _ _=>rfl,IntsL.nil,rfl⟩ ?_ ?_
 · rintro i m' news' own' h' ⟨vk,nk,-,-,rfl⟩ W';exact W'.ls (l_r _ (.head _))
 · clear W;intro i v m₁ news₁ own₁ h₁ t₁ E' hlt hv j10 W;refine hid fun QQ hQ=>?_;obtain ⟨vk,nk,hm,hk,rfl⟩:=j10;obtain ⟨n,tn,hn,rfl⟩:=hi.get hv;have hn16:=hb n (l_m hn);kd_p;refine kind_spec (n:=n.toNat) (kz:=kinI n) Z W (by lia) (by revert hn16;k_in) (by revert hn16;k_in) rfl fun h' t' u W' _=>?_;wtm_at "w";kd_p
   have hstep:dd (((fs++ss).take (i+1)).map kinI)=ddStep (dd (((fs++ss).take i).map kinI)) (kinI n):=by
    rw [yS,hn,zK];exact dd_snoc _ _
   have hlen:=dd_len (((fs++ss).take i).map kinI);rw [zO,yP] at hlen;have hkl:=hk.1;have hmn:=Nat.min_le_right i (fs++ss).length;rw [zD] at hmn;generalize dd (((fs++ss).take i).map kinI)=acc at hstep hlen hk hkl;refine o_notin (fun j=>decide (acc[j]? =some (kinI n))) (W.ls (vs:=vk) (by wtm_at "m")) (fun j hj=>eqw_ints hk (by rw [yN];lia) j hj) ?_;rw [any_ints hkl];unfold ddStep at hstep;by_cases hin:kinI n∈acc
   · rw [l_t hin,Bool.not_true];rw [if_pos hin] at hstep;kd_p;refine hQ _ _ (tn_next (news:=(la,lob (vf++vs) 0)::(cK,oK')::(lk,lob vk nk)::own) (W.perm (by wtm_at "p")) ⟨vk,nk,fun z hz=>(setm_ne hz).trans (hm z hz),?_,rfl⟩);rw [hstep];exact hk
   · rw [l_f hin,Bool.not_false];rw [if_neg hin] at hstep;kd_p;refine kind_spec (n:=n.toNat) (kz:=kinI n) Z W (by lia) (by revert hn16;k_in) (by revert hn16;k_in) rfl fun h' t' u W' _=>?_;wtm_at "w";kd_p;refine m_append (W.perm (news':=(lk,lob vk nk)::(own₁++((la,lob (vf++vs) 0)::(cK,oK')::own))) (by wtm_at "p")) (by revert z1 z2 i1l i2l hil hmn hlen hkl;k_in) fun h' n' W'=>?_;wtm_at "w";kd_p;refine hQ _ _ (tn_next (news:=(la,lob (vf++vs) 0)::(cK,oK')::(lk,lob (vk++[.int (kinI n) _]) n')::own) (W.perm (by wtm_at "p")) ⟨_,n',fun z hz=>(setm_ne hz).trans (hm z hz),?_,rfl⟩);rw [hstep];exact hk.snoc
 · clear W;rintro h' t' m' news' ⟨vk,nk,hm,hk,rfl⟩ W;rw [zD,i1l,i2l,← zD,yR] at hk;with_reducible refine x_next ?_
   with_unfolding_all exact k _ _ m' lk vk nk oK' hm d hk ((W.drop (yC ..)).p1)
end
end
section
open PyProof.Rows.LCg PyProof.Rows.LCt
theorem g_index {w:zT}{A:zU}{E:VP}{σ:zX}{h:Heap}{t:Nat}{pl:Sem Bool}{l:zV}{vs:List zY}{n:Nat}{Q:zY×List zY→zX→Prop}(ho:h.get? l=some (lob vs n)) (k:Q (.builtin "list.index",[.ref l]) (S σ h t)):
 zZ (zW PW w) A (getMethod (.ref l) (zQ "index") pl) Q E (S σ h t):=g_list PySem.F.slot_list_index (by kernel_rfl!) ho k
def Tab (n:Nat) (tb:List El2):Prop:=tb.map (·.2)=(xY n).map (fun (k:Nat)=>(k:Int))
theorem Tab.len {n tb} (h:Tab n tb):tb.length=n:=by
 have:=congrArg List.length h;simpa using this
theorem Tab.at {n tb} (h:Tab n tb) (k:Nat):tb[k]?.map (·.2)=if k<n then some (k:Int) else none:=by
 have:=congrArg (·[k]?) h;simp only [zF] at this;rw [this];by_cases q:k<n
 · rw [if_pos q,List.getElem?_range q];rfl
 · rw [if_neg q,List.getElem?_eq_none (by simp;lia)];rfl
theorem m_tindex {w:zT}{K:Kd w}{A:zU}{E:VP}{σ:zX}{h:Heap}{t:Nat}{l:zV}{tb:List El2}{n:Nat}{x:zY}{c:Int}{Q:VP}(T:Tab n tb) (hz:n≤1000) (ru:A.units+90<cLine) (hl:Ls h l (tb.map (·.1))) (ht:AsK K h tb) (hx:K.is h x c) (h0:0≤c) (h1:c<n)
 (k:∀ tk t',Q (.int c tk) (S σ h t')):zZ (zW PW w) A (call (.builtin "list.index") [.ref l,x]) Q E (S σ h t):=by
 have hlen:=T.len
 have e0:∀ j,decide ((tb[j]?.map (·.2))=some c)=decide (j=c.toNat):=fun j=>by
  rw [T.at j];by_cases q:j<n
  · rw [if_pos q,decide_eq_decide,Option.some.injEq];exact ⟨fun e=>by revert e;k_in,fun e=>by revert e h0;k_in⟩
  · rw [if_neg q,decide_eq_decide];constructor
    · intro e;cases e
    · intro e;exact absurd e (by revert q h0 h1;k_in)
 refine m_index (fun j=>decide ((tb[j]?.map (·.2))=some c)) c.toNat (by simp;(revert hz hlen;k_in)) hl (fun j hj=>?_) (by simp;(revert h0 h1 hlen;k_in)) (by simp only [e0];simp) (fun k hk=>by simp only [e0];simp;(revert hk;k_in)) fun tk t'=>?_
 · have hj':j<tb.length:=by simpa using hj
   simp only [List.getElem_map,l_e hj',Option.map_some,Option.some.injEq];exact K.eqv (ht tb[j] (List.getElem_mem hj')) hx (by rw [yN];lia)
 · have:((c.toNat:Nat):Int)=c:=by (revert h0;k_in)
   rw [this];exact k tk t'
section
variable {w:zT}{A:zU}{E:VP}{σ:zX}{g h:Heap}{t:Nat}{L f:zV}{m:NM}{own:Led}{Q:FP}
variable {cW cK cO cA cN cD cT:zV}{oW oK oO oA oN oD oT:Obj}
theorem segF1 {K:Kd w}{xs tb:List El2}{n:Nat}{lt lT:zV}{n1 nT:Nat}(Z:Site w A L g) (room:A.depth+200<zS) (ru:A.units+300<cLine) (z1:xs.length≤50) (z2:n≤100) (T:Tab n tb) (hx:∀ x∈xs,0≤x.2∧x.2<n)
 (W:Wk g L h m own) (hcT:(cT,oT)∈own) (dT:oT.data= .cell (some (.ref lT))) (h1:(lt,lob (xs.map (·.1)) n1)∈own) (h2:(lT,lob (tb.map (·.1)) nT)∈own) (k1:On own fun H=>AsK K H xs) (k2:On own fun H=>AsK K H tb)
 (e1:m (sN "things")=some (.ref lt))
 (k:∀ h' t' l1 v1 n1,IntsL v1 (xs.map (·.2))→Wk g L h' (setm m (sN "one") (.ref l1)) ((l1,lob v1 n1)::own)→zZ (zW PW w) A (execs (lawS 11) (lenv L f (CL cW cK cO cA cN cD cT))) Q E (S σ h' t')):
 zZ (zW PW w) A (execs (lawS 10) (lenv L f (CL cW cK cO cA cN cD cT))) Q E (S σ h t):=by
 with_unfolding_all refine x_cons ?_
 refine x_lcU W Z.hh ?_ (by rfl) (by wtm_at "u") (by rfl) (by decide) (by rfl) (by decide) (by rfl) (by rfl) (by rfl) (by intro _;rfl);kd_p;refine lcU (vs:=xs.map (·.1)) (fun i ys nw=>IntsL ys ((xs.take i).map (·.2))∧nw=own) W (.inr ⟨_,h1,rfl,n1,rfl⟩) (by rw [zO];lia) ⟨IntsL.nil,rfl⟩ ?_ ?_ ?_
 · rintro i ys nw ⟨-,rfl⟩;exact .inr ⟨_,h1,rfl,n1,rfl⟩
 · clear W;rintro i ys nw v I oI C oC D m₂ h t E' hlt hv ⟨hys,rfl⟩ hC hz W;have hi':i<xs.length:=by simpa using hlt
   have hxi:xs[i]? =some xs[i]:=l_e hi';rw [zF,hxi] at hv;obtain rfl:=l_j hv;have hb:=hx xs[i] (List.getElem_mem hi');have hin:∀ p∈nw,p∈((I,oI)::(C,oC)::(D,lst ys)::nw):=fun p hp=>.tail _ (.tail _ (.tail _ hp))
   kd_p;refine g_index (W.get (hin _ h2)) ?_;kd_p;refine m_tindex (K:=K) T (by lia) (by lia) (W.ls (hin _ h2)) (k2.at W hin) (k1.at W hin _ (List.getElem_mem hi')) hb.1 hb.2 fun tk t'=>?_;refine ⟨_,_,_,rfl,W,?_,rfl⟩;rw [yS,hxi,zK];exact hys.snoc
 · rintro ys nw ⟨hys,rfl⟩ nd lf h' t' W';rw [zO,yR] at hys;with_reducible refine x_next ?_
   with_unfolding_all exact k _ _ lf _ _ hys W'
theorem segF2 {K:Kd w}{xs tb:List El2}{n:Nat}{lt lT:zV}{n1 nT:Nat}(Z:Site w A L g) (room:A.depth+200<zS) (ru:A.units+300<cLine) (z1:xs.length≤50) (z2:n≤100) (T:Tab n tb) (hx:∀ x∈xs,0≤x.2∧x.2<n)
 (W:Wk g L h m ((cO,oO)::own)) (dO:oO.data= .cell none) (hcT:(cT,oT)∈own) (dT:oT.data= .cell (some (.ref lT))) (h1:(lt,lob (xs.map (·.1)) n1)∈own) (h2:(lT,lob (tb.map (·.1)) nT)∈own) (k1:On own fun H=>AsK K H xs) (k2:On own fun H=>AsK K H tb)
 (e1:m (sN "others")=some (.ref lt))
 (k:∀ h' t' l1 v1 n1 oO',oO'.data= .cell (some (.ref l1))→IntsL v1 (xs.map (·.2))→Wk g L h' m ((cO,oO')::(l1,lob v1 n1)::own)→zZ (zW PW w) A (execs (lawS 12) (lenv L f (CL cW cK cO cA cN cD cT))) Q E (S σ h' t')):
 zZ (zW PW w) A (execs (lawS 11) (lenv L f (CL cW cK cO cA cN cD cT))) Q E (S σ h t):=by
 with_unfolding_all refine x_cons ?_
 with_reducible refine x_asg ?_ (by wtm_at "u")
 refine e_lcU W Z.hh ?_ (by rfl) (by decide) (by rfl) (by decide) (by rfl) (by intro _;rfl);kd_p;refine lcU (vs:=xs.map (·.1)) (fun i ys nw=>IntsL ys ((xs.take i).map (·.2))∧nw=(cO,oO)::own) W (.inr ⟨_,.tail _ h1,rfl,n1,rfl⟩) (by rw [zO];lia) ⟨IntsL.nil,rfl⟩ ?_ ?_ ?_
 · rintro i ys nw ⟨-,rfl⟩;exact .inr ⟨_,.tail _ h1,rfl,n1,rfl⟩
 · clear W;rintro i ys nw v I oI C oC D m₂ h t E' hlt hv ⟨hys,rfl⟩ hC hz W;have hi':i<xs.length:=by simpa using hlt
   have hxi:xs[i]? =some xs[i]:=l_e hi';rw [zF,hxi] at hv;obtain rfl:=l_j hv;have hb:=hx xs[i] (List.getElem_mem hi');have hin:∀ p∈own,p∈((I,oI)::(C,oC)::(D,lst ys)::(cO,oO)::own):=fun p hp=>.tail _ (.tail _ (.tail _ (.tail _ hp)))
   kd_p;refine g_index (W.get (hin _ h2)) ?_;kd_p;refine m_tindex (K:=K) T (by lia) (by lia) (W.ls (hin _ h2)) (k2.at W hin) (k1.at W hin _ (List.getElem_mem hi')) hb.1 hb.2 fun tk t'=>?_;refine ⟨_,_,_,rfl,W,?_,rfl⟩;rw [yS,hxi,zK];exact hys.snoc
 · rintro ys nw ⟨hys,rfl⟩ nd lf h' t' W';rw [zO,yR] at hys;k_go;refine c_cell W'.p1 dO (fun h' oO' W' d=>?_) (by wtm_at "u") (by wtm_at "u") (by wtm_at "u");with_reducible refine x_next ?_
   with_unfolding_all exact k _ _ lf _ _ oO' d hys W'
end
end
section
open PyProof.Rows.LCg PyProof.Rows.LCt
theorem m_nindex {w:zT}{A:zU}{E:VP}{σ:zX}{h:Heap}{t:Nat}{l:zV}{vk:List zY}{kk:List Int}{c:Int}{u:Tok}{Q:VP}(hi:IntsL vk kk) (nd:kk.Nodup) (hz:kk.length≤1000) (ru:A.units+90<cLine) (hl:Ls h l vk) (hc:c∈kk)
 (k:∀ tk t',Q (.int (kk.idxOf c:Int) tk) (S σ h t')):zZ (zW PW w) A (call (.builtin "list.index") [.ref l,.int c u]) Q E (S σ h t):=by
 have hlen:=hi.1;have hj:=idx_lt hc;have hg:=List.getElem_idxOf hj;refine m_index (fun j=>decide (kk[j]? =some c)) (kk.idxOf c) (by revert hz hlen;k_in) hl (fun j hj=>eqw_ints hi (by rw [yN];lia) j hj) (by lia) (by simp only [l_e hj,hg];simp) (fun i hi'=>?_) k;rw [decide_eq_false_iff_not];intro e;obtain ⟨hlt,e⟩:=l_i.mp e;have:=List.Nodup.idxOf_getElem nd i hlt;rw [e] at this
 (revert hi' this;k_in)
section
variable {w:zT}{A:zU}{E:VP}{σ:zX}{g h:Heap}{t:Nat}{L f:zV}{m:NM}{own:Led}{Q:FP}
variable {cW cK cO cA cN cD cT:zV}{oW oK oO oA oN oD oT:Obj}
theorem segG {vT vk v1 v2 vf vs:List zY}{fs ss kk:List Int}{lT lk l1 l2 lf ls:zV}{nT nk n1 n2 nf nS:Nat}{total:Int}{tt:Tok}(Z:Site w A L g) (room:A.depth+200<zS) (ru:A.units+300<cLine) (z1:fs.length≤50) (z2:ss.length≤50)
 (hb:∀ n∈fs++ss,0≤n∧n<16) (hkk:kk=dd ((fs++ss).map kinI)) (hT:vT.length=kk.length) (ik:IntsL vk kk) (i1:IntsL v1 (fs.map fun n=>num kk n.toNat)) (i2:IntsL v2 (ss.map fun n=>num kk n.toNat)) (if':IntsL vf fs) (is':IntsL vs ss)
 (W:Wk g L h m ((cD,oD)::own)) (dD:oD.data= .cell none) (hcT:(cT,oT)∈own) (dT:oT.data= .cell (some (.ref lT))) (hcK:(cK,oK)∈own) (dK:oK.data= .cell (some (.ref lk))) (hcO:(cO,oO)∈own) (dO:oO.data= .cell (some (.ref l2)))
 (hlT:(lT,lob vT nT)∈own) (hlk:(lk,lob vk nk)∈own) (hl1:(l1,lob v1 n1)∈own) (hl2:(l2,lob v2 n2)∈own) (hlf:(lf,lob vf nf)∈own) (hls:(ls,lob vs nS)∈own)
 (e1:m (sN "one")=some (.ref l1)) (e2:m (sN "first")=some (.ref lf)) (e3:m (sN "second")=some (.ref ls)) (e4:m (sN "total")=some (.int total tt))
 (k:∀ h' t' td oD',oD'.data= .cell (some (.int ((total.fdiv 2).fmod (kk.length+1)) td))→Wk g L h' m ((cD,oD')::own)→zZ (zW PW w) A (execs (lawS 14) (lenv L f (CL cW cK cO cA cN cD cT))) Q E (S σ h' t')):
 zZ (zW PW w) A (execs (lawS 12) (lenv L f (CL cW cK cO cA cN cD cT))) Q E (S σ h t):=by
 have hkl:=ik.1;have hkz:=dd_len ((fs++ss).map kinI);rw [← hkk,zO,zD] at hkz;with_unfolding_all refine x_cons ?_
 kd_p;refine b_len (W.ls (.tail _ hlT)) (by revert z1 z2 hT hkz;k_in) fun _ _=>?_;kd_p
 · exact absurd (by assumption) (show ¬ ((vT.length:Int)≠(kk.length:Int)) by rename_i z0;revert hT z0;k_in)
 have i1l:=i1.1;have i2l:=i2.1;rw [zO] at i1l i2l;have hi:=IntsL.app if' is';have hil:=hi.1;rw [zD] at hil;refine o_addl W (W.ls (.tail _ hl1)) (W.ls (.tail _ hl2)) (by revert z1 z2 i1l i2l;k_in) fun lo h' W' _=>?_;wtm_at "w";refine e_lcU W Z.hh ?_ (by rfl) (by decide) (by rfl) (by decide) (by rfl) (by intro _;rfl);kd_p;refine o_addl W (W.ls (.tail _ (.tail _ hlf))) (W.ls (.tail _ (.tail _ hls))) (by rw [if'.1,is'.1];(revert z1 z2;k_in)) fun la h' W' _=>?_;wtm_at "w";refine lcU (vs:=vf++vs) (fun i ys nw=>IntsL ys (((fs++ss).take i).map fun n=>num kk n.toNat)∧nw=(la,lob (vf++vs) 0)::(lo,lob (v1++v2) 0)::(cD,oD)::own) W (.inr ⟨_,.head _,rfl,0,rfl⟩) (by rw [zD,if'.1,is'.1];(revert z1 z2;k_in)) ⟨IntsL.nil,rfl⟩ ?_ ?_ ?_
 · rintro i ys nw ⟨-,rfl⟩;exact .inr ⟨_,.head _,rfl,0,rfl⟩
 · clear W;rintro i ys nw v I oI C oC D m₂ h t E' hlt hv ⟨hys,rfl⟩ hC hz W;obtain ⟨n,tn,hn,rfl⟩:=hi.get hv;have hn16:=hb n (l_m hn);have hin:∀ p∈own,p∈((I,oI)::(C,oC)::(D,lst ys)::(la,lob (vf++vs) 0)::(lo,lob (v1++v2) 0)::(cD,oD)::own):=fun p hp=>.tail _ (.tail _ (.tail _ (.tail _ (.tail _ (.tail _ hp)))))
   kd_p;refine g_index (W.get (hin _ hlk)) ?_;kd_p;refine kind_spec (n:=n.toNat) (kz:=kinI n) Z W (by lia) (by revert hn16;k_in) (by revert hn16;k_in) rfl fun h' t' u W' _=>?_;wtm_at "w";kd_p;have hmem:kinI n∈kk:=by rw [hkk];exact dd_mem.mpr (l_o (l_m hn))
   refine m_nindex ik (hkk ▸ dd_nodup _) (by revert z1 z2 hkz;k_in) (by lia) (W.ls (hin _ hlk)) hmem fun tk t'=>?_;refine ⟨_,_,_,rfl,W,?_,rfl⟩;rw [yS,hn,zK];have:num kk n.toNat=(kk.idxOf (kinI n):Int):=by unfold num;exact if_pos hmem
   show IntsL _ (_++[num kk n.toNat])
   rw [this];exact hys.snoc
 · rintro ys nw ⟨hys,rfl⟩ nd D h' t' W;rw [zD,if'.1,is'.1,← zD,yR] at hys;have hsum:=IntsL.app i1 i2;rw [← zK] at hsum;refine o_neI (W.ls (.tail _ (.tail _ (.head _)))) (W.ls (.head _)) hsum hys (by lia) ?_;kd_p;refine o_mod (by k_in) fun td _=>?_;k_go;refine c_cell (W.drop (news':=(cD,oD)::own) (by wtm_at "b")) dD (fun h' oD' W' d=>?_) (by wtm_at "u") (by wtm_at "u") (by wtm_at "u");with_reducible refine x_next ?_
   with_unfolding_all exact k _ _ td oD' d W'
end
end
section
open PyProof.Rows.LCg PyProof.Rows.LCt
section
variable {w:zT}{A:zU}{E:VP}{σ:zX}{g h:Heap}{t:Nat}{L f:zV}{m:NM}{own:Led}{Q:FP}
variable {cW cK cO cA cN cD cT:zV}{oW oK oO oA oN oD oT:Obj}
theorem segH {v1 v2:List zY}{ns ks:List Int}{l1 l2:zV}{n1 n2:Nat}{odd:Int}{td:Tok}(Z:Site w A L g) (room:A.depth+200<zS) (ru:A.units+300<cLine) (z1:ns.length≤50) (z2:ks.length≤50)
 (i1:IntsL v1 ns) (i2:IntsL v2 ks) (W:Wk g L h m ((cA,oA)::own)) (dA:oA.data= .cell none) (hcO:(cO,oO)∈own) (dO:oO.data= .cell (some (.ref l2))) (hcD:(cD,oD)∈own) (dD:oD.data= .cell (some (.int odd td)))
 (hl1:(l1,lob v1 n1)∈own) (hl2:(l2,lob v2 n2)∈own) (e1:m (sN "one")=some (.ref l1))
 (k:∀ h' t' ld vd nd tups la oA',TrN tups vd (dueP odd ns ks)→oA'.data= .cell (some (.ref la))→Wk g L h' (setm m (sN "due") (.ref ld)) ((la,lob [] 0)::(cA,oA')::(ld,lob vd nd)::(tups++own))→zZ (zW PW w) A (execs (lawS 16) (lenv L f (CL cW cK cO cA cN cD cT))) Q E (S σ h' t')):
 zZ (zW PW w) A (execs (lawS 14) (lenv L f (CL cW cK cO cA cN cD cT))) Q E (S σ h t):=by
 with_unfolding_all refine x_cons ?_
 kd_p;refine due_spec Z W (by lia) (by lia) (W.ls (.tail _ hl1)) (W.ls (.tail _ hl2)) i1 i2 (by lia) (by lia) fun h' t' ld vd nd tups W' _ tr=>?_;wtm_at "w";kd_p;with_reducible rename zV=>la
 refine c_cell (W.perm (news':=(cA,oA)::(la,lob [] 0)::(ld,lob vd nd)::(tups++own)) (by wtm_at "p")) dA (fun h' oA' W' d=>?_) (by wtm_at "u") (by wtm_at "u") (by wtm_at "u");with_reducible refine x_next ?_
 with_unfolding_all exact k _ _ ld vd nd tups la oA' tr d W'.p1
end
end
section
open PyProof.Rows.LCg PyProof.Rows.LCt
def Kd.sub {w:zT}(K:Kd w) (P:Int→Prop):Kd w where
 is:=fun h v c=>K.is h v c∧P c
 ok:=K.ok
 hash:=K.hash
 keeps:=fun x k=>⟨K.keeps x.1 k,x.2⟩
 inj:=fun x y=>K.inj x.1 y.1
 eqv:=fun x y u=>K.eqv x.1 y.1 u
 pyHash:=fun x o u k=>K.pyHash x.1 o u k
 quiet:=fun x o k=>K.quiet x.1 o k
 self:=fun x o y p e z k=>K.self x.1 o y.1 p e z k
 plainH:=fun x o k=>K.plainH x.1 o k
 own:=fun x o k=>K.own x.1 o k
 txt:=fun x y=>K.txt x.1 y.1
theorem kdf_sub {w:zT}{K:Kd w}{P:Int→Prop}(x:KdF K):KdF (K.sub P):=fun a n=>x a.1 n
set_option backward.match.sparseCases false in
noncomputable def laP:Expr→Arguments
 | .Lambda p _ _ _=>p
 |_=>dA (st PW 21)
set_option backward.match.sparseCases false in
noncomputable def laB:Expr→Expr
 | .Lambda _ b _ _=>b
 |e=>e
set_option backward.match.sparseCases false in
noncomputable def laS:Expr→Scope
 | .Lambda _ _ s _=>s
 |_=>dS (st PW 21)
noncomputable def lam1:Expr:=let_mvar% ?f:=(_:Expr);let_mvar% ?g:=(show (lawS 16).headD (.Pass ⟨0,0,0,0⟩)= .Assign _ (.Call _ (?f::_) _ _) _ by with_unfolding_all rfl);?f
noncomputable def lam2:Expr:=let_mvar% ?f:=(_:Expr);let_mvar% ?g:=(show (lawS 19).headD (.Pass ⟨0,0,0,0⟩)= .Assign _ (.Call _ (?f::_) _ _) _ by with_unfolding_all rfl);?f
end
local macro_rules | `(tactic| wtm_at $s) => mgx s "g" "id_name: r_free W hc:u2 hm:a3 hd:a4 ? hk:u hx:u1 hb:k hn:k"
section
open PyProof.Rows.LCg PyProof.Rows.LCt
theorem judge1 {w:zT}{H:Heap}{j c' asked cA cD:zV}{oc oA oD:Obj}{name qual:Str}{pm ctv:zY}{odd:Int}{td:Tok}
 (hj:H.get? j=some (kla_obj name qual (laP lam1) (laB lam1) (laS lam1) [(sN "odd",cD),(sN "asked",cA)] pm c' ctv)) (hc:H.get? c'=some oc) (hq:∃ vs t,oc.data= .fields vs∧vs[1]? =some (.str qual t))
 (hA:H.get? cA=some oA) (dA:oA.data= .cell (some (.ref asked))) (hD:H.get? cD=some oD) (dD:oD.data= .cell (some (.int odd td))):Judge w (intKd w) j odd asked H where
 fn:=⟨_,_,_,hj⟩
 call:=by
  intro A L h₀ h t σ m rest n0 vs v c Q E Z W kk room ru hz hv k;obtain ⟨tv,rfl⟩:=hv;obtain ⟨vs',tq,e1,e2⟩:=hq;have kb:Kp H (gnd h [(asked,lob vs n0)]):=kk.trans (kpu (mu:=[(asked,lob vs n0)]) W);have hA':=kb _ _ hA;have hD':=kb _ _ hD;refine lam_gen (mu:=[(asked,lob vs n0)]) (rest:=rest) (binds:=[(zQ "number",.int c tv)]) Z W (by lia) (W.kp _ _ (kk _ _ hj)) (W.kp _ _ (kk _ _ hc)) e1 e2 (by kernel_rfl!) (locs (by kernel_rfl!)) (by decide) (by kernel_rfl!) (by kernel_rfl!) (by kernel_rfl!) fun L' h₁ t₁ Z' W'=>?_;replace Z:=Z';replace W:=W';clear Z' W';have e3:(fun y=>List.lookup y [(zQ "number",Value.int c tv)].reverse) (sN "number")=some (.int c tv):=by kernel_rfl!
  generalize (fun y=>List.lookup y [(zQ "number",Value.int c tv)].reverse)=m' at W e3;with_unfolding_all refine c_name ?_
  kd_p;refine noted_spec Z W (by show A.depth+1<_;lia) (by lia) fun h' t' n' W' _=>?_;exact ⟨h',t',_,_,rfl,W',fun W₃=>k h' t' n' W₃⟩
theorem judge2 {w:zT}{K:Kd w}{H:Heap}{j c' asked cA cD cT lT:zV}{oc oA oD oT:Obj}{name qual:Str}{pm ctv:zY}{odd:Int}{td:Tok}{n nT:Nat}{tb:List El2}
 (hj:H.get? j=some (kla_obj name qual (laP lam2) (laB lam2) (laS lam2) [(sN "table",cT),(sN "odd",cD),(sN "noted",cA)] pm c' ctv)) (hc:H.get? c'=some oc) (hq:∃ vs t,oc.data= .fields vs∧vs[1]? =some (.str qual t))
 (hA:H.get? cA=some oA) (dA:oA.data= .cell (some (.ref asked))) (hD:H.get? cD=some oD) (dD:oD.data= .cell (some (.int odd td))) (hT:H.get? cT=some oT) (dT:oT.data= .cell (some (.ref lT)))
 (hl:H.get? lT=some (lob (tb.map (·.1)) nT)) (ht:AsK K H tb) (T:Tab n tb) (hz:n≤1000):Judge w (K.sub fun c=>0≤c∧c<n) j odd asked H where
 fn:=⟨_,_,_,hj⟩
 call:=by
  intro A L h₀ h t σ m rest n0 vs v c Q E Z W kk room ru hz hv k;obtain ⟨hv,hv0,hv1⟩:=hv;obtain ⟨vs',tq,e1,e2⟩:=hq;have kb:Kp H (gnd h [(asked,lob vs n0)]):=kk.trans (kpu (mu:=[(asked,lob vs n0)]) W);have hA':=kb _ _ hA;have hD':=kb _ _ hD;have hT':=kb _ _ hT;have hl':=kb _ _ hl;have ht':=ht.kp kb;have hv':=K.keeps hv (kpu (mu:=[(asked,lob vs n0)]) W);refine lam_gen (mu:=[(asked,lob vs n0)]) (rest:=rest) (binds:=[(zQ "thing",v)]) Z W (by lia) (W.kp _ _ (kk _ _ hj)) (W.kp _ _ (kk _ _ hc)) e1 e2 (by kernel_rfl!) (locs (by kernel_rfl!)) (by decide) (by kernel_rfl!) (by kernel_rfl!) (by kernel_rfl!) fun L' h₁ t₁ Z' W'=>?_;replace Z:=Z';replace W:=W';clear Z' W';have e3:(fun y=>List.lookup y [(zQ "thing",v)].reverse) (sN "thing")=some v:=by kernel_rfl!
  generalize (fun y=>List.lookup y [(zQ "thing",v)].reverse)=m' at W e3;with_unfolding_all refine c_name ?_
  kd_p;refine g_index (W.kp _ _ hl') ?_;kd_p;refine m_tindex (K:=K) T (by lia) (by show A.units+3+90<_;lia) ⟨_,W.kp _ _ hl',rfl,nT,rfl⟩ (ht'.kp W.kp) (K.keeps hv' W.kp) hv0 hv1 fun tk t'=>?_;kd_p;refine noted_spec Z W (by show A.depth+1<_;lia) (by lia) fun h' t' n' W' _=>?_;exact ⟨h',t',_,_,rfl,W',fun W₃=>k h' t' n' W₃⟩
end
section
open PyProof.Rows.LCg PyProof.Rows.LCt
theorem kde_sub {w:zT}{K:Kd w}{P:Int→Prop}(x:KdE K):KdE (K.sub P):=fun a b o p u k=>x a.1 b.1 o p u k
theorem BRows.mem {ys:List El2}{rs ps} (h:BRows ys rs ps):∀ r∈rs,∃ p∈ps,BRow ys r p:=by
 induction h with
 |nil=>intro r hr;cases hr
 |@cons r p rs ps h1 _ ih=>
  intro q hq;rcases zL.mp hq with rfl|hq
  · exact ⟨p,.head _,h1⟩
  · obtain ⟨p',hp,hb⟩:=ih q hq;exact ⟨p',.tail _ hp,hb⟩
theorem made_ms {w:zT}{K:Kd w}{j one two dx asked x:zV}{odd:Int}{xs ys:List El2}{news' own:Led}(M:Made w K j one two dx asked odd ys news') (zx:xs.length≤100) (zy:ys.length≤100)
 (hs:On own fun H=>(∃ n,H.get? one=some (lob (xs.map (·.1)) n))∧(∃ n,H.get? two=some (lob (ys.map (·.1)) n))∧AsK K H xs∧AsK K H ys):
 ∃ od jo ep bd bj bp rows n jk,news'=(dx,od)::(asked,lob ((firsts ys).map (·.1)) n)::jk∧(∀ y∈ys,K.ok y.2)∧
  ∀ h₀ rest,(∀ p∈jk,p∈rest)→(x,instObj 257 dx)∈rest→(∀ p∈own,p∈rest)→MsL w K x dx one two bd bj od jo ep j bp odd xs ys rows h₀ rest:=by
 obtain ⟨od,bd,bj,bp,rows,ls,jk,ep,jo,n,rfl,sd,js,br,fi,ok,bd1⟩:=M;refine ⟨od,jo,ep,bd,bj,bp,rows,n,_,rfl,ok,fun h₀ rest r1 r2 r3=>⟨sd,fun H kH hr=>?_⟩⟩;obtain ⟨s1,s2,s3,s4⟩:=hs H fun p hp=>hr p (r3 p hp)
 refine ⟨⟨hr _ r2,s1,s2⟩,fun hd=>⟨hr _ r2,hd,sd,hr _ (r1 _ (.head _)),bd1,hr _ (r1 _ (.tail _ (.head _))),js,fun r hr'=>?_,fi,ok,s1,s2,s3,s4,zx,zy⟩⟩;obtain ⟨p,hp,vs,n',e1,e2,e3⟩:=br.mem r hr';exact ⟨p.1,vs,n',e1,by rw [← e2];exact hr _ (r1 _ (.tail _ (.tail _ (.tail _ (l_l _ hp))))),e3⟩
noncomputable def IE (vs:List zY) (ns:List Int):List El2:=vs.zip ns
theorem IE_fst {vs ns} (h:IntsL vs ns):(IE vs ns).map (·.1)=vs:=List.map_fst_zip (by rw [h.1];exact yX _)
theorem IE_snd {vs ns} (h:IntsL vs ns):(IE vs ns).map (·.2)=ns:=List.map_snd_zip (by rw [h.1];exact yX _)
theorem IE_len {vs ns} (h:IntsL vs ns):(IE vs ns).length=ns.length:=by unfold IE;rw [List.length_zip,h.1,Nat.min_self]
theorem IE_ask {w:zT}{H:Heap}{vs ns} (h:IntsL vs ns):AsK (intKd w) H (IE vs ns):=by
 intro y hy;obtain ⟨i,hi⟩:=yB.mp hy;unfold IE at hi;rw [List.getElem?_zip_eq_some] at hi;obtain ⟨n,t,e,q⟩:=h.get hi.1;rw [hi.2] at e;obtain rfl:=l_j e;exact ⟨t,q⟩
end
section
open PyProof.Rows.LCg PyProof.Rows.LCt
set_option backward.match.sparseCases false in
noncomputable def laPos:Expr→Pos
 | .Lambda _ _ _ p=>p
 |_=>⟨0,0,0,0⟩
section
variable {w:zT}{A:zU}{E:VP}{σ:zX}{g h:Heap}{t:Nat}{L f:zV}{m:NM}{own:Led}{Q:FP}
variable {cW cK cO cA cN cD cT:zV}{oW oK oO oA oN oD oT:Obj}
theorem m_lamO {M:Model}{E:VP}{rest:Led}{cn:Str}{cs:Scope}{c a:zV}{cl:List (Str×zV)}{pos:Pos}{name qual:Str}{params:Arguments}{body:Expr}{scope:Scope}{firstLine:Nat}{clos:List (Str×zV)}{P:zV}{ps:Array zY}{Q:VP}(Z:Site w A L g) (C:CodeHd g c P) (W:Wk g L h m ((P,tabObj ps)::rest))
 (ht:TriplesOk ps.toList) (hnf:codeAmong pos ps.toList=none) (hcl:closureFor scope (envX cn cs L a (.ref c) cl)=pure clos)
 (k:∀ f oj c' oc ps' pm ctv h' t',oj=kla_obj name qual params body scope clos pm c' ctv→ps'=ps++#[rawInt pos.line,rawInt pos.col,.ref c']→Wk g L h' m ((f,oj)::(c',oc)::(P,tabObj ps')::rest)→(∃ vs t,oc.data= .fields vs∧vs[1]? =some (.str qual t))→Q (.ref f) (S σ h' t')):
 zZ M A (makeFunction name qual params (.expr body) scope (envX cn cs L a (.ref c) cl) [] [] [] pos firstLine) Q E (S σ h t):=
 m_lam Z C W ht hnf hcl fun f c' oc pm ctv h' t' W' hq=>k f _ c' oc _ pm ctv h' t' rfl rfl W' hq
theorem segI1 {v1 v2:List zY}{ns ks:List Int}{l1 l2 la:zV}{n1 n2:Nat}{odd:Int}{td:Tok}(Z:Site w A L g) (C:CodeHd g 340 338) (room:A.depth+200<zS) (ru:A.units+300<cLine) (z1:ns.length≤50) (z2:ks.length≤50)
 (i1:IntsL v1 ns) (i2:IntsL v2 ks) (W:Wk g L h m ((la,lob [] 0)::(338,tabObj #[])::own)) (hcA:(cA,oA)∈own) (dA:oA.data= .cell (some (.ref la))) (hcO:(cO,oO)∈own) (dO:oO.data= .cell (some (.ref l2))) (hcD:(cD,oD)∈own) (dD:oD.data= .cell (some (.int odd td)))
 (hl1:(l1,lob v1 n1)∈own) (hl2:(l2,lob v2 n2)∈own) (e1:m (sN "one")=some (.ref l1))
 (k:∀ h' t' x dx od jo ep bd bj bp rows n j ps jk,MsL w (intKd w) x dx l1 l2 bd bj od jo ep j bp odd (IE v1 ns) (IE v2 ks) rows g ((la,lob ((firsts (IE v2 ks)).map (·.1)) n)::(338,tabObj ps)::(jk++own))→
  TriplesOk ps.toList→codeAmong (laPos lam2) ps.toList=none→Wk g L h' (setm m (sN "plain") (.ref x)) ((dx,od)::(la,lob ((firsts (IE v2 ks)).map (·.1)) n)::(338,tabObj ps)::(jk++own))→zZ (zW PW w) A (execs (lawS 17) (lenv L f (CL cW cK cO cA cN cD cT))) Q E (S σ h' t')):
 zZ (zW PW w) A (execs (lawS 16) (lenv L f (CL cW cK cO cA cN cD cT))) Q E (S σ h t):=by
 have f1:=IE_fst i1;have f2:=IE_fst i2;have y1:=IE_len i1;have y2:=IE_len i2;with_unfolding_all refine x_cons ?_
 kd_p;refine kla_eval (by rfl) ?_;refine m_lamO Z C W.p1 trivial (by rfl) (by rfl) fun j oj c' oc ps pm ctv h' t' hoj hps W' hq=>?_;wtm_at "w";kd_p;refine make_spec (K:=intKd w) (odd:=odd) kdf_int Z W.p3 (by lia) (by lia) (by revert z2 y2;k_in) (fun H _ hr=>⟨⟨n2,?_⟩,IE_ask i2,?_⟩) (fun e h' t' _ _ ⟨y,_,hy⟩=>absurd trivial hy) fun x dx h' t' news' hm W'=>?_
 · rw [f2];exact hr (l2,lob v2 n2) (.tail _ (.tail _ (.tail _ hl2)))
 · subst hoj;with_unfolding_all exact judge1 (hr _ (.head _)) (hr _ (.tail _ (.head _))) hq (hr _ (.tail _ (.tail _ (.tail _ hcA)))) dA (hr _ (.tail _ (.tail _ (.tail _ hcD)))) dD
 obtain ⟨od,jo,ep,bd,bj,bp,rows,n,jk,rfl,-,ms⟩:=made_ms (own:=own) (x:=x) (xs:=IE v1 ns) hm (by revert z1 y1;k_in) (by revert z2 y2;k_in) fun H hr=>⟨⟨n1,by rw [f1];exact hr (l1,lob v1 n1) hl1⟩,⟨n2,by rw [f2];exact hr (l2,lob v2 n2) hl2⟩,IE_ask i1,IE_ask i2⟩;wtm_at "w";k_go;with_reducible refine x_next ?_
 refine k _ _ x dx od jo ep bd bj bp rows n j ps (jk++[(x,instObj 257 dx),(j,oj),(c',oc)]) (ms g _ ?_ ?_ ?_) ?_ ?_ (W.perm (by wtm_at "p"))
 · intro p hp;wtm_at "m"
 · wtm_at "m"
 · intro p hp;wtm_at "m"
 · subst hps;simp [TriplesOk,rawInt]
 · subst hps
   kernel_rfl!
end
end
section
open PyProof.Rows.LCg PyProof.Rows.LCt
section
variable {w:zT}{A:zU}{E:VP}{σ:zX}{h₀ h:Heap}{t:Nat}{L:zV}{m:NM}{news:Led}{env:Env}{elt ct iter:Expr}{x:Str}{scope:Scope}{cl:List (Str×zV)}{px pos:Pos}
def LcR (w:zT) (A:zU) (σ:zX) (h₀:Heap) (L:zV) (m:NM) (env:Env) (ct elt:Expr) (x:Str) (scope:Scope) (cl:List (Str×zV)) (Fin:List zY→Led→Prop):VP:=fun v s₁=>
 ∃ (h':Heap) (t':Nat) (r:zV) (b:Int) (t1 t2 t3:Tok) (news:Led),v= .ref r∧s₁=S σ h' t'∧Wk h₀ L h' m news∧IsRange h' r 0 b 1 t1 t2 t3∧0≤b∧b≤1000∧∃ J:Nat→List zY→Led→Prop,J 0 [] news∧
  (∀ i ys news v I oI C oC D m₂ h t E',i<b.toNat→(∃ tk,v= .int (i:Int) tk)→J i ys news→NsObj oC m₂→m₂ x=some v→Wk h₀ L h m ((I,oI)::(C,oC)::(D,lst ys)::news)→
   zZ (zW PW w) A (isTrue ct (compEnvC scope cl C env) (eval ct (compEnvC scope cl C env))) (fun ok s'=>if ok=true then
    zZ (zW PW w) A (eval elt (compEnvC scope cl C env)) (CE σ h₀ L m I oI C oC D ys (fun y news'=>J (i+1) (ys++[y]) news')) E' s'
    else CE σ h₀ L m I oI C oC D ys (fun _ news'=>J (i+1) ys news') Value.none s') E' (S σ h t))∧
  (∀ ys nw,J b.toNat ys nw→(nw.map (·.1)).Nodup→Fin ys nw)
theorem lcR {Fin:List zY→Led→Prop}{b:Int}{tk:Tok}(J:Nat→List zY→Led→Prop) (W:Wk h₀ L h m news) (hb:0≤b∧b≤1000) (j0:J 0 [] news)
 (turn:∀ i ys news v I oI C oC D m₂ h t E',i<b.toNat→(∃ tk,v= .int (i:Int) tk)→J i ys news→NsObj oC m₂→m₂ x=some v→Wk h₀ L h m ((I,oI)::(C,oC)::(D,lst ys)::news)→
  zZ (zW PW w) A (isTrue ct (compEnvC scope cl C env) (eval ct (compEnvC scope cl C env))) (fun ok s'=>if ok=true then
   zZ (zW PW w) A (eval elt (compEnvC scope cl C env)) (CE σ h₀ L m I oI C oC D ys (fun y news'=>J (i+1) (ys++[y]) news')) E' s'
   else CE σ h₀ L m I oI C oC D ys (fun _ news'=>J (i+1) ys news') Value.none s') E' (S σ h t))
 (fin:∀ ys nw,J b.toNat ys nw→(nw.map (·.1)).Nodup→Fin ys nw):zZ (zW PW w) A (call (.type "range") [.int b tk]) (LcR w A σ h₀ L m env ct elt x scope cl Fin) E (S σ h t):=
 call_range_1 ⟨_,_,h.objs.size,b,_,_,_,news,rfl,rfl,(W.new _ rfl).drop (yC ..),IsRange.new ..,hb.1,hb.2,J,j0,turn,fin⟩
theorem e_lcR {Q:VP}(W0:Wk h₀ L h m news) (hh:A.handled=none)
 (h1:zZ (zW PW w) A (eval iter env) (LcR w A σ h₀ L m env ct elt x scope cl (FE σ h₀ L m Q)) E (S σ h t))
 (hclos:closureFor scope env=pure cl) (hcell:∀ y∈scope.names,y.2≠ .cell) (hkind:scope.kind= .function)
 (hnames:∀ y∈scope.names,y.2= .local→scope.names.lookup y.1=some .local) (hx:scope.names.lookup x=some .local) (hs:∀ x,foldedSetIterable iter env x=pure x):
 zZ (zW PW w) A (eval (.ListComp elt [⟨.Name x px,iter,[ct],0⟩] scope pos) env) Q E (S σ h t):=by
 refine ListComp_T W0.fr hclos hcell hkind hnames hx (w_m h1 (fun v s₁ q=>?_) fun _ _ e=>e) hs;obtain ⟨h',t',r,b,t1,t2,t3,nw,rfl,rfl,W,hr,hb0,hb1,J,j0,turn,fin⟩:=q;refine .inr ⟨r,0,b,t1,t2,t3,b.toNat,nw,rfl,hh,W.fr,W.nw,hr,small_one (by decide) (by decide) (by lia) (by lia),by rw [rangeSize_one];split <;> lia,by rw [yF];(revert hb1;k_in),?_⟩;rintro s₂ ⟨g,rfl⟩;exact lc_restT (n:=b.toNat) (P:=fun i v=>∃ t,v= .int (0+(i:Int)) t) (g:=g) (tg:=t') J (fun _ _ _ _=>trivial) (fun i ys news v I oI C oC D m₂ h t E' hi hv=>turn i ys news v I oI C oC D m₂ h t E' hi (by simpa using hv)) (fun ys nw j nd=>fe_of nd (fin ys nw j nd)) _ 0 [] nw (by k_in) j0 W.nd
end
theorem dd_yes {ks:List Int}{i:Nat}{c:Int}(h:ks[i]? =some c) (hn:c∉ks.take i):dd (ks.take (i+1))=dd (ks.take i)++[c]:=by
 rw [yS,h];show dd (_++[c])=_
 rw [dd_snoc];unfold ddStep;rw [if_neg fun q=>hn (dd_mem.mp q)]
theorem dd_no {ks:List Int}{i:Nat}{c:Int}(h:ks[i]? =some c) (hn:c∈ks.take i):dd (ks.take (i+1))=dd (ks.take i):=by
 rw [yS,h];show dd (_++[c])=_
 rw [dd_snoc];unfold ddStep;rw [if_pos (dd_mem.mpr hn)]
theorem firsts_ints {w:zT}{H:Heap}{xs:List El2}(h:AsK (intKd w) H xs):IntsL ((firsts xs).map (·.1)) (dd (xs.map (·.2))):=by
 rw [← firsts_num];refine ⟨by simp,fun k n e=>?_⟩;rw [zF] at e;rw [zF];cases q:(firsts xs)[k]? with
 |none=>rw [q] at e;cases e
 |some y=>
  rw [q] at e;obtain rfl:=l_j e;rcases firsts_sub _ _ (l_m q) with hy|hy
  · cases hy
  · obtain ⟨t,ht⟩:=h y hy;exact ⟨t,by rw [Option.map_some,ht]⟩
section
variable {w:zT}{A:zU}{E:VP}{σ:zX}{g h:Heap}{t:Nat}{L f:zV}{m:NM}{own:Led}{Q:FP}
variable {cW cK cO cA cN cD cT:zV}{oW oK oO oA oN oD oT:Obj}
theorem segI2 {v1 v2 vd:List zY}{ns ks:List Int}{l1 l2 la ld x dx bd bj j bp:zV}{od jo ot:Obj}{ep n n2 nd:Nat}{rows:List Rw}{odd:Int}{tups:Led}(Z:Site w A L g) (l1':L1 A) (room:A.depth+200<zS) (ru:A.units+300<cLine) (z1:ns.length≤50) (z2:ks.length≤50)
 (i1:IntsL v1 ns) (i2:IntsL v2 ks) (M:MsL w (intKd w) x dx l1 l2 bd bj od jo ep j bp odd (IE v1 ns) (IE v2 ks) rows g ((la,lob ((firsts (IE v2 ks)).map (·.1)) n)::(338,ot)::own))
 (W:Wk g L h m ((dx,od)::(la,lob ((firsts (IE v2 ks)).map (·.1)) n)::(338,ot)::own)) (hcA:(cA,oA)∈own) (dA:oA.data= .cell (some (.ref la))) (hcO:(cO,oO)∈own) (dO:oO.data= .cell (some (.ref l2)))
 (hl2:(l2,lob v2 n2)∈own) (hld:(ld,lob vd nd)∈own) (htu:∀ p∈tups,p∈own) (tr:TrN tups vd (dueP odd ns ks)) (e1:m (sN "plain")=some (.ref x)) (e2:m (sN "due")=some (.ref ld))
 (k:∀ h' t',Wk g L h' m ((338,ot)::own)→zZ (zW PW w) A (execs (lawS 18) (lenv L f (CL cW cK cO cA cN cD cT))) Q E (S σ h' t')):
 zZ (zW PW w) A (execs (lawS 17) (lenv L f (CL cW cK cO cA cN cD cT))) Q E (S σ h t):=by
 have y1:=IE_len i1;have y2:=IE_len i2;with_unfolding_all refine x_cons ?_
 kd_p;refine told_spec (K:=intKd w) kdf_int kde_int l1' Z W (by lia) (by lia) M (by revert z1 y1;k_in) (by revert z2 y2;k_in) (fun h' t' D ps bs n' jk hbs hps _ W'=>?_) (fun h' t' _ ⟨z,_,hz⟩=>absurd trivial hz);wtm_at "w";kd_p;have hd:=gmb_due hbs;rw [IE_snd i1,IE_snd i2] at hd;subst hd;have hpl:=hps.len;rw [zO] at hpl;have htl:=tr.1;have hin:∀ p∈own,p∈((D,lob (refs ps) n')::(ps++(jk++(la,lob ((firsts (IE v2 ks)).map (·.1)) n)::(338,ot)::own))):=fun p hp=>.tail _ (l_r _ (l_r _ (.tail _ (.tail _ hp))))
 refine o_neS (W.ls (.head _)) (W.ls (hin _ hld)) (by lia) (by unfold refs;rw [zO];(revert hpl htl;k_in)) (eq_rows (ps:=ps) (tups:=tups) (fun p hp=>W.get (.tail _ (l_l _ hp))) (fun p hp=>W.get (hin _ (htu p hp))) hps tr (by rw [yN];lia)) ?_
 replace W:=W.drop (news':=(la,lob ((firsts (IE v2 ks)).map (·.1)) n)::(338,ot)::own) (by
  refine List.Sublist.cons _ ?_
  exact (List.sublist_append_right _ _).trans (List.sublist_append_right _ _))
 clear hin;kd_p;refine e_lcR W Z.hh ?_ (by rfl) (by decide) (by rfl) (by decide) (by rfl) (by intro _;rfl);kd_p;have i2l:=i2.1;refine lcR (fun i ys nw=>IntsL ys (dd (ks.take i))∧nw=(la,lob ((firsts (IE v2 ks)).map (·.1)) n)::(338,ot)::own) W (by revert z2;k_in) ⟨IntsL.nil,rfl⟩ ?_ ?_
 · clear W;rintro i ys nw v I oI C oC D m₂ h t E' hlt ⟨tk,rfl⟩ ⟨hys,rfl⟩ hC hz W;have hlt':i<ks.length:=by lia
   have hki:ks[i]? =some ks[i]:=l_e hlt';obtain ⟨ai,hai⟩:∃ ai:Int,ai=(i:Int):=⟨_,rfl⟩;rw [← hai] at hz;have hait:ai.toNat=i:=by (revert hai;k_in)
   kd_p;rename_i c u hc;rw [hait] at hc;refine sl_upto W (W.ls (.tail _ (.tail _ (.tail _ (.tail _ (.tail _ hl2)))))) (by revert hai;k_in) (by revert z2 i2l;k_in) (fun a h' W' _=>?_) (by wtm_at "u") (by intro _;wtm_at "u");wtm_at "w";rw [hait] at W;have it:=i2.take i;kd_p;refine o_notin (fun j=>decide ((ks.take i)[j]? =some c)) (W.ls (.head _)) (fun j hj=>eqw_ints it (by rw [yN];lia) j hj) ?_;rw [any_ints it.1];replace W:=W.drop (yC ..);by_cases hin:c∈ks.take i
   · rw [l_t hin,Bool.not_true];kd_p;exact ⟨_,_,_,rfl,W,by rw [dd_no hc hin];exact hys,rfl⟩
   · rw [l_f hin,Bool.not_false];kd_p;rename_i c' u' hc';rw [hait,hc] at hc';obtain rfl:=l_j hc';exact ⟨_,_,_,rfl,W,by rw [dd_yes hc hin];exact hys.snoc,rfl⟩
 · rintro ys nw ⟨hys,rfl⟩ nd D h' t' W;rw [yV,yR] at hys;have hfi:=firsts_ints (IE_ask (w:=w) (H:=g) i2);rw [IE_snd i2] at hfi;refine o_neI (W.ls (.tail _ (.head _))) (W.ls (.head _)) hfi hys (by lia) ?_;iterate 4 k_go
   with_unfolding_all exact k _ _ (W.drop (news':=(338,ot)::own) (by wtm_at "b"))
end
end
section
open PyProof.Rows.LCg PyProof.Rows.LCt
def MatV (w:zT) (K:Kd w) (lt lo ln:zV) (odd:Int) (xs ys:List El2) (g:Heap) (own:Led) (v:zY) (led:Led):Prop:=
 (v= .none∧(∃ y∈ys,¬ K.ok y.2)∧(∃ n0,(ln,lob [] n0)∈led)∧∃ ps,(338,tabObj ps)∈led)∨
 (∃ x dx od jo ep bd bj j bp rows n rest,v= .ref x∧led=(dx,od)::rest∧(∀ y∈ys,K.ok y.2)∧(ln,lob ((firsts ys).map (·.1)) n)∈rest∧(∃ ps,(338,tabObj ps)∈rest)∧(∀ p∈own,p∈rest)∧MsL w K x dx lt lo bd bj od jo ep j bp odd xs ys rows g rest)
abbrev InT (n:Nat) (c:Int):Prop:=0≤c∧c<n
section
variable {w:zT}{A:zU}{E:VP}{σ:zX}{g h:Heap}{t:Nat}{L f:zV}{m:NM}{own:Led}{Q:FP}
variable {cW cK cO cA cN cD cT:zV}{oW oK oO oA oN oD oT:Obj}
theorem segJ1 {K:Kd w}{xs ys tb:List El2}{n:Nat}{lt lo lT:zV}{n1 n2 nT:Nat}{odd:Int}{td:Tok}{ps:Array zY}(KF:KdF K) (Z:Site w A L g) (l1':L1 A) (C:CodeHd g 340 338) (room:A.depth+200<zS) (ru:A.units+300<cLine) (z1:xs.length≤50) (z2:ys.length≤50)
 (T:Tab n tb) (hn:n≤1000) (kx:On own fun H=>AsK (K.sub (InT n)) H xs) (ky:On own fun H=>AsK (K.sub (InT n)) H ys) (kt:On own fun H=>AsK K H tb) (ht:TriplesOk ps.toList) (hnf:codeAmong (laPos lam2) ps.toList=none)
 (W:Wk g L h m ((cN,oN)::(338,tabObj ps)::own)) (dN:oN.data= .cell none) (hcT:(cT,oT)∈own) (dT:oT.data= .cell (some (.ref lT))) (hcD:(cD,oD)∈own) (dD:oD.data= .cell (some (.int odd td)))
 (hlt:(lt,lob (xs.map (·.1)) n1)∈own) (hlo:(lo,lob (ys.map (·.1)) n2)∈own) (hlT:(lT,lob (tb.map (·.1)) nT)∈own) (e1:m (sN "things")=some (.ref lt)) (e2:m (sN "others")=some (.ref lo))
 (k:∀ h' t' v led oN' ln,oN'.data= .cell (some (.ref ln))→(cN,oN')∈led→(∀ p∈own,p∈led)→MatV w (K.sub (InT n)) lt lo ln odd xs ys g own v led→Wk g L h' (setm m (sN "matcher") v) led→zZ (zW PW w) A (execs (lawS 20) (lenv L f (CL cW cK cO cA cN cD cT))) Q E (S σ h' t')):
 zZ (zW PW w) A (execs (lawS 18) (lenv L f (CL cW cK cO cA cN cD cT))) Q E (S σ h t):=by
 with_unfolding_all refine x_cons ?_
 kd_p;with_reducible rename zV=>ln
 refine c_cell W.p1 dN (fun h' oN' W' dN'=>?_) (by wtm_at "u") (by wtm_at "u") (by wtm_at "u");wtm_at "w";with_reducible refine x_next ?_
 with_reducible refine x_cons ?_
 kd_p;refine kla_eval (by rfl) ?_;refine m_lamO Z C W.p2 ht hnf (by rfl) fun j oj c' oc ps' pm ctv h' t' hoj hps W' hq=>?_;wtm_at "w";kd_p;have tl:∀ p∈own,p∈((j,oj)::(c',oc)::(338,tabObj ps')::(cN,oN')::own):=fun p hp=>.tail _ (.tail _ (.tail _ (.tail _ hp)))
 refine made_spec (K:=K.sub (InT n)) (odd:=odd) (ys:=ys) (rest:=(j,oj)::(c',oc)::(338,tabObj ps')::(cN,oN')::own) (kdf_sub KF) l1' Z W.p4 (by lia) (by lia) (by lia) (fun H _ hr=>⟨⟨n2,hr _ (tl _ hlo)⟩,ky H fun p hp=>hr p (tl p hp),?_⟩) (fun x dx h' t' news' hm W'=>?_) (fun h' t' W' hno=>?_)
 · have h1:=hr _ (.head _);subst hoj;with_unfolding_all exact judge2 h1 (hr _ (.tail _ (.head _))) hq (hr _ (.tail _ (.tail _ (.tail _ (.head _))))) dN' (hr _ (tl _ hcD)) dD (hr _ (tl _ hcT)) dT (hr _ (tl _ hlT)) (kt H fun p hp=>hr p (tl p hp)) T hn
 · obtain ⟨od,jo,ep,bd,bj,bp,rows,n',jk,rfl,ok,ms⟩:=made_ms (own:=own) (x:=x) (xs:=xs) hm (by lia) (by lia) fun H hr=>⟨⟨n1,hr _ hlt⟩,⟨n2,hr _ hlo⟩,kx H hr,ky H hr⟩;wtm_at "w";k_go;with_reducible refine x_next ?_
   refine k _ _ _ _ oN' ln dN' ?_ ?_ (.inr ⟨x,dx,od,jo,ep,bd,bj,j,bp,rows,n',_,rfl,rfl,ok,?_,⟨ps',?_⟩,?_,ms g _ ?_ ?_ ?_⟩) W
   · first|wtm_at "m"|simp
   · intro p hp;first|wtm_at "m"|simp [hp]
   · first|wtm_at "m"|simp
   · first|wtm_at "m"|simp
   · intro p hp;first|wtm_at "m"|simp [hp]
   · intro p hp;first|wtm_at "m"|simp [hp]
   · first|wtm_at "m"|simp
   · intro p hp;first|wtm_at "m"|simp [hp]
 · wtm_at "w";k_go;with_reducible refine x_next ?_
   refine k _ _ _ _ oN' ln dN' ?_ ?_ (.inl ⟨rfl,hno,⟨0,?_⟩,⟨ps',?_⟩⟩) W
   · first|wtm_at "m"|simp
   · intro p hp;first|wtm_at "m"|simp [hp]
   · first|wtm_at "m"|simp
   · first|wtm_at "m"|simp
end
end
section
open PyProof.Rows.LCg PyProof.Rows.LCt
def FirV {w:zT}(K:Kd w) (ys:List El2) (v:zY) (led:Led):Prop:=
 (v= .none∧∃ y∈ys,¬ K.ok y.2)∨(∃ a n,v= .ref a∧(a,lob ((firsts ys).map (·.1)) n)∈led∧∀ y∈ys,K.ok y.2)
theorem FirV.more {w:zT}{K:Kd w}{ys v led led'} (x:FirV K ys v led) (s:∀ p∈led,p∈led'):FirV K ys v led':=by
 rcases x with x|⟨a,n,e,hm,ok⟩
 · exact .inl x
 · exact .inr ⟨a,n,e,s _ hm,ok⟩
theorem FirV.none {w:zT}{K:Kd w}{ys v led} (x:FirV K ys v led):(v== .none)=true↔∃ y∈ys,¬ K.ok y.2:=by
 rcases x with ⟨rfl,x⟩|⟨a,n,rfl,hm,ok⟩
 · exact ⟨fun _=>x,fun _=>rfl⟩
 · exact ⟨fun q=>(by cases q),fun ⟨y,hy,n⟩=>absurd (ok y hy) n⟩
section
variable {w:zT}{A:zU}{E:VP}{σ:zX}{g h:Heap}{t:Nat}{L f:zV}{m:NM}{own led:Led}
theorem firsts_any {K:Kd w}{src:zV}{ys:List El2}{Q:VP}
 (KF:KdF K) (l1:L1 A) (Z:Site w A L g) (W:Wk g L h m led) (room:A.depth+2<zS) (ru:A.units+130<cLine) (hz:ys.length≤100) (hl:Ls h src (ys.map (·.1))) (hx:AsK K h ys)
 (k:∀ v h' t' own,FirV K ys v own→Wk g L h' m (own++led)→Q v (S σ h' t')):zZ (zW PW w) A (call (.ref 329) [.ref src]) Q E (S σ h t):=
 firstsL_spec KF l1 Z W room ru hz hl hx (fun a n h' t' own W' ok=>k _ h' t' ((a,lob ((firsts ys).map (·.1)) n)::own) (.inr ⟨a,n,rfl,.head _,ok⟩) (by simpa using W')) fun h' t' W' hno=>k _ h' t' [] (.inl ⟨rfl,hno⟩) W'
end
theorem FirV.max {w:zT}{K:Kd w}{ys v led} {ss:List Int}{M:Int}(x:FirV K ys v led) (e:(∃ y∈ys,¬ K.ok y.2)↔∃ n∈ss,9<n) (hM:M∈ss) (hle:∀ a∈ss,a≤M):((v== .none) !=decide (9<M))=false:=by
 have q:(v== .none)=decide (9<M):=by
  rw [Bool.eq_iff_iff,x.none,e,decide_eq_true_iff];exact ⟨fun ⟨n,hn,a⟩=>Int.lt_of_lt_of_le a (hle n hn),fun a=>⟨M,hM,a⟩⟩
 rw [q];simp
section
variable {w:zT}{A:zU}{E:VP}{σ:zX}{g h:Heap}{t:Nat}{L f:zV}{m:NM}{own led:Led}{Q:FP}
variable {cW cK cO cA cN cD cT:zV}{oW oK oO oA oN oD oT:Obj}
theorem segJ2 {K:Kd w}{xs ys:List El2}{lt lo lf ls:zV}{n1 n2 nf nS:Nat}{vf vs:List zY}{fs ss:List Int}(KF:KdF K) (Z:Site w A L g) (l1':L1 A) (room:A.depth+200<zS) (ru:A.units+300<cLine) (z1:xs.length≤50) (z2:ys.length≤50)
 (kx:On own fun H=>AsK K H xs) (ky:On own fun H=>AsK K H ys) (if':IntsL vf fs) (is':IntsL vs ss) (zf:0<fs.length) (zs:0<ss.length) (hfx:(∃ x∈xs,¬ K.ok x.2)↔∃ n∈fs,9<n) (hsy:(∃ y∈ys,¬ K.ok y.2)↔∃ n∈ss,9<n)
 (W:Wk g L h m led) (hs:∀ p∈own,p∈led) (hlt:(lt,lob (xs.map (·.1)) n1)∈own) (hlo:(lo,lob (ys.map (·.1)) n2)∈own) (hlf:(lf,lob vf nf)∈own) (hls:(ls,lob vs nS)∈own)
 (e1:m (sN "things")=some (.ref lt)) (e2:m (sN "others")=some (.ref lo)) (e3:m (sN "first")=some (.ref lf)) (e4:m (sN "second")=some (.ref ls))
 (k:∀ h' t' v1 v2 o2,FirV K xs v1 o2→FirV K ys v2 o2→Wk g L h' (setm (setm m (sN "theirs") v2) (sN "mine") v1) (o2++led)→zZ (zW PW w) A (execs (lawS 22) (lenv L f (CL cW cK cO cA cN cD cT))) Q E (S σ h' t')):
 zZ (zW PW w) A (execs (lawS 20) (lenv L f (CL cW cK cO cA cN cD cT))) Q E (S σ h t):=by
 with_unfolding_all refine x_cons ?_
 with_reducible refine x_swap2 ?_ Z (by wtm_at "u") (by wtm_at "u") (by wtm_at "u") (by wtm_at "u") (by wtm_at "u")
 kd_p;refine firsts_any KF l1' Z W (by lia) (by lia) (by lia) (W.ls (hs _ hlt)) (kx.at W hs) fun v1 h' t' o1 f1 W'=>?_;wtm_at "w";kd_p;refine firsts_any KF l1' Z W (by lia) (by lia) (by lia) (W.ls (l_r _ (hs _ hlo))) (ky.at W fun p hp=>l_r _ (hs _ hp)) fun v2 h' t' o2 f2 W'=>?_;wtm_at "w";kd_p;refine sw2_mk W fun h' t' W'=>?_;wtm_at "w";have tl:∀ p∈own,p∈(o2++(o1++led)):=fun p hp=>l_r _ (l_r _ (hs _ hp))
 kd_p;refine is_none_gen ?_;kd_p;refine b_max W Z.hh (W.ls (tl _ hlf)) if' zf fun h' t' M tk W' hM hle=>?_;wtm_at "w";kd_p;refine o_neb ?_;rw [f1.max hfx hM hle];kd_p;refine is_none_gen ?_;kd_p;refine b_max W Z.hh (W.ls (tl _ hls)) is' zs fun h' t' M tk W' hM hle=>?_;wtm_at "w";kd_p;refine o_neb ?_;rw [f2.max hsy hM hle];iterate 4 k_go
 rw [← List.append_assoc] at W;with_unfolding_all exact k _ _ v1 v2 (o2++o1) (f1.more fun p hp=>l_r _ hp) (f2.more fun p hp=>l_l _ hp) W
end
end
section
open PyProof.Rows.LCg PyProof.Rows.LCt
theorem MsL.more {w:zT}{K:Kd w}{x dx one two bd bj:zV}{od jo:Obj}{ep:Nat}{j bp:zV}{odd:Int}{xs ys:List El2}{rows:List Rw}{h₀:Heap}{rest rest':Led}(M:MsL w K x dx one two bd bj od jo ep j bp odd xs ys rows h₀ rest) (s:∀ p∈rest,p∈rest'):MsL w K x dx one two bd bj od jo ep j bp odd xs ys rows h₀ rest':=
 ⟨M.1,fun H k hr=>M.2 H k fun p hp=>hr p (s p hp)⟩
section
variable {w:zT}{A:zU}{E:VP}{σ:zX}{g h:Heap}{t:Nat}{L f:zV}{m:NM}{own led:Led}{Q:FP}
variable {cW cK cO cA cN cD cT:zV}{oW oK oO oA oN oD oT:Obj}
theorem segK {K:Kd w}{xs ys:List El2}{lt lo ln ld:zV}{nd:Nat}{vd:List zY}{tups o2:Led}{odd:Int}{vM v1 v2:zY}(KF:KdF K) (KE:KdE K) (Z:Site w A L g) (l1':L1 A) (room:A.depth+200<zS) (ru:A.units+300<cLine) (z1:xs.length≤50) (z2:ys.length≤50)
 (hel:On own fun H=>∀ y∈ys,K.ok y.2→∃ k,k<10∧El w H y.1 k) (f1:FirV K xs v1 o2) (f2:FirV K ys v2 o2) (M:MatV w K lt lo ln odd xs ys g own vM led)
 (W:Wk g L h m (o2++led)) (hs:∀ p∈own,p∈led) (hcN:(cN,oN)∈led) (dN:oN.data= .cell (some (.ref ln))) (hld:(ld,lob vd nd)∈own) (htu:∀ p∈tups,p∈own) (tr:TrN tups vd (dueP odd (xs.map (·.2)) (ys.map (·.2))))
 (e1:m (sN "mine")=some v1) (e2:m (sN "theirs")=some v2) (e3:m (sN "matcher")=some vM) (e4:m (sN "due")=some (.ref ld))
 (k:∀ h' t' m' led' ps,(338,tabObj ps)∈led'→Wk g L h' m' led'→Q (.ret (.bool true)) (S σ h' t')):
 zZ (zW PW w) A (execs (lawS 22) (lenv L f (CL cW cK cO cA cN cD cT))) Q E (S σ h t):=by
 rcases f2 with ⟨rfl,hno⟩|⟨a2,n2,rfl,hm2,ok2⟩
 · rcases M with ⟨rfl,-,⟨n0,hn0⟩,ps,hps⟩|⟨x,dx,od,jo,ep,bd,bj,j,bp,rows,n,rest,-,-,ok,-⟩
   · with_unfolding_all refine x_cons ?_
     kd_p;with_reducible refine is_none_none ?_
     kd_p;with_reducible refine is_none_none ?_
     kd_p;refine o_eqS (W.ls (.tail _ (l_r _ hn0))) (W.ls (.head _)) (by lia) rfl (fun j x y hx=>by simp at hx) ?_;kd_p;exact k _ _ _ _ ps (.tail _ (l_r _ hps)) W
   · exact absurd hno (fun ⟨y,hy,q⟩=>q (ok y hy))
 · rcases M with ⟨rfl,⟨y,hy,q⟩,-⟩|⟨x,dx,od,jo,ep,bd,bj,j,bp,rows,n,rest,rfl,rfl,ok,hln,⟨ps,hps⟩,hor,M⟩
   · exact absurd (ok2 y hy) q
   · with_unfolding_all refine x_cons ?_
     kd_p;with_reducible refine is_ref_none ?_
     kd_p;with_reducible refine is_ref_none ?_
     kd_p;have hr:∀ p∈rest,p∈(o2++(dx,od)::rest):=fun p hp=>l_r _ (.tail _ hp)
     have hfl:=firsts_len ys [];change (firsts ys).length≤_ at hfl;rw [yA] at hfl;refine same_spec (vs:=(firsts ys).map (·.1)) Z W (by lia) (by lia) (W.ls (hr _ hln)) (W.ls (l_l _ hm2)) (by rw [zO];(revert z2 hfl;k_in)) (fun v hv=>?_) fun h' t' W'=>?_
     · obtain ⟨y,hy,rfl⟩:=zN.mp hv
       have hy':y∈ys:=by
        rcases firsts_sub _ _ hy with q|q
        · cases q
        · exact q
       exact hel.at W (fun p hp=>hr _ (hor _ hp)) y hy' (ok y hy')
     wtm_at "w";kd_p
     · exact absurd (show (!true)=true by assumption) (by decide)
     replace W:=W.perm (news':=(dx,od)::(o2++rest)) (by wtm_at "p");have hr2:∀ p∈rest,p∈o2++rest:=fun p hp=>l_r _ hp
     refine told_spec KF KE l1' Z W (by lia) (by lia) (M.more hr2) (by lia) (by lia) (fun h' t' D qs bs n' jk hbs hqs okx W'=>?_) (fun h' t' W' hno=>?_)
     · rcases f1 with ⟨rfl,y,hy,q⟩|⟨a1,n1,rfl,hm1,ok1⟩
       · exact absurd (okx y hy) q
       have hd:=gmb_due hbs;subst hd;have hpl:=hqs.len;rw [zO] at hpl;have htl:=tr.1;wtm_at "w";kd_p;with_reducible refine r_ife ?_
       kd_p;with_reducible refine is_ref_none ?_
       kd_p;have hin:∀ p∈own,p∈((D,lob (refs qs) n')::(qs++(jk++(o2++rest)))):=fun p hp=>.tail _ (l_r _ (l_r _ (hr2 _ (hor _ hp))))
       refine o_eqS (W.ls (.head _)) (W.ls (hin _ hld)) (by lia) (by unfold refs;rw [zO];(revert hpl htl;k_in)) (eq_rows (ps:=qs) (tups:=tups) (fun p hp=>W.get (.tail _ (l_l _ hp))) (fun p hp=>W.get (hin _ (htu p hp))) hqs tr (by rw [yN];lia)) ?_;kd_p;exact k _ _ _ _ ps (.tail _ (l_r _ (l_r _ (hr2 _ hps)))) W
     · rcases f1 with ⟨rfl,-⟩|⟨a1,n1,rfl,hm1,ok1⟩
       · wtm_at "w";kd_p;with_reducible refine r_ife ?_
         kd_p;with_reducible refine is_none_none ?_
         kd_p;with_reducible refine is_none_none ?_
         kd_p;exact k _ _ _ _ ps (.tail _ (hr2 _ hps)) W
       · exact absurd hno (fun ⟨y,hy,q⟩=>q (ok1 y hy))
end
end
section
open PyProof.Rows.LCg PyProof.Rows.LCt
theorem nums_len {ns:List Int}:(nums ns).length≤13:=by
 unfold nums;rw [zD,yP];simp only [yU,yA];k_in
theorem rowP_len {z wd:Int}{l:List Int}:(rowP z wd l).length≤l.length:=by
 unfold rowP;rw [zO];exact List.length_filter_le ..
theorem width_or (ns:List Int):widthP ns=10∨widthP ns=16:=by
 unfold widthP;split
 · exact .inl rfl
 · exact .inr rfl
theorem rowP_b {z wd:Int}{l:List Int}(h:wd=10∨wd=16):∀ n∈rowP z wd l,0≤n∧n<16:=by
 intro n hn;unfold rowP at hn;obtain ⟨a,-,rfl⟩:=zN.mp hn;rw [Int.fmod_eq_emod_of_nonneg _ (by revert h;k_in)];rcases h with rfl|rfl <;> exact ⟨Int.emod_nonneg _ (by decide),Int.lt_of_lt_of_le (Int.emod_lt_of_pos _ (by decide)) (by decide)⟩
theorem rowP_pos {z wd:Int}{ns:List Int}(h:(14:Int).fmod 3≠z):0<(rowP z wd (nums ns)).length:=by
 unfold rowP nums;rw [zO,List.cons_append,List.filter_cons_of_pos (by simpa using h)];simp
theorem EE_mem {num:Nat→Int}{vs:List zY}{ks:List Int}{y:El2}(h:y∈EE num vs ks):∃ (i:Nat) (n:Int),vs[i]? =some y.1∧ks[i]? =some n∧y.2=num n.toNat:=by
 obtain ⟨i,hi⟩:=yB.mp h;unfold EE at hi;rw [List.getElem?_zip_eq_some,zF] at hi;obtain ⟨a,b⟩:=hi;cases q:ks[i]? with
 |none=>rw [q] at b;cases b
 |some n=>rw [q] at b;exact ⟨i,n,a,q,(l_j b).symm⟩
section
variable {w:zT}{kk:List Int}{hn:∀ k l,k<16→l<16→(num kk k=num kk l↔kindN k=kindN l)}{vs:List zY}{ks:List Int}
theorem num_in {n:Int}(h:kinI n∈kk):InT kk.length (num kk n.toNat):=by
 have e:num kk n.toNat=(kk.idxOf (kinI n):Int):=by unfold num;exact if_pos h
 have:=idx_lt h;unfold InT
 (revert e this;k_in)
theorem ask_sub {H:Heap}(x:Els w H vs ks) (hm:∀ n∈ks,kinI n∈kk):AsK ((elKd w (num kk) hn).sub (InT kk.length)) H (EE (num kk) vs ks):=by
 intro y hy;refine ⟨x.ask y hy,?_⟩;obtain ⟨i,n,-,b,e⟩:=EE_mem hy;rw [e];exact num_in (hm n (l_m b))
theorem ok_iff {n:Int}(h:0≤n∧n<16):(elKd w (num kk) hn).ok (num kk n.toNat)↔¬ 9<n:=by
 constructor
 · rintro ⟨k,hk,e⟩ q;have:=kind_lt hk (l:=n.toNat) (by revert h q;k_in) ((hn _ _ (by lia) (by revert h q;k_in)).mp e)
   (revert h q this;k_in)
 · intro q;exact ⟨n.toNat,by revert q;k_in,rfl⟩
theorem ok_all (hl:vs.length=ks.length) (hb:∀ n∈ks,0≤n∧n<16):(∃ y∈EE (num kk) vs ks,¬ ((elKd w (num kk) hn).sub (InT kk.length)).ok y.2)↔∃ n∈ks,9<n:=by
 constructor
 · rintro ⟨y,hy,q⟩;obtain ⟨i,n,a,b,e⟩:=EE_mem hy;have hnk:=l_m b;refine ⟨n,hnk,Classical.byContradiction fun c=>q ?_⟩;rw [e];exact (ok_iff (hn:=hn) (w:=w) (hb n hnk)).mpr c
 · rintro ⟨n,hnk,q⟩;obtain ⟨i,hi⟩:=yB.mp hnk;have hlt:i<vs.length:=by rw [hl];exact (l_i.mp hi).1
   refine ⟨(vs[i],num kk n.toNat),?_,fun c=>(ok_iff (hn:=hn) (w:=w) (hb n hnk)).mp c q⟩;refine yB.mpr ⟨i,?_⟩;unfold EE;rw [List.getElem?_zip_eq_some,zF,hi];exact ⟨l_e hlt,rfl⟩
theorem el_small {H:Heap}(x:Els w H vs ks) (hb:∀ n∈ks,0≤n∧n<16):∀ y∈EE (num kk) vs ks,((elKd w (num kk) hn).sub (InT kk.length)).ok y.2→∃ k,k<10∧El w H y.1 k:=by
 intro y hy ok;obtain ⟨i,n,a,b,e⟩:=EE_mem hy;have hb':=hb n (l_m b);rw [e] at ok;have:=(ok_iff (hn:=hn) (w:=w) hb').mp ok;exact ⟨n.toNat,by revert this;k_in,x.2 i _ _ a b⟩
end
theorem ask_firsts {w:zT}{K:Kd w}{H:Heap}{xs:List El2}(x:AsK K H xs):AsK K H (firsts xs):=fun y hy=>by
 rcases firsts_sub _ _ hy with q|q
 · cases q
 · exact x y q
theorem tab_of {kk fs ss:List Int}{vt vo:List zY}(hkk:kk=dd ((fs++ss).map kinI)) (hb:∀ n∈fs++ss,0≤n∧n<16) (h1:vt.length=fs.length) (h2:vo.length=ss.length):Tab kk.length (firsts (EE (num kk) vt fs++EE (num kk) vo ss)):=by
 unfold Tab;rw [firsts_num,zK,EE_snd h1,EE_snd h2,← zK];exact num_range hkk hb
end
section
open PyProof.Rows.LCg PyProof.Rows.LCt
section
variable {w:zT}{A:zU}{E:VP}{σ:zX}{g h:Heap}{t:Nat}{L f:zV}{m:NM}{Q:FP}
variable {cW cK cO cA cN cD cT:zV}{oW oK oO oA oN oD oT:Obj}{ns:List Int}
theorem law_body {script:zV}{vs:List zY}(Z:Site w A L g) (lone:L1 A) (C:CodeHd g 340 338) (room:A.depth+200<zS) (ru:A.units+300<cLine) (hl:Ls g script vs) (hi:IntsL vs ns) (hz:ns.length≤63)
 (W:Wk g L h m [(cW,oW),(cK,oK),(cO,oO),(cA,oA),(cN,oN),(cD,oD),(cT,oT),(338,tabObj #[])])
 (dW:oW.data= .cell none) (dK:oK.data= .cell none) (dO:oO.data= .cell none) (dA:oA.data= .cell none) (dN:oN.data= .cell none) (dD:oD.data= .cell none) (dT:oT.data= .cell none) (e1:m (sN "script")=some (.ref script))
 (k:∀ h' t' m' led' ps,(338,tabObj ps)∈led'→Wk g L h' m' led'→Q (.ret (.bool true)) (S σ h' t')):
 zZ (zW PW w) A (execs (lawS 0) (lenv L f (CL cW cK cO cA cN cD cT))) Q E (S σ h t):=by
 have hnl:=nums_len (ns:=ns);have hwd:=width_or ns;with_reducible refine segA Z ru hl hi hz W dW e1 fun h t m na vn nn tt tw oW' iN dW e1 e2 W'=>?_
 replace W:=W';clear W' hi hl;with_reducible refine segB1 Z ru iN (by lia) hwd W dW e1 fun h t lf vf nf iF W'=>?_
 wtm_at "w";with_reducible refine segB2 Z ru iN (by lia) hwd (W.perm (news':=(na,lob vn nn)::(cW,oW')::(lf,lob vf nf)::[(cK,oK),(cO,oO),(cA,oA),(cN,oN),(cD,oD),(cT,oT),(338,tabObj #[])]) (by wtm_at "p")) dW (by k_is) fun h t ls vs nS iS W'=>?_
 wtm_at "w";have hf13:=rowP_len (z:=1) (wd:=widthP ns) (l:=nums ns);have hs13:=rowP_len (z:=0) (wd:=widthP ns) (l:=nums ns);have hbf:=rowP_b (z:=1) (l:=nums ns) hwd;have hbs:=rowP_b (z:=0) (l:=nums ns) hwd;have hpf:=rowP_pos (z:=1) (wd:=widthP ns) (ns:=ns) (by decide);have hps:=rowP_pos (z:=0) (wd:=widthP ns) (ns:=ns) (by decide);generalize rowP 1 (widthP ns) (nums ns)=fs at iF hf13 hbf hpf;generalize rowP 0 (widthP ns) (nums ns)=ss at iS hs13 hbs hps;generalize (nums ns).sum=total at e2;replace W:=W.perm (news':=(lf,lob vf nf)::(ls,lob vs nS)::[(cK,oK),(cO,oO),(cA,oA),(cN,oN),(cD,oD),(cT,oT),(338,tabObj #[]),(na,lob vn nn),(cW,oW')]) (by wtm_at "p");with_reducible refine segC1 Z room ru iF (by lia) hbf W (by k_is) fun h t lt vt nt ow1 elt W'=>?_
 wtm_at "w";replace W:=W.perm (news':=(ls,lob vs nS)::(lt,lob vt nt)::(ow1++(lf,lob vf nf)::[(cK,oK),(cO,oO),(cA,oA),(cN,oN),(cD,oD),(cT,oT),(338,tabObj #[]),(na,lob vn nn),(cW,oW')])) (by wtm_at "p");with_reducible refine segC2 Z room ru iS (by lia) hbs W (by k_is) fun h t lo vo no ow2 elo W'=>?_
 wtm_at "w";replace W:=W.perm (news':=(cT,oT)::(cK,oK)::(cO,oO)::(cA,oA)::(cN,oN)::(cD,oD)::(338,tabObj #[])::((lo,lob vo no)::(lt,lob vt nt)::(ls,lob vs nS)::(lf,lob vf nf)::(ow1++(ow2++[(na,lob vn nn),(cW,oW')])))) (by wtm_at "p");obtain ⟨fr,hfr⟩:∃ fr,fr=(lo,lob vo no)::(lt,lob vt nt)::(ls,lob vs nS)::(lf,lob vf nf)::(ow1++(ow2++[(na,lob vn nn),(cW,oW')])):=⟨_,rfl⟩;rw [← hfr] at W;have m1:(lo,lob vo no)∈fr:=by rw [hfr];exact .head _
 have m2:(lt,lob vt nt)∈fr:=by rw [hfr];exact .tail _ (.head _)
 have m3:(ls,lob vs nS)∈fr:=by rw [hfr];exact .tail _ (.tail _ (.head _))
 have m4:(lf,lob vf nf)∈fr:=by rw [hfr];exact .tail _ (.tail _ (.tail _ (.head _)))
 have x1:On fr fun H=>Els w H vt fs:=elt.more fun p hp=>by rw [hfr];exact .tail _ (.tail _ (.tail _ (.tail _ (l_l _ hp))))
 have x2:On fr fun H=>Els w H vo ss:=elo.more fun p hp=>by rw [hfr];exact .tail _ (.tail _ (.tail _ (.tail _ (l_r _ (l_l _ hp)))))
 clear hfr elt elo;have ltf:=(x1.at W fun p hp=>by wtm_at "m").1;have los:=(x2.at W fun p hp=>by wtm_at "m").1
 have hb:∀ n∈fs++ss,0≤n∧n<16:=fun n hn=>by
  rcases zE.mp hn with q|q
  · exact hbf n q
  · exact hbs n q
 obtain ⟨kk,hkk⟩:∃ kk,kk=dd ((fs++ss).map kinI):=⟨_,rfl⟩;have hkz:=dd_len ((fs++ss).map kinI);rw [← hkk,zO,zD] at hkz;have hn:=num_iff (kk:=kk) (by revert hnl hf13 hs13 hkz;k_in);have hmf:∀ n∈fs,kinI n∈kk:=fun n q=>by rw [hkk];exact dd_mem.mpr (l_o (l_l _ q))
 have hms:∀ n∈ss,kinI n∈kk:=fun n q=>by rw [hkk];exact dd_mem.mpr (l_o (l_r _ q))
 have kx:On fr fun H=>AsK ((elKd w (num kk) hn).sub (InT kk.length)) H (EE (num kk) vt fs):=fun H q=>ask_sub (x1 H q) hmf
 have ky:On fr fun H=>AsK ((elKd w (num kk) hn).sub (InT kk.length)) H (EE (num kk) vo ss):=fun H q=>ask_sub (x2 H q) hms
 have T:=tab_of hkk hb ltf los;have hfx:=ok_all (w:=w) (kk:=kk) (hn:=hn) ltf hbf;have hsy:=ok_all (w:=w) (kk:=kk) (hn:=hn) los hbs;have hel:On fr fun H=>∀ y∈EE (num kk) vo ss,((elKd w (num kk) hn).sub (InT kk.length)).ok y.2→∃ k,k<10∧El w H y.1 k:=fun H q=>el_small (x2 H q) hbs
 have q1:=EE_fst (num:=num kk) ltf;have q2:=EE_fst (num:=num kk) los;have q3:=EE_snd (num:=num kk) ltf;have q4:=EE_snd (num:=num kk) los;have q5:=EE_len (num:=num kk) ltf;have q6:=EE_len (num:=num kk) los;rw [← q1] at m2;rw [← q2] at m1;clear x1 x2 hwd;have kdf:KdF ((elKd w (num kk) hn).sub (InT kk.length)):=kdf_sub kdf_el;have kde:KdE ((elKd w (num kk) hn).sub (InT kk.length)):=kde_sub kde_el;have hin:∀ y∈EE (num kk) vt fs,0≤y.2∧y.2<kk.length:=fun y hy=>(kx.at W (fun p hp=>by wtm_at "m") y hy).2
 have hin':∀ y∈EE (num kk) vo ss,0≤y.2∧y.2<kk.length:=fun y hy=>(ky.at W (fun p hp=>by wtm_at "m") y hy).2
 generalize EE (num kk) vt fs=xs at kx T hfx q1 q3 q5 m2 hin;generalize EE (num kk) vo ss=ys at ky T hsy hel q2 q4 q6 m1 hin';clear q1 q2 ltf los;with_reducible refine segD (K:=(elKd w (num kk) hn).sub (InT kk.length)) (xs:=xs) (ys:=ys) (own:=(cK,oK)::(cO,oO)::(cA,oA)::(cN,oN)::(cD,oD)::(338,tabObj #[])::fr) Z room ru (by lia) (by lia) W dT (by wtm_at "m") (by wtm_at "m") (kx.more fun p hp=>by wtm_at "m") (ky.more fun p hp=>by wtm_at "m") (by k_is) (by k_is) fun h t lT nT oT dT W'=>?_
 have kt:On fr fun H=>AsK ((elKd w (num kk) hn).sub (InT kk.length)) H (firsts (xs++ys)):=fun H q=>ask_firsts ((kx H q).app (ky H q))
 generalize firsts (xs++ys)=tb at T kt W';replace W:=W'.perm (news':=(cK,oK)::(cO,oO)::(cA,oA)::(cN,oN)::(cD,oD)::(338,tabObj #[])::(cT,oT)::(lT,lob (tb.map (·.1)) nT)::fr) (by wtm_at "p");clear W';with_reducible refine segE (own:=(cO,oO)::(cA,oA)::(cN,oN)::(cD,oD)::(338,tabObj #[])::(cT,oT)::(lT,lob (tb.map (·.1)) nT)::fr) Z room ru iF iS (by lia) (by lia) hb W dK (by wtm_at "m") (by wtm_at "m") (by k_is) (by k_is) fun h t mE lk vk nk oK hm dK ik W'=>?_
 have e3:mE (sN "things")=some (.ref lt):=(hm _ (by decide)).trans (by k_is);have e4:mE (sN "others")=some (.ref lo):=(hm _ (by decide)).trans (by k_is);have e5:mE (sN "first")=some (.ref lf):=(hm _ (by decide)).trans (by k_is);have e6:mE (sN "second")=some (.ref ls):=(hm _ (by decide)).trans (by k_is);have e7:mE (sN "total")=some (.int total tt):=(hm _ (by decide)).trans (by k_is);clear hm;rw [← hkk] at ik;replace W:=W'.perm (news':=(cO,oO)::(cA,oA)::(cN,oN)::(cD,oD)::(338,tabObj #[])::((lk,lob vk nk)::(cK,oK)::(cT,oT)::(lT,lob (tb.map (·.1)) nT)::fr)) (by wtm_at "p");clear W';obtain ⟨f1,hf1⟩:∃ f1,f1=(lk,lob vk nk)::(cK,oK)::(cT,oT)::(lT,lob (tb.map (·.1)) nT)::fr:=⟨_,rfl⟩;rw [← hf1] at W;have a1:(lk,lob vk nk)∈f1:=by rw [hf1];wtm_at "m"
 have a2:(cK,oK)∈f1:=by rw [hf1];wtm_at "m"
 have a3:(cT,oT)∈f1:=by rw [hf1];wtm_at "m"
 have a4:(lT,lob (tb.map (·.1)) nT)∈f1:=by rw [hf1];wtm_at "m"
 have sub:∀ p∈fr,p∈f1:=fun p hp=>by rw [hf1];wtm_at "m"
 replace m1:=sub _ m1;replace m2:=sub _ m2;replace m3:=sub _ m3;replace m4:=sub _ m4;replace kx:=kx.more sub;replace ky:=ky.more sub;replace kt:=kt.more sub;replace hel:=hel.more sub;clear sub hf1;with_reducible refine segF1 (K:=(elKd w (num kk) hn).sub (InT kk.length)) (xs:=xs) (tb:=tb) (own:=(cO,oO)::(cA,oA)::(cN,oN)::(cD,oD)::(338,tabObj #[])::f1) Z room ru (by lia) (by lia) T hin W (by wtm_at "m") dT (by wtm_at "m") (by wtm_at "m") (kx.more fun p hp=>by wtm_at "m") (kt.more fun p hp=>by wtm_at "m") e3 fun h t l1 v1 n1 i1 W'=>?_
 replace W:=W'.perm (news':=(cO,oO)::((l1,lob v1 n1)::(cA,oA)::(cN,oN)::(cD,oD)::(338,tabObj #[])::f1)) (by wtm_at "p");clear W';with_reducible refine segF2 (K:=(elKd w (num kk) hn).sub (InT kk.length)) (xs:=ys) (tb:=tb) (own:=(l1,lob v1 n1)::(cA,oA)::(cN,oN)::(cD,oD)::(338,tabObj #[])::f1) Z room ru (by lia) (by lia) T hin' W dO (by wtm_at "m") dT (by wtm_at "m") (by wtm_at "m") (ky.more fun p hp=>by wtm_at "m") (kt.more fun p hp=>by wtm_at "m") (by k_is) fun h t l2 v2 n2 oO dO i2 W'=>?_
 replace W:=W'.perm (news':=(cD,oD)::(cA,oA)::(cN,oN)::(338,tabObj #[])::((l2,lob v2 n2)::(cO,oO)::(l1,lob v1 n1)::f1)) (by wtm_at "p");clear W';obtain ⟨f2,hf2⟩:∃ f2,f2=(l2,lob v2 n2)::(cO,oO)::(l1,lob v1 n1)::f1:=⟨_,rfl⟩;rw [← hf2] at W;have a5:(l2,lob v2 n2)∈f2:=by rw [hf2];wtm_at "m"
 have a6:(cO,oO)∈f2:=by rw [hf2];wtm_at "m"
 have a7:(l1,lob v1 n1)∈f2:=by rw [hf2];wtm_at "m"
 have sub:∀ p∈f1,p∈f2:=fun p hp=>by rw [hf2];wtm_at "m"
 replace m1:=sub _ m1;replace m2:=sub _ m2;replace m3:=sub _ m3;replace m4:=sub _ m4;replace a1:=sub _ a1;replace a2:=sub _ a2;replace a3:=sub _ a3;replace a4:=sub _ a4;replace kx:=kx.more sub;replace ky:=ky.more sub;replace kt:=kt.more sub;replace hel:=hel.more sub;clear sub hf2;have i1':=i1;have i2':=i2;rw [q3] at i1';rw [q4] at i2';with_reducible refine segG (vT:=tb.map (·.1)) (own:=(cA,oA)::(cN,oN)::(338,tabObj #[])::f2) Z room ru (by lia) (by lia) hb hkk (by rw [zO,T.len]) ik i1' i2' iF iS W dD (by wtm_at "m") dT (by wtm_at "m") dK (by wtm_at "m") dO (by wtm_at "m") (by wtm_at "m") (by wtm_at "m") (by wtm_at "m") (by wtm_at "m") (by wtm_at "m") (by k_is) (by k_is) (by k_is) (by k_is) fun h t td oD dD W'=>?_
 replace W:=W'.perm (news':=(cA,oA)::((cD,oD)::(cN,oN)::(338,tabObj #[])::f2)) (by wtm_at "p");clear W';generalize (total.fdiv 2).fmod (kk.length+1)=odd at dD;with_reducible refine segH (ns:=xs.map (·.2)) (ks:=ys.map (·.2)) Z room ru (by rw [zO];lia) (by rw [zO];lia) i1 i2 W dA (by wtm_at "m") dO (by wtm_at "m") dD (by wtm_at "m") (by wtm_at "m") (by k_is) fun h t ld vd nd tups la oA tr dA W'=>?_
 replace W:=W'.perm (news':=(la,lob [] 0)::(338,tabObj #[])::(cN,oN)::((cA,oA)::(ld,lob vd nd)::(cD,oD)::(tups++f2))) (by wtm_at "p");clear W';obtain ⟨f3,hf3⟩:∃ f3,f3=(cA,oA)::(ld,lob vd nd)::(cD,oD)::(tups++f2):=⟨_,rfl⟩;rw [← hf3] at W;have b1:(cA,oA)∈f3:=by rw [hf3];wtm_at "m"
 have b2:(ld,lob vd nd)∈f3:=by rw [hf3];wtm_at "m"
 have b3:(cD,oD)∈f3:=by rw [hf3];wtm_at "m"
 have b4:∀ p∈tups,p∈f3:=fun p hp=>by rw [hf3];wtm_at "m"
 have sub:∀ p∈f2,p∈f3:=fun p hp=>by rw [hf3];wtm_at "m"
 replace m1:=sub _ m1;replace m2:=sub _ m2;replace m3:=sub _ m3;replace m4:=sub _ m4;replace a3:=sub _ a3;replace a4:=sub _ a4;replace a5:=sub _ a5;replace a6:=sub _ a6;replace a7:=sub _ a7;replace kx:=kx.more sub;replace ky:=ky.more sub;replace kt:=kt.more sub;replace hel:=hel.more sub;clear sub hf3;with_reducible refine segI1 (ns:=xs.map (·.2)) (ks:=ys.map (·.2)) (own:=(cN,oN)::f3) Z C room ru (by rw [zO];lia) (by rw [zO];lia) i1 i2 W (by wtm_at "m") dA (by wtm_at "m") dO (by wtm_at "m") dD (by wtm_at "m") (by wtm_at "m") (by k_is) fun h t x dx od jo ep bd bj bp rows n j ps jk M htr hnf W'=>?_
 wtm_at "w";have T1:(cA,oA)∈jk++(cN,oN)::f3:=by wtm_at "m"
 have T2:(cO,oO)∈jk++(cN,oN)::f3:=by wtm_at "m"
 have T3:(l2,lob v2 n2)∈jk++(cN,oN)::f3:=by wtm_at "m"
 have T4:(ld,lob vd nd)∈jk++(cN,oN)::f3:=by wtm_at "m"
 have st:=segI2 (Q:=Q) (E:=E) (σ:=σ) (f:=f) (t:=t) (cW:=cW) (cK:=cK) (cN:=cN) (cD:=cD) (cT:=cT) (ns:=xs.map (·.2)) (ks:=ys.map (·.2)) (own:=jk++(cN,oN)::f3) (tups:=tups) Z lone room ru (by rw [zO];(revert hnl hf13 q5;k_in)) (by rw [zO];(revert hnl hs13 q6;k_in)) i1 i2 M W T1 dA T2 dO T3 T4 (fun p hp=>l_r _ (.tail _ (b4 p hp)));refine st tr (by k_is) (by k_is) fun h t W'=>?_;clear T1 T2 T3 T4 st;replace W:=W'.perm (news':=(cN,oN)::(338,tabObj ps)::(jk++f3)) (by wtm_at "p");clear W' M;have sub:∀ p∈f3,p∈jk++f3:=fun p hp=>l_r _ hp
 have kt':On (jk++f3) fun H=>AsK (elKd w (num kk) hn) H tb:=fun H q y hy=>((kt.more sub) H q y hy).1
 with_reducible refine segJ1 (K:=elKd w (num kk) hn) (n:=kk.length) (xs:=xs) (ys:=ys) (tb:=tb) (own:=jk++f3) kdf_el Z lone C room ru (by lia) (by lia) T (by lia) (kx.more sub) (ky.more sub) kt' htr hnf W dN (by wtm_at "m") dT (by wtm_at "m") dD (by wtm_at "m") (by wtm_at "m") (by wtm_at "m") (by k_is) (by k_is) fun h t vM led oN ln dN cNi hsb M W'=>?_
 wtm_at "w";have sub':∀ p∈f3,p∈led:=fun p hp=>hsb p (sub p hp)
 with_reducible refine segJ2 (K:=(elKd w (num kk) hn).sub (InT kk.length)) (own:=f3) kdf Z lone room ru (by lia) (by lia) kx ky iF iS hpf hps hfx hsy W sub' m2 m1 m4 m3 (by k_is) (by k_is) (by k_is) (by k_is) fun h t v1 v2 o2 g1 g2 W'=>?_
 wtm_at "w";have st:=segK (Q:=Q) (E:=E) (σ:=σ) (f:=f) (t:=t) (cW:=cW) (cK:=cK) (cO:=cO) (cA:=cA) (cD:=cD) (cT:=cT) (K:=(elKd w (num kk) hn).sub (InT kk.length)) (own:=jk++f3) (tups:=tups) kdf kde Z lone room ru (by revert hnl hf13 q5;k_in) (by revert hnl hs13 q6;k_in) (hel.more sub) g1 g2 M W hsb cNi dN (sub _ b2) (fun p hp=>sub _ (b4 p hp));exact st tr (by k_is) (by k_is) (by k_is) (by k_is) k
end
end
theorem dsc {a b:Nat}{l:List Nat}(h:b<a) (k:(b::l).Pairwise (· > ·)):(a::b::l).Pairwise (· > ·):=
 .cons (fun _ hc=>(zL.mp hc).elim (fun e=>e ▸ h) fun e=>Nat.lt_trans (List.rel_of_pairwise_cons k e) h) k
theorem nd8 {L:Nat}(h:338<L):([L+1+1+1+1+1+1+1,L+1+1+1+1+1+1,L+1+1+1+1+1,L+1+1+1+1,L+1+1+1,L+1+1,L+1,338]:List Nat).Nodup:=by
 refine List.Pairwise.imp (R:=(· > ·)) Nat.ne_of_gt ?_;iterate 6 refine dsc (Nat.lt_succ_self _) ?_
 exact dsc (Nat.lt_succ_of_lt h) (List.pairwise_singleton ..)
theorem Wk.rev8 {g h:Heap}{L:zV}{m} {a b c d e f i p:zV×Obj}(W:Wk g L h m [a,b,c,d,e,f,i,p]):Wk g L h m [i,f,e,d,c,b,a,p]:=W.perm (by wtm_at "p")
theorem walk:WalkP:=by
 intro w s₀ s₁ mg mb G Y fa o pm cd doc dV kV ho hd hcd hD hmg hg args vals as hpre hlay hrd hwl hlo;have KX:(KF PW w.params).In s₁.heap:=Y.1;have hT8:s₁.heap.get? 338=some (tabObj #[]):=Y.2 338 (.head _);have X:=(Ground.X G).1;have V:=(Ground.X G).2;refine Ground.open G ?_;intro T B D TE TW
 try (refine guard_noD D (by decide+kernel) ?_;clear D)
 have hT9:TabsAt [(340,338)] s₁.heap:=List.forall_mem_cons.mpr ⟨⟨codeHd_of_K (c:=340) (P:=338) KX (by k_ne),hT8⟩,fun _ h=>nomatch h⟩;have he9:cd=PySem.Value.ref 340:=law_code (x:=PySem.Str.ofString "law") (c:=340) (P:=338) KX (Top.g T) (by k_ne) hmg ho hd;subst he9;clear hmg
 wrow_args hpre hlay hrd hwl hlo
 all_goals (
  first|refine callC_kw (enter_call ?_)|refine enter_call ?_
  w_top on)
 refine kn_post hT9 (fun _ _=>rfl) ?_
 w_call any ho hd hcd hD T F
 rename_i xs hs hlay0 hLy hrr hl2 as1 as2 sc vs as3 hL ra w1 r0 hI hr' hc hc' h₁ tk₁ c6 c5 c4 c3 c2 c1 c0 d6 d5 d4 d3 d2 d1 d0 N0 X0;have F':=ghost_fr hT9 F;have N':=ghost_news hT9 F N0;have T':=ghost_top hT9 T;have X':=ghost_K hT9 KX (by kernel_rfl!);have C':=(ghost_code hT9).1;have B':=ghost_below hT9;have L':=ghost_list hT9 hL;have hlt:(338:Nat)<s₁.heap.objs.size:=zB hT8;replace d0:c0.data= .cell none:=d0.trans (by kernel_rfl!);replace d1:c1.data= .cell none:=d1.trans (by kernel_rfl!);replace d2:c2.data= .cell none:=d2.trans (by kernel_rfl!);replace d3:c3.data= .cell none:=d3.trans (by kernel_rfl!);replace d4:c4.data= .cell none:=d4.trans (by kernel_rfl!);replace d5:c5.data= .cell none:=d5.trans (by kernel_rfl!);replace d6:c6.data= .cell none:=d6.trans (by kernel_rfl!);obtain ⟨m0,F0,e0⟩:∃ m0,Fr (ghostOf s₁.heap [(340,338)]) s₁.heap.objs.size h₁ m0∧m0 (sN "script")=some (.ref sc):=⟨_,F',by kernel_rfl!⟩;clear F F' X0;have W:Wk (ghostOf s₁.heap [(340,338)]) s₁.heap.objs.size h₁ m0 [(s₁.heap.objs.size+1+1+1+1+1+1+1,c6),(s₁.heap.objs.size+1+1+1+1+1+1,c5),(s₁.heap.objs.size+1+1+1+1+1,c4),(s₁.heap.objs.size+1+1+1+1,c3),(s₁.heap.objs.size+1+1+1,c2),(s₁.heap.objs.size+1+1,c1),(s₁.heap.objs.size+1,c0),(338,tabObj #[])]:=⟨F0,N',nd8 hlt⟩
 have Z:Site w (callerA.deeper (lenv s₁.heap.objs.size fa (CL (s₁.heap.objs.size+1) (s₁.heap.objs.size+1+1) (s₁.heap.objs.size+1+1+1) (s₁.heap.objs.size+1+1+1+1) (s₁.heap.objs.size+1+1+1+1+1) (s₁.heap.objs.size+1+1+1+1+1+1) (s₁.heap.objs.size+1+1+1+1+1+1+1)))) s₁.heap.objs.size (ghostOf s₁.heap [(340,338)]):=
  ⟨⟨callerA,ghostOf s₁.heap [(340,338)],[],_,B',rfl,rfl,by kernel_rfl!⟩,X',⟨_,_,_,_,_,T'⟩,rfl⟩
 have hbody:=law_body (E:=fun _ _=>False) (σ:=s₁) (t:=tk₁) (f:=fa) (Q:=fun fl s'=>∃ h' t' m' led' ps,fl= .ret (.bool true)∧s'=S s₁ h' t'∧(338,tabObj ps)∈led'∧Wk (ghostOf s₁.heap [(340,338)]) s₁.heap.objs.size h' m' led')
  Z ⟨_,rfl⟩ C' (show callerA.depth+1+200<zS by decide) (show callerA.units+3+300<cLine by decide) L' (IntsL.of hI) (by revert hc;k_in) W.rev8 d0 d1 d2 d3 d4 d5 d6 e0 fun h' t' m' led' ps hp W'=>⟨h',t',m',led',ps,rfl,rfl,hp,W'⟩
 refine w_m hbody ?_ fun e s' hf=>hf.elim
 rintro fl s' ⟨h',t',m',led',ps,rfl,rfl,hp,W'⟩;refine ⟨⟨.inl ⟨.bool true,.bool true,[],rfl,fun _=>rfl,.bool true,?_,fun _=>⟨List.nodup_nil,fun a ha=>nomatch ha⟩⟩,W'.kp,rfl,hg⟩,⟨ps,W'.get hp⟩,trivial⟩
 kernel_rfl!
theorem holds:PySem.Challenge.rw_ik0095_01.Holds:=head walk
end
end Mine
theorem PySem.Challenge.cw_ik0095_01_holds : PySem.Challenge.rw_ik0095_01.Holds :=
  Mine.holds
