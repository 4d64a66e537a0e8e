import PyProof.Rows.All
import Wide.All
import OpenK.AllK
import Wide.FinOn
import Open.Tops
import Lean
import PySem.Challenge.RW_to0089_01
open PySem PySem.W PyProof.Rows PySem.Calls
set_option Elab.async false
set_option linter.unusedVariables false
set_option linter.all false
set_option rowWalk.seconds 0
set_option compiler.extract_closed false
set_option maxRecDepth 100000
set_option maxHeartbeats 4000000
set_option genSizeOf false
set_option genInjectivity false
namespace Mine.Internal
open Lean in
def dz (q : Name) (n : Nat) (K : Array String) (A : Array Syntax) : Nat → List Syntax → String → List Syntax
 | 0, st, _ => st
 | f + 1, st, s => (s.splitOn " ").foldl (fun st t =>
  let c := t.front
  let r := (t.drop 1).toString
  if c == '\'' then mkAtom r :: st
  else if c == '.' then mkIdent r.toName :: st
  else if c == ',' then mkIdent (addMacroScope q r.toName n) :: st
  else if c == '!' then mkIdent (`Mine.Internal ++ r.toName) :: st
  else if c == '@' then A[r.toNat!]! :: st
  else if c == '$' then mkNode `Lean.Parser.Tactic.fail #[mkAtom "fail", mkNullNode #[Syntax.mkStrLit r]] :: st
  else if r.isEmpty then dz q n K A f st K[c.toNat - 35]!
  else mkNode K[c.toNat - 35]!.toName (st.take r.toNat!).reverse.toArray :: st.drop r.toNat!) st
open Lean in
def dy (k : String) (A : Array Syntax) : MacroM Syntax := do
 match "
g0
č Ù .PySem.execs Ù Ï ':: Ï ¨3 Ú İ
g1
ō Š İ
g2
č Ÿ Ï Š ñ #5 *2 Đ
g3
č Ù .PySem.eval Ŏ ,ListComp ſ š
g4
č đ Ï Ù .PySem.Expr.Slice Õ .Option.none Ï ŏ Ú Š Š ŏ Đ
g5
č Ě Ŏ ,For ſ š
g6
č đ Õ Š ŵ Ù '- '1 Y1 ©2 Ú Ï é Ú ŏ Đ
g7
č Ÿ Ï Ù .Prod.fst ħ ñ #5 *2 Đ
g8
ō ã '120 Y1 š
g9
ō ã '97 Y1 š
g10
ō ã '133 Y1 š
g11
ō ã '333 Y1 š
g12
č Ě Ŏ ,Assign T2 Ï Ŏ ,ListComp ſ û į Ţ Ú İ
g13
ō Ő ħ Ŷ ő #1 '] d3 ğ
g14
ō Š '[ ŷ é #1 '] d3 ğ
g15
č đ Õ Š ŵ Õ é Ú ŏ Đ
g16
č Ě Ŏ ,For T2 Ŏ ,Name ſ û Ŏ ,Call ſ û į Ţ Ú İ
g17
č Ě Ŏ ,While ſ š
g19
ľ 'fun Ï #1 Ź ý Z4 [2 C2 Ŀ
g20
'repeat' Ĩ Ô !MapEnd į Þ Č à ì ţ Ó Ć $k1 ĕ Í _2
my.lo
á Ü ß $my.lo1 ĕ
my.pk
ą !c0 ó !c1 ó !c2 ŀ $my.pk1 Ñ #4 B2
my.cj
á è !cw '? ,hw â ,hv ƀ ,hw Ɓ Ĉ ,hv ò $my.pk ĳ ß $my.cj1 ĕ
my.lt
á Ü ß $my.lt1 ĕ
my.ar
'with_reducible $my.ax í
w0
á $my.ar ß 'lia ô ª2 ß 'omega '( ,config ':= '{ '} «2 '{ Ă ¬1 #0 ®1 #0 '} ¯6 °2 ') ±5 i1 #1 D1 V2 Ƃ
w1
è !ne_all '? ,na â ,nb â ,nc -2 Ţ Ĝ ,na Ɓ Ĉ ,nb ò Ķ ,q ,hq #2 P2 Ł ê Ĉ ,nc ò ü 'try ť à ą .Nat.le_refl ő ŀ Ü ß ì .Nat.le_of_lt ĩ '; $my.lo ƃ 'repeat' 'refine .Nat.le_succ_of_le ĩ Í _2 œ .Nat.le_refl ő =2 ê Ñ #4 B2 ê Ė ĺ
my.en
'( Ø .kA Ī .kF æ ź Ļ =2 Ĉ .kK ò ą .rfl ŀ Ü ĕ Ĉ .k1 Ī .k2 Ī .k3 Ī .k4 Ī .k5 æ #9 '=> 'k_asm e1 Ĉ .k6 Ī .k7 æ ź 'k_is j1 Ĉ .k8 ò á 'ktr_room ²1 ß 'k_room ³1 ĕ Ĉ .k9 ò ą .PySem.BindsTo.of_eq .rfl Ŧ .PySem.W.binds_K ŧ 'by 'k_in k1 ā .rfl ŧ 'by 'k_is j1 ā .rfl .rfl .rfl ć ó .PySem.W.kp_binds ŧ 'by 'k_in k1 ā ŧ 'fun Ï #1 Ź .rfl Z4 [2 Ú é ð Ť Ė #11 Ý
my.e1
è .PySem.W.code_defC '? .k1 â .k2 â .k3 â .k4 â .k5 â .kA â .kF â .kK â .k6 â .k7 â .k8 â .k9 â .kB â .kD â '_ â .c2 â .c3 â .c4 -2 #18 *2 ė $my.en '; Ø .kB ò Ļ =2 Ĉ .kD ò 'decide '+ .kernel ´2 i1 #1 D1 M2 Ĉ .c2 Ī .c3 Ī .c4 æ #5 '=> Ļ =2 Ą 'k_whole l1 #11 Ý
my.e2
è .PySem.W.code_def '? .k1 â .k2 â .k3 â .k4 â .k5 â .kA â .kF â .kK â .k6 â .k7 â .k8 â .k9 â .kB â '_ â .c2 â .c3 â .c4 â .c5 -2 #18 *2 ė $my.en '; Ø .c5 ò 'decide ġ Ĉ .kB ò 'exact .PyProof.Rows.locs .rfl Þ =2 Ĉ .c2 Ī .c3 Ī .c4 æ #5 '=> Ļ =2 Ą 'k_whole l1 #11 Ý
my.enter
Ĩ $my.e2 Ŕ ,g' ,L' ,h' ,FG' ,F' ,N' ,B' ,X' ,T' #9 P2 '; ē ť Ũ 'k_lift ,B' m2 Ğ Ũ Ż Ğ Ó #9 Ý Ó ß ü $my.e1 Ŕ ,g' ,L' ,h' ,tk' ,cells' ,FG' ,F' ,N' ,Y' ,B' ,X' ,T' ,l1 #13 P2 '; '( 'have #0 n1 ,l0 o1 Ă ':= ,l1 p5 q1 r3 Ũ 'k_lt ,l1 s2 Ğ à 'k_cells ,Y' µ2 '; ē Ņ ĭ '[ Ă .List.cons_append Ū .List.nil_append Q3 #3 '] #3 'at ,N' #1 ¶1 ·2 #1 ]6 Ğ Ũ ť Ũ 'k_lift ,B' m2 Ğ Ũ Ż Ğ Ó #17 Ý Ó ĕ
w2
ü Ņ ĭ '[ Ă .List.size_toArray Ū .Array.size_push Ū .List.length_append Ū .List.length_cons Ū .List.length_nil Ū .PySem.sizeLine_eq Q3 #11 '] #3 #0 ]6 à ķ V2 ê
w3
ņ a1 '; $g13 '; 'k_dflt è .PySem.Calls.call_len_list '? ,hl â ,hz Į Ţ Ĝ ,hl ò 'is_list t1 Ĉ ,hz ò ķ V2 ĳ N2 ĝ
my.mem
ż Ü í ß ì .List.mem_cons_of_mem Ï ý é C2 Ł ê ĕ
my.news
á 'k_asm e1 Ñ Ö ö ū Ŧ ö ö ū û Ŧ ö ö ö ū û û Ŧ ö ö ö ö ū û û û Þ ð #5 B2
my.subs
á ì .List.forall_mem_cons.mpr '⟨ ý ', ý #3 '⟩ u3 Ġ '; '( 'focus 'k_mem v1 ŕ à $my.subs ĝ ß Ķ ,q ,hq #2 P2 Ł ê ĕ
k1
Ĩ ı č Ě Õ ğ Ĳ à Ż Ƅ 'k_unfold w1 '; ē ť Ó Ƅ 'k_end x1 '; 'wrow_close y1 Ć Ŗ ß '( ń '; Ŗ Ƅ 'leave1 z1 '; 'try ť Ć 'fail #0 {2 Ñ #7 B2
w4
'repeat' '( $k1 ÷ _2
my.lw
'repeat '( ż '( á 'refine .PySem.wpAny_pure Ŭ .PySem.wpAny_bind Ŭ .PySem.wpAny_holding Ŭ .PySem.wpAny_standAt Ŭ .PySem.wpAny_point Ŭ .PySem.wpAny_rule Ŭ .PySem.wpAny_letGo Ŭ .PySem.wpAny_mkInt' ĩ Ñ #8 B2 Ó í ß ü õ .PySem.wpAny_loadPart' Ƈ Ü Ɗ ƃ õ .PySem.wpAny_load' Ƈ Ü Ɗ ƃ ŋ Ƈ 'rfl |1 Ɗ ƃ Ō Ƈ 'rfl |1 Ɗ ƃ ŋ Ƈ Ņ Ă '[ '* }1 #1 '] #3 #0 ]6 Ɗ ƃ Ō Ƈ Ņ Ă '[ '* }1 #1 '] #3 #0 ]6 Ɗ Ć 'wp_delta ¸1 Ñ #8 B2 ÷ ¹2
mk.1
ü ŗ !mark1 J2 Õ ň #4 ŭ !mark1 J2 Õ ę #4 Ů ê
mk.a
'refine' ŧ '? .zk -2 ': !LK ő #1 ') ^5 Õ '? .zl â .zb â .zc -2 #5 *2 I2
mk.b
'( Ø .zb ò ü 'conv Ă '=> 'delta !mark24 !mark16 !mark8 !mark6 !mark4 !mark3 !mark2 !mark1 .id #9 º2 #1 ~1 ¡1 ¢5 à ì !lbd ŧ 'fun .hx #1 Ź ý Z4 [2 Ú Ġ œ .hx ŧ #0 ') £3 Þ =2 ĝ Ĉ .zc ò ü 'try '( 'conv Ă '=> 'zeta »1 #1 ~1 ¡1 ¢5 ÷ L2 œ !lbox ő =2 ê Ĉ .zk ò 'exact 'fun .m Ċ #5 Ź .m Z4 [2 =2 ĳ
w5
ü 'with_reducible 'refine' !lkr '? ,lka â ,lkb Œ I2 í à Ø ,lkb ò 'kernel_rfl! ¼1 Ĉ ,lka ò 'eq_refl ½1 ĳ
w6
ì ţ Ó
my.mems
Ķ ,e ,he #2 P2 '; '( 'have #0 n1 ,hq9 o1 Ă ':= Ù ĸ þ ': '∀ ,e <1 '∈ Ï ¾2 ', '∃ ,k <1 #1 #0 ¿2 À1 ', Ù ,e ', .PySem.W.listOf '#[ #0 '] Á3 ,k é #1 #3 ') £3 '∈ Ï Â3 Ã4 Ä5 #1 ') ^5 ,e ,he é p5 q1 r3 à '( 'obtain '⟨ ,k9 ¤1 #1 g1 #0 c2 ', ,hk9 ¤1 #1 g1 #0 c2 #3 '⟩ Å3 #1 g1 #1 #0 ':= ,hq9 #1 #2 Æ4 à 'refine '⟨ ,k9 ', ý #3 '⟩ u3 C2 Ł #9 Ý
my.inc
ü Ņ ĭ '[ Ă !Inc Ū .and_true Q3 #3 '] #3 #0 ]6 à ķ V2 ê
my.apart
ą .True.intro ŀ ì .And.intro ň é C2 '; '( 'focus 'k_all Ç1 ŕ à $my.apart ĝ ĕ
w7
ņ a1 '; $g15 '; 'k_dflt è !list_at '? ,hl â ,h0 â ,hi â ,hv Į #5 *2 Ĝ ,hl ò 'is_list t1 Ĉ ,h0 Ī ,hi æ ź ķ V2 Ĉ ,hv Ɓ Ė ĺ N2 ĝ
w8
'repeat' '( á '( 'k_unfold w1 '; ē ť Ó Ƅ 'k_end x1 '; 'wrow_close y1 Ć Ŗ ß '( ń '; Ŗ Ƅ 'leave1 z1 '; 'try ť Ć 'fail #0 {2 Ñ #6 B2 ÷ _2
w9
ņ a1 '; 'refine ţ ê
w10
ņ a1 '; '( ō Ő ħ Ŷ ő ', ŷ é #3 '] d3 ğ ċ è !iter2_K '? ,k1 â ,k2 â ,k3 Į ŏ Ĝ ,k1 Ī ,k2 æ ź 'k_asm e1 Ĉ ,k3 ò 'k_mem v1 ĳ N2 '; Ķ ,I' ,h' ,F' ,N' ,l1 #5 P2 Ũ 'k_lt ,l1 s2 Ğ Ó #9 Ý
w11
'exact .PySem.W.kmk_run Ù 'by 'l_ints È1 ā Ù 'by 'kmk_sign ¥1 ā Ù 'by 'kmk_sign ¥1 ā Ţ =2
w12
ì !due_fits Ù ū Ħ é C2 Ó
w13
ì !due_fits Ù ū Ù ū é C2 Ó
my.lo1
Ĩ Ò 'show '@ .LT.lt J2 ñ Ľ ħ ŏ G2 ă œ .Nat.lt_succ_self ő =2 Ć è Ģ ž ƀ ,hy Ɓ Ĉ ,hx Ŝ ĳ ß ü Ò 'show '@ .LT.lt J2 ñ Ľ ħ ŏ G2 ă à 'refine' !ls '? ,hx ƌ ,hx Ŝ ĳ Ƃ
my.lt1
á è Ģ ž ƀ ,hy Ɓ Ĉ ,hx Ĺ ĳ ß $my.lt2 ĕ
my.lt2
Ĩ Ò 'show '@ .LT.lt J2 ñ Ľ ħ ŏ G2 ă à 'refine' !ls '? ,hx ƌ ,hx Ĺ ĳ ß $my.cj ß è Ģ ž ƀ ,hy ò $my.cj Ĉ ,hx Ĺ ĳ Ƃ
my.pk1
ą !c3 ó !c4 ó !c5 ó !c6 ó !c7 ŀ $my.pk2 Ñ #6 B2
my.pk2
ą !c8 ó !c9 ó !c10 ó !c11 ó !c12 ó !c13 ó !c14 ó !c15 ó !c16 ó !c17 ó !c18 ó !d1 ð #12 B2
my.cj1
è !cx '? ,hw â ,hv ƀ ,hw Ɓ Ĉ ,hv ò $my.pk ĳ
my.ax
á è .Nat.ne_of_gt '? ,hz ƌ ,hz Ŝ Ė Ć è .Nat.ne_of_lt '? ,hz ƌ ,hz Ŝ Ė Ć $my.ax1 Ƃ
my.ax1
á è .Nat.ne_of_gt '? ,hz ƌ ,hz Ĺ Ė Ć è .Nat.ne_of_lt '? ,hz ƌ ,hz Ĺ Ė Ć $my.ax2 Ƃ
my.ax2
Ĩ ı 'refine' Ģ ž Œ I2 Ĳ à $my.aq Ć $my.ax3 ĕ
my.ax3
ą .And.left Ę Ŧ .Nat.lt_of_le_of_lt ŉ !ic ŉ !ie Ę ī Ţ ó .Nat.le_trans ŉ !sa ĵ ŀ $my.ax4 Ñ #7 B2
my.ax4
ą !el ŉ !sg ŉ !se ĵ ŀ è !cc '? ž ƀ ,hx Ī ,hy æ ź 'k_dflt ķ V2 N2 Ė ê Ñ #4 B2
my.aq
ą .Nat.succ_pos ő ŀ $my.lo ß $my.aq1 Ƃ
my.aq1
ą !sb Ę Ŧ !r0 Ę Ŧ !r1 ŉ !r2 ŉ !rg ŉ !rh ŉ !sf Ę ī Ţ ŀ $my.aq2 Ñ #8 B2
my.aq2
$my.lt
i1
á 'refine '@ 'fun Ù @0 ': Ù Ï ': 'Prop É1 #1 ') ^5 #1 ') ^5 #1 Ź ý Z4 [2 J2 C2 ß '( $mk.1 Ŋ #1 O2 Ƅ ÿ #1 ŝ 'revert @0 #1 h2 '; $mk.1 Ŋ #1 O2 Ş ÿ #1 O2 Ñ #4 B2
u9
,u9
in
Ķ @0 #1 P2 '; @1 ê
ir
'intro @0 P2
sk
'skip Ê1
ij
'all_goals ē '( 'revert @0 h2 Ŕ @0 P2 ê Ğ ÷ Ë2
rc
'rcases #0 @0 ¦2 #1 'with @1 #0 c2 #2 §3
ob
'( 'rcases #0 @0 ¦2 #1 'with @1 #0 c2 #2 §3 '; 'try '( 'revert @2 h2 Ŕ @2 P2 ê Ğ ê
ty
Ù @0 ': @1 #1 ') ^5
n2
ů !mark2 J2 ñ ň #5 ŭ !mark2 J2 ñ ę #5 ƍ
n3
ů !mark3 ļ ň ć C2 Ś !mark3 ļ ę ć C2 ś Ŵ
n4
ů !mark4 J2 ş ň #7 ŭ !mark4 J2 ş ę #7 ƍ
n6
ů !mark6 ļ ñ ň #9 ŭ !mark6 ļ ñ ę #9 ƍ
n8
ů !mark8 ļ ş ň #11 ŭ !mark8 ļ ş ę #11 ƍ
n16
ů !mark16 ļ Ǝ ş ň #19 ŭ !mark16 ļ Ǝ ş ę #19 ƍ
n24
ů !mark24 ļ Ǝ Ǝ ş ň #27 ŭ !mark24 ļ Ǝ Ǝ ş ę #27 ƍ
".splitOn ("\n" ++ k ++ "\n") with
 | [_, x] => return (dz (← MonadQuotation.getContext) (← MonadQuotation.getCurrMacroScope) ("null

Lean.Parser.Tactic.tacticSeq1Indented
Lean.Parser.Tactic.tacticSeq

Lean.Parser.Term.hole
Lean.Parser.Tactic.paren
Lean.Parser.Term.app
group

Lean.Parser.Term.syntheticHole

hygieneInfo










Lean.Parser.Term.hygienicLParen
Lean.Parser.Term.paren
Lean.binderIdent
Lean.Parser.Tactic.exact
Lean.Parser.Tactic.caseArg
Lean.Parser.Tactic.case

Lean.Parser.Tactic.withReducible
Lean.Parser.Tactic.first
Lean.Parser.Tactic.refine
Lean.Parser.Tactic.optConfig
Lean.Parser.Term.byTactic
Lean.Parser.Tactic.failIfSuccess
Lean.Parser.Tactic.show
Lean.Parser.Tactic.assumption
Lean.Parser.Tactic.refine'
Lean.Parser.Term.explicit
«term‹_›»
Lean.Parser.Tactic.tacticTry_
Lean.Parser.Tactic.decide
PySem.W.tacticK_dflt_
Lean.Parser.Tactic.intros
Lean.Parser.Tactic.intro
Lean.Parser.Tactic.simpLemma
Lean.Parser.Term.ellipsis
Lean.Parser.Tactic.dsimp
Lean.Parser.Term.dotIdent
Lean.Parser.Tactic.focus
Lean.Parser.Tactic.omega
Lean.Parser.Tactic.apply
Lean.Parser.Tactic.done
num
Lean.Parser.Term.basicFun
Lean.Parser.Term.fun

Lean.Parser.Tactic.simp
Lean.Parser.Term.typeAscription
Lean.Parser.Tactic.repeat'

PySem.W.tacticK_here
PyProof.Rows.tacticWalk1
Lean.Parser.Tactic.rcasesPatLo
«term[_]»
PySem.W.tacticK_asm
PySem.W.tacticK_fold
Lean.Parser.Tactic.rcasesPatMed
Lean.Parser.Tactic.revert
Lean.Parser.Tactic.configItem
PySem.W.tacticK_is
PySem.W.tacticK_in
PySem.W.tacticK_whole
PySem.W.tacticK_lift_
Lean.Parser.Term.letConfig
Lean.Parser.Term.letId
Lean.Parser.Term.letIdDecl
Lean.Parser.Term.letDecl
Lean.Parser.Tactic.tacticHave__
PySem.W.tacticK_lt_
PyProof.Rows.tacticIs_list
Lean.Parser.Term.anonymousCtor
PySem.W.tacticK_mem
PySem.W.tacticK_unfold
PySem.W.tacticK_end
PySem.W.tacticWrow_close
PyProof.Rows.tacticLeave1
Lean.Parser.Tactic.fail
Lean.Parser.Tactic.tacticRfl
Lean.Parser.Tactic.simpStar
Lean.Parser.Tactic.Conv.convSeq1Indented


































Lean.Parser.Tactic.Conv.convSeq
Lean.Parser.Tactic.Conv.conv
Lean.Parser.Term.tuple
Lean.Parser.Tactic.rcasesPat.one
PySem.W.tacticKmk_sign
Lean.Parser.Tactic.elimTarget
Lean.Parser.Tactic.rcases
«term_::_»
«term-_»
Lean.Parser.Tactic.lia
«term{}»
Lean.Parser.Term.structInstFields

Lean.Parser.Term.optEllipsis
Lean.Parser.Term.structInst
choice
Lean.Parser.Tactic.valConfigItem
PySem.W.tacticKtr_room
PySem.W.tacticK_room
Lean.Parser.Tactic.posConfigItem
PySem.W.tacticK_cells_
Lean.Parser.Tactic.locationHyp
Lean.Parser.Tactic.location
tacticWp_delta
Lean.Parser.Tactic.tacticRepeat_
Lean.Parser.Tactic.Conv.delta
Lean.Parser.Tactic.Conv.zeta
PyProof.Rows.tacticKernel_rfl!
Lean.Parser.Tactic.eqRefl
Lean.«binderPred∈_»
Lean.unbracketedExplicitBinders
Lean.explicitBinders
«term#[_,]»
«term_∈_»
«term∃_,_»
Lean.«term∀__,_»
Lean.Parser.Tactic.rcasesPat.tuple
Lean.Parser.Tactic.obtain
PySem.W.tacticK_all
PySem.W.tacticL_ints
Lean.Parser.Term.prop
Lean.Parser.Tactic.skip
Lean.Parser.Tactic.allGoals
%1 &1
#1 Ì
'( .
'_ (1
') )3
Í +2
'fail_if_success '(
Í Ð
'with_reducible 'show
Ï Ï
'| 'exact
/1 :2
'( 'case
Î ×
') ;3
Ô .PySem.wpAny
'assumption H1
Ì Ð
#1 *2
Ñ '|
Ó ';
'first '|
-2 '?
Ù .PySem.Value.ref
'with_reducible 'refine
<1 #0
å >2
#1 '=>
'( 'refine'
#2 *2
#3 Ý
Í ?4
'( 'refine
Í A2
'_ -2
'by 'decide
=2 Ñ
Õ Ï
æ ç
ð Ö
#0 D1
'with_reducible 'apply
!news_tail Ù
Ó Í
'‹ Ï
ø '›
Ù .PySem.call
Þ Ú
'( '(
'? î
Í E2
'intros @0
'( .
þ Ú
#0 #0
÷ F2
ë à
'first Ö
ê ß
#6 *2
Ą Ø
#0 'only
Õ Õ
à 'k_dflt
G2 í
Û Õ
Ú ñ
Ď ć
ď Č
Ù .PyProof.Rows.subscriptTail
'dsimp ô
'( 'try
Ñ #2
Ĕ B2
ë Ó
I2 ';
ù K3
!nn_of ý
Ù .PySem.exec
ß 'refine
ė Ø
#5 Ý
Í L2
é Đ
Þ C2
ô M2
.Nat.lt_trans '?
*2 C2
Ù ï
Ĥ ġ
ĥ ā
Ï û
á ü
ý Ġ
æ '|
Ę Ħ
à 'focus
ĉ #1
â î
'.. R1
Ï ğ
Ò Ò
ă ă
Ė ĝ
'; 'done
ī é
'( 'intro
'omega ô
'by Ü
ò $my.lt
#7 Ý
'exact .rfl
J2 Ċ
Ù .OfNat.ofNat
ı ä
í Ĳ
=2 ß
'; $my.mem
Ē ĭ
ł Ă
Ń S6
'simp ô
'( 'k_here
'? '_
Ň Į
ĵ ó
'; ÿ
õ .PySem.wpAny_ite_false
õ .PySem.wpAny_ite_true
č ú
Ù '.
#4 *2
Ù .PySem.Value.builtin
Ï Þ
-2 é
à 'exact
'; 'intro
Í U2
'walk1 b1
ľ '@
Ŀ ċ
Ř ì
ř '@
Ó N2
ò $my.lo
O2 ';
ĺ ß
Õ ñ
ã ħ
û İ
#3 *2
!stop_of ĩ
#3 B2
ń Ğ
Þ ó
Ā ×
à ē
Q3 ',
ũ Ă
ĸ ā
ĩ ě
ģ Ś
ģ ś
Ĩ ŗ
Ŋ ŝ
Ű @1
ű Ş
Ų @2
ų ĕ
Ù .PySem.Value.int
'[ .PySem.Value.ref
.PySem.Value.str Õ
Ù .PySem.callWith
#0 '=>
#3 '=>
'k_fold f1
á 'with_reducible
,hx â
Ž ,hy
T2 į
Œ Ĝ
ò Ü
Ñ Ť
Ć ü
Ć '(
W2 í
ƅ Ĭ
Ɔ '(
Ĵ X1
ƈ ê
Ɖ ŕ
-2 Þ
Ƌ Ĝ
Ů Ŵ
Ċ Ċ".splitOn "\n").toArray A 30 [] (x.splitOn "\n").head!).head!
 | _ => Macro.throwUnsupported
local macro_rules | `(tactic| fail $s:str) => dy s.getString #[]
section
theorem lc_ne {α : Type} (i : Nonempty α) (P : α → Prop) : Nonempty {x : α // (∃ y, ¬ P y) → ¬ P x} := by
 by_cases h : ∃ y, ¬ P y
 ·obtain ⟨y, hy⟩ := h; exact ⟨⟨y, fun _ => hy⟩⟩
 ·exact i.elim fun x => ⟨⟨x, fun h' => absurd h' h⟩⟩
noncomputable def Lc {α : Type} (i : Nonempty α) (P : α → Prop) : α := (Classical.choice (lc_ne i P)).val
theorem lc1 {α : Type} {P : α → Prop} (i : Nonempty α) (h : P (Lc i P)) : ∀ x, P x := fun x =>
 Classical.byContradiction fun hx => (Classical.choice (lc_ne i P)).property ⟨x, hx⟩ h
def mark1 {α : Type} {P : α → Prop} (i : Nonempty α) (b : ∀ x, P x) : ∀ x, P x := lc1 i (@CoeT.coe Unit () _ (CoeT.mk (b (Lc i P))))
theorem nn_of {α : Type} [i : Nonempty α] : Nonempty α := i
theorem nn_p {α β : Type} (a : Nonempty α) (b : Nonempty β) : Nonempty (α × β) := a.elim fun x => b.elim fun y => ⟨(x, y)⟩
theorem nn_world : Nonempty World := ⟨⟨default, by constructor <;> exact default⟩⟩
theorem nn_shared : Nonempty Shared := ⟨{}⟩
theorem nn_around : Nonempty PySem.Around := ⟨{}⟩
theorem nn_params : Nonempty Params := nn_world.elim fun w => ⟨w.params⟩
instance : Nonempty World := nn_world
instance : Nonempty Shared := nn_shared
instance : Nonempty PySem.Around := nn_around
instance : Nonempty Params := nn_params
instance : Nonempty GenState := ⟨.running⟩
instance : Nonempty PySem.PyData := ⟨.none⟩
theorem nn_def : Nonempty PySem.DefRec := ⟨by constructor <;> first | exact default | (constructor <;> exact default)⟩
instance : Nonempty PySem.DefRec := nn_def
def LBox {P : Prop} (_ _ : P) : Prop := True
theorem lbox {P : Prop} (p : P) : LBox p p := True.intro
abbrev LK (P : Prop) : Prop := ∀ m m1 p : P, LBox m1 p → LBox m m1 → P
def LA {G : Prop} (_ : G) : Type := Unit
def LR {G : Prop} (_ : G) : Prop := True
theorem lfoo {G : Prop} {p : G} (_ : LA p) (_ : Unit) : LR p := trivial
theorem lbd {G : Prop} {m p : G} (_ : LA p → LR m) : LBox m p := trivial
instance {G : Prop} {p : G} : CoeFun (LA p) (fun _ => Unit → LR p) := ⟨lfoo⟩
def Lt2 {A1 A2 : Type} (P : A1 → A2 → Prop) (c : A1 × A2) : Prop := P c.1 c.2
theorem lc2 {A1 A2 : Type} {P : A1 → A2 → Prop} (i : Nonempty (A1 × A2)) (h : letI c := Lc i (Lt2 P); P c.1 c.2) : ∀ x1 x2, P x1 x2 := fun x1 x2 => lc1 (P := Lt2 P) i h (x1, x2)
def mark2 {A1 A2 : Type} {P : A1 → A2 → Prop} (i : Nonempty (A1 × A2)) (b : ∀ x1 x2, P x1 x2) : ∀ x1 x2, P x1 x2 := letI c := Lc i (Lt2 P); lc2 i (@CoeT.coe Unit () _ (CoeT.mk (b c.1 c.2)))
def Lt3 {A1 A2 A3 : Type} (P : A1 → A2 → A3 → Prop) (c : A1 × A2 × A3) : Prop := P c.1 c.2.1 c.2.2
theorem lc3 {A1 A2 A3 : Type} {P : A1 → A2 → A3 → Prop} (i : Nonempty (A1 × A2 × A3)) (h : letI c := Lc i (Lt3 P); P c.1 c.2.1 c.2.2) : ∀ x1 x2 x3, P x1 x2 x3 := fun x1 x2 x3 => lc1 (P := Lt3 P) i h (x1, x2, x3)
def mark3 {A1 A2 A3 : Type} {P : A1 → A2 → A3 → Prop} (i : Nonempty (A1 × A2 × A3)) (b : ∀ x1 x2 x3, P x1 x2 x3) : ∀ x1 x2 x3, P x1 x2 x3 := letI c := Lc i (Lt3 P); lc3 i (@CoeT.coe Unit () _ (CoeT.mk (b c.1 c.2.1 c.2.2)))
def Lt4 {A1 A2 A3 A4 : Type} (P : A1 → A2 → A3 → A4 → Prop) (c : A1 × A2 × A3 × A4) : Prop := P c.1 c.2.1 c.2.2.1 c.2.2.2
theorem lc4 {A1 A2 A3 A4 : Type} {P : A1 → A2 → A3 → A4 → Prop} (i : Nonempty (A1 × A2 × A3 × A4)) (h : letI c := Lc i (Lt4 P); P c.1 c.2.1 c.2.2.1 c.2.2.2) : ∀ x1 x2 x3 x4, P x1 x2 x3 x4 := fun x1 x2 x3 x4 => lc1 (P := Lt4 P) i h (x1, x2, x3, x4)
def mark4 {A1 A2 A3 A4 : Type} {P : A1 → A2 → A3 → A4 → Prop} (i : Nonempty (A1 × A2 × A3 × A4)) (b : ∀ x1 x2 x3 x4, P x1 x2 x3 x4) : ∀ x1 x2 x3 x4, P x1 x2 x3 x4 := letI c := Lc i (Lt4 P); lc4 i (@CoeT.coe Unit () _ (CoeT.mk (b c.1 c.2.1 c.2.2.1 c.2.2.2)))
def Lt6 {A1 A2 A3 A4 A5 A6 : Type} (P : A1 → A2 → A3 → A4 → A5 → A6 → Prop) (c : A1 × A2 × A3 × A4 × A5 × A6) : Prop := P c.1 c.2.1 c.2.2.1 c.2.2.2.1 c.2.2.2.2.1 c.2.2.2.2.2
theorem lc6 {A1 A2 A3 A4 A5 A6 : Type} {P : A1 → A2 → A3 → A4 → A5 → A6 → Prop} (i : Nonempty (A1 × A2 × A3 × A4 × A5 × A6)) (h : letI c := Lc i (Lt6 P); P c.1 c.2.1 c.2.2.1 c.2.2.2.1 c.2.2.2.2.1 c.2.2.2.2.2) : ∀ x1 x2 x3 x4 x5 x6, P x1 x2 x3 x4 x5 x6 := fun x1 x2 x3 x4 x5 x6 => lc1 (P := Lt6 P) i h (x1, x2, x3, x4, x5, x6)
def mark6 {A1 A2 A3 A4 A5 A6 : Type} {P : A1 → A2 → A3 → A4 → A5 → A6 → Prop} (i : Nonempty (A1 × A2 × A3 × A4 × A5 × A6)) (b : ∀ x1 x2 x3 x4 x5 x6, P x1 x2 x3 x4 x5 x6) : ∀ x1 x2 x3 x4 x5 x6, P x1 x2 x3 x4 x5 x6 := letI c := Lc i (Lt6 P); lc6 i (@CoeT.coe Unit () _ (CoeT.mk (b c.1 c.2.1 c.2.2.1 c.2.2.2.1 c.2.2.2.2.1 c.2.2.2.2.2)))
def Lt8 {A1 A2 A3 A4 A5 A6 A7 A8 : Type} (P : A1 → A2 → A3 → A4 → A5 → A6 → A7 → A8 → Prop) (c : A1 × A2 × A3 × A4 × A5 × A6 × A7 × A8) : Prop := P c.1 c.2.1 c.2.2.1 c.2.2.2.1 c.2.2.2.2.1 c.2.2.2.2.2.1 c.2.2.2.2.2.2.1 c.2.2.2.2.2.2.2
theorem lc8 {A1 A2 A3 A4 A5 A6 A7 A8 : Type} {P : A1 → A2 → A3 → A4 → A5 → A6 → A7 → A8 → Prop} (i : Nonempty (A1 × A2 × A3 × A4 × A5 × A6 × A7 × A8)) (h : letI c := Lc i (Lt8 P); P c.1 c.2.1 c.2.2.1 c.2.2.2.1 c.2.2.2.2.1 c.2.2.2.2.2.1 c.2.2.2.2.2.2.1 c.2.2.2.2.2.2.2) : ∀ x1 x2 x3 x4 x5 x6 x7 x8, P x1 x2 x3 x4 x5 x6 x7 x8 := fun x1 x2 x3 x4 x5 x6 x7 x8 => lc1 (P := Lt8 P) i h (x1, x2, x3, x4, x5, x6, x7, x8)
def mark8 {A1 A2 A3 A4 A5 A6 A7 A8 : Type} {P : A1 → A2 → A3 → A4 → A5 → A6 → A7 → A8 → Prop} (i : Nonempty (A1 × A2 × A3 × A4 × A5 × A6 × A7 × A8)) (b : ∀ x1 x2 x3 x4 x5 x6 x7 x8, P x1 x2 x3 x4 x5 x6 x7 x8) : ∀ x1 x2 x3 x4 x5 x6 x7 x8, P x1 x2 x3 x4 x5 x6 x7 x8 := letI c := Lc i (Lt8 P); lc8 i (@CoeT.coe Unit () _ (CoeT.mk (b c.1 c.2.1 c.2.2.1 c.2.2.2.1 c.2.2.2.2.1 c.2.2.2.2.2.1 c.2.2.2.2.2.2.1 c.2.2.2.2.2.2.2)))
def Lt16 {A1 A2 A3 A4 A5 A6 A7 A8 A9 A10 A11 A12 A13 A14 A15 A16 : Type} (P : A1 → A2 → A3 → A4 → A5 → A6 → A7 → A8 → A9 → A10 → A11 → A12 → A13 → A14 → A15 → A16 → Prop) (c : A1 × A2 × A3 × A4 × A5 × A6 × A7 × A8 × A9 × A10 × A11 × A12 × A13 × A14 × A15 × A16) : Prop := P c.1 c.2.1 c.2.2.1 c.2.2.2.1 c.2.2.2.2.1 c.2.2.2.2.2.1 c.2.2.2.2.2.2.1 c.2.2.2.2.2.2.2.1 c.2.2.2.2.2.2.2.2.1 c.2.2.2.2.2.2.2.2.2.1 c.2.2.2.2.2.2.2.2.2.2.1 c.2.2.2.2.2.2.2.2.2.2.2.1 c.2.2.2.2.2.2.2.2.2.2.2.2.1 c.2.2.2.2.2.2.2.2.2.2.2.2.2.1 c.2.2.2.2.2.2.2.2.2.2.2.2.2.2.1 c.2.2.2.2.2.2.2.2.2.2.2.2.2.2.2
theorem lc16 {A1 A2 A3 A4 A5 A6 A7 A8 A9 A10 A11 A12 A13 A14 A15 A16 : Type} {P : A1 → A2 → A3 → A4 → A5 → A6 → A7 → A8 → A9 → A10 → A11 → A12 → A13 → A14 → A15 → A16 → Prop} (i : Nonempty (A1 × A2 × A3 × A4 × A5 × A6 × A7 × A8 × A9 × A10 × A11 × A12 × A13 × A14 × A15 × A16)) (h : letI c := Lc i (Lt16 P); P c.1 c.2.1 c.2.2.1 c.2.2.2.1 c.2.2.2.2.1 c.2.2.2.2.2.1 c.2.2.2.2.2.2.1 c.2.2.2.2.2.2.2.1 c.2.2.2.2.2.2.2.2.1 c.2.2.2.2.2.2.2.2.2.1 c.2.2.2.2.2.2.2.2.2.2.1 c.2.2.2.2.2.2.2.2.2.2.2.1 c.2.2.2.2.2.2.2.2.2.2.2.2.1 c.2.2.2.2.2.2.2.2.2.2.2.2.2.1 c.2.2.2.2.2.2.2.2.2.2.2.2.2.2.1 c.2.2.2.2.2.2.2.2.2.2.2.2.2.2.2) : ∀ x1 x2 x3 x4 x5 x6 x7 x8 x9 x10 x11 x12 x13 x14 x15 x16, P x1 x2 x3 x4 x5 x6 x7 x8 x9 x10 x11 x12 x13 x14 x15 x16 := fun x1 x2 x3 x4 x5 x6 x7 x8 x9 x10 x11 x12 x13 x14 x15 x16 => lc1 (P := Lt16 P) i h (x1, x2, x3, x4, x5, x6, x7, x8, x9, x10, x11, x12, x13, x14, x15, x16)
def mark16 {A1 A2 A3 A4 A5 A6 A7 A8 A9 A10 A11 A12 A13 A14 A15 A16 : Type} {P : A1 → A2 → A3 → A4 → A5 → A6 → A7 → A8 → A9 → A10 → A11 → A12 → A13 → A14 → A15 → A16 → Prop} (i : Nonempty (A1 × A2 × A3 × A4 × A5 × A6 × A7 × A8 × A9 × A10 × A11 × A12 × A13 × A14 × A15 × A16)) (b : ∀ x1 x2 x3 x4 x5 x6 x7 x8 x9 x10 x11 x12 x13 x14 x15 x16, P x1 x2 x3 x4 x5 x6 x7 x8 x9 x10 x11 x12 x13 x14 x15 x16) : ∀ x1 x2 x3 x4 x5 x6 x7 x8 x9 x10 x11 x12 x13 x14 x15 x16, P x1 x2 x3 x4 x5 x6 x7 x8 x9 x10 x11 x12 x13 x14 x15 x16 := letI c := Lc i (Lt16 P); lc16 i (@CoeT.coe Unit () _ (CoeT.mk (b c.1 c.2.1 c.2.2.1 c.2.2.2.1 c.2.2.2.2.1 c.2.2.2.2.2.1 c.2.2.2.2.2.2.1 c.2.2.2.2.2.2.2.1 c.2.2.2.2.2.2.2.2.1 c.2.2.2.2.2.2.2.2.2.1 c.2.2.2.2.2.2.2.2.2.2.1 c.2.2.2.2.2.2.2.2.2.2.2.1 c.2.2.2.2.2.2.2.2.2.2.2.2.1 c.2.2.2.2.2.2.2.2.2.2.2.2.2.1 c.2.2.2.2.2.2.2.2.2.2.2.2.2.2.1 c.2.2.2.2.2.2.2.2.2.2.2.2.2.2.2)))
def Lt24 {A1 A2 A3 A4 A5 A6 A7 A8 A9 A10 A11 A12 A13 A14 A15 A16 A17 A18 A19 A20 A21 A22 A23 A24 : Type} (P : A1 → A2 → A3 → A4 → A5 → A6 → A7 → A8 → A9 → A10 → A11 → A12 → A13 → A14 → A15 → A16 → A17 → A18 → A19 → A20 → A21 → A22 → A23 → A24 → Prop) (c : A1 × A2 × A3 × A4 × A5 × A6 × A7 × A8 × A9 × A10 × A11 × A12 × A13 × A14 × A15 × A16 × A17 × A18 × A19 × A20 × A21 × A22 × A23 × A24) : Prop := P c.1 c.2.1 c.2.2.1 c.2.2.2.1 c.2.2.2.2.1 c.2.2.2.2.2.1 c.2.2.2.2.2.2.1 c.2.2.2.2.2.2.2.1 c.2.2.2.2.2.2.2.2.1 c.2.2.2.2.2.2.2.2.2.1 c.2.2.2.2.2.2.2.2.2.2.1 c.2.2.2.2.2.2.2.2.2.2.2.1 c.2.2.2.2.2.2.2.2.2.2.2.2.1 c.2.2.2.2.2.2.2.2.2.2.2.2.2.1 c.2.2.2.2.2.2.2.2.2.2.2.2.2.2.1 c.2.2.2.2.2.2.2.2.2.2.2.2.2.2.2.1 c.2.2.2.2.2.2.2.2.2.2.2.2.2.2.2.2.1 c.2.2.2.2.2.2.2.2.2.2.2.2.2.2.2.2.2.1 c.2.2.2.2.2.2.2.2.2.2.2.2.2.2.2.2.2.2.1 c.2.2.2.2.2.2.2.2.2.2.2.2.2.2.2.2.2.2.2.1 c.2.2.2.2.2.2.2.2.2.2.2.2.2.2.2.2.2.2.2.2.1 c.2.2.2.2.2.2.2.2.2.2.2.2.2.2.2.2.2.2.2.2.2.1 c.2.2.2.2.2.2.2.2.2.2.2.2.2.2.2.2.2.2.2.2.2.2.1 c.2.2.2.2.2.2.2.2.2.2.2.2.2.2.2.2.2.2.2.2.2.2.2
theorem lc24 {A1 A2 A3 A4 A5 A6 A7 A8 A9 A10 A11 A12 A13 A14 A15 A16 A17 A18 A19 A20 A21 A22 A23 A24 : Type} {P : A1 → A2 → A3 → A4 → A5 → A6 → A7 → A8 → A9 → A10 → A11 → A12 → A13 → A14 → A15 → A16 → A17 → A18 → A19 → A20 → A21 → A22 → A23 → A24 → Prop} (i : Nonempty (A1 × A2 × A3 × A4 × A5 × A6 × A7 × A8 × A9 × A10 × A11 × A12 × A13 × A14 × A15 × A16 × A17 × A18 × A19 × A20 × A21 × A22 × A23 × A24)) (h : letI c := Lc i (Lt24 P); P c.1 c.2.1 c.2.2.1 c.2.2.2.1 c.2.2.2.2.1 c.2.2.2.2.2.1 c.2.2.2.2.2.2.1 c.2.2.2.2.2.2.2.1 c.2.2.2.2.2.2.2.2.1 c.2.2.2.2.2.2.2.2.2.1 c.2.2.2.2.2.2.2.2.2.2.1 c.2.2.2.2.2.2.2.2.2.2.2.1 c.2.2.2.2.2.2.2.2.2.2.2.2.1 c.2.2.2.2.2.2.2.2.2.2.2.2.2.1 c.2.2.2.2.2.2.2.2.2.2.2.2.2.2.1 c.2.2.2.2.2.2.2.2.2.2.2.2.2.2.2.1 c.2.2.2.2.2.2.2.2.2.2.2.2.2.2.2.2.1 c.2.2.2.2.2.2.2.2.2.2.2.2.2.2.2.2.2.1 c.2.2.2.2.2.2.2.2.2.2.2.2.2.2.2.2.2.2.1 c.2.2.2.2.2.2.2.2.2.2.2.2.2.2.2.2.2.2.2.1 c.2.2.2.2.2.2.2.2.2.2.2.2.2.2.2.2.2.2.2.2.1 c.2.2.2.2.2.2.2.2.2.2.2.2.2.2.2.2.2.2.2.2.2.1 c.2.2.2.2.2.2.2.2.2.2.2.2.2.2.2.2.2.2.2.2.2.2.1 c.2.2.2.2.2.2.2.2.2.2.2.2.2.2.2.2.2.2.2.2.2.2.2) : ∀ x1 x2 x3 x4 x5 x6 x7 x8 x9 x10 x11 x12 x13 x14 x15 x16 x17 x18 x19 x20 x21 x22 x23 x24, P x1 x2 x3 x4 x5 x6 x7 x8 x9 x10 x11 x12 x13 x14 x15 x16 x17 x18 x19 x20 x21 x22 x23 x24 := fun x1 x2 x3 x4 x5 x6 x7 x8 x9 x10 x11 x12 x13 x14 x15 x16 x17 x18 x19 x20 x21 x22 x23 x24 => lc1 (P := Lt24 P) i h (x1, x2, x3, x4, x5, x6, x7, x8, x9, x10, x11, x12, x13, x14, x15, x16, x17, x18, x19, x20, x21, x22, x23, x24)
def mark24 {A1 A2 A3 A4 A5 A6 A7 A8 A9 A10 A11 A12 A13 A14 A15 A16 A17 A18 A19 A20 A21 A22 A23 A24 : Type} {P : A1 → A2 → A3 → A4 → A5 → A6 → A7 → A8 → A9 → A10 → A11 → A12 → A13 → A14 → A15 → A16 → A17 → A18 → A19 → A20 → A21 → A22 → A23 → A24 → Prop} (i : Nonempty (A1 × A2 × A3 × A4 × A5 × A6 × A7 × A8 × A9 × A10 × A11 × A12 × A13 × A14 × A15 × A16 × A17 × A18 × A19 × A20 × A21 × A22 × A23 × A24)) (b : ∀ x1 x2 x3 x4 x5 x6 x7 x8 x9 x10 x11 x12 x13 x14 x15 x16 x17 x18 x19 x20 x21 x22 x23 x24, P x1 x2 x3 x4 x5 x6 x7 x8 x9 x10 x11 x12 x13 x14 x15 x16 x17 x18 x19 x20 x21 x22 x23 x24) : ∀ x1 x2 x3 x4 x5 x6 x7 x8 x9 x10 x11 x12 x13 x14 x15 x16 x17 x18 x19 x20 x21 x22 x23 x24, P x1 x2 x3 x4 x5 x6 x7 x8 x9 x10 x11 x12 x13 x14 x15 x16 x17 x18 x19 x20 x21 x22 x23 x24 := letI c := Lc i (Lt24 P); lc24 i (@CoeT.coe Unit () _ (CoeT.mk (b c.1 c.2.1 c.2.2.1 c.2.2.2.1 c.2.2.2.2.1 c.2.2.2.2.2.1 c.2.2.2.2.2.2.1 c.2.2.2.2.2.2.2.1 c.2.2.2.2.2.2.2.2.1 c.2.2.2.2.2.2.2.2.2.1 c.2.2.2.2.2.2.2.2.2.2.1 c.2.2.2.2.2.2.2.2.2.2.2.1 c.2.2.2.2.2.2.2.2.2.2.2.2.1 c.2.2.2.2.2.2.2.2.2.2.2.2.2.1 c.2.2.2.2.2.2.2.2.2.2.2.2.2.2.1 c.2.2.2.2.2.2.2.2.2.2.2.2.2.2.2.1 c.2.2.2.2.2.2.2.2.2.2.2.2.2.2.2.2.1 c.2.2.2.2.2.2.2.2.2.2.2.2.2.2.2.2.2.1 c.2.2.2.2.2.2.2.2.2.2.2.2.2.2.2.2.2.2.1 c.2.2.2.2.2.2.2.2.2.2.2.2.2.2.2.2.2.2.2.1 c.2.2.2.2.2.2.2.2.2.2.2.2.2.2.2.2.2.2.2.2.1 c.2.2.2.2.2.2.2.2.2.2.2.2.2.2.2.2.2.2.2.2.2.1 c.2.2.2.2.2.2.2.2.2.2.2.2.2.2.2.2.2.2.2.2.2.2.1 c.2.2.2.2.2.2.2.2.2.2.2.2.2.2.2.2.2.2.2.2.2.2.2)))
theorem ls {a b : Nat} (h : a < b) : a < b + 1 := Nat.lt_succ_of_lt h
theorem cw {α : Type} {i : LT α} {a b m : α} {r : Prop} (h : m < b∧r) (g : m < b∧r → a < b) : a < b := g h
theorem cx {α : Type} {i : LT α} {a b p q o : α} {r : Prop} (h : p < q∧q < o∧r) (g : p < q∧q < o∧r → a < b) : a < b := g h
theorem c0 {q r : Prop} (h : q∧r) : q := h.1
theorem c1 {a q r : Prop} (h : a∧q∧r) : q := h.2.1
theorem c2 {a b q r : Prop} (h : a∧b∧q∧r) : q := h.2.2.1
theorem c3 {a b e q r : Prop} (h : a∧b∧e∧q∧r) : q := h.2.2.2.1
theorem c4 {a b e f q r : Prop} (h : a∧b∧e∧f∧q∧r) : q := h.2.2.2.2.1
theorem c5 {a b e f g q r : Prop} (h : a∧b∧e∧f∧g∧q∧r) : q := h.2.2.2.2.2.1
theorem c6 {a b e f g i q r : Prop} (h : a∧b∧e∧f∧g∧i∧q∧r) : q := h.2.2.2.2.2.2.1
theorem c7 {a b e f g i j q r : Prop} (h : a∧b∧e∧f∧g∧i∧j∧q∧r) : q := h.2.2.2.2.2.2.2.1
theorem c8 {a b e f g i j k q r : Prop} (h : a∧b∧e∧f∧g∧i∧j∧k∧q∧r) : q := h.2.2.2.2.2.2.2.2.1
theorem c9 {a b e f g i j k l q r : Prop} (h : a∧b∧e∧f∧g∧i∧j∧k∧l∧q∧r) : q := h.2.2.2.2.2.2.2.2.2.1
theorem c10 {a b e f g i j k l m q r : Prop} (h : a∧b∧e∧f∧g∧i∧j∧k∧l∧m∧q∧r) : q := h.2.2.2.2.2.2.2.2.2.2.1
theorem c11 {a b e f g i j k l m n q r : Prop} (h : a∧b∧e∧f∧g∧i∧j∧k∧l∧m∧n∧q∧r) : q := h.2.2.2.2.2.2.2.2.2.2.2.1
theorem c12 {a b e f g i j k l m n o q r : Prop} (h : a∧b∧e∧f∧g∧i∧j∧k∧l∧m∧n∧o∧q∧r) : q := h.2.2.2.2.2.2.2.2.2.2.2.2.1
theorem c13 {a b e f g i j k l m n o s q r : Prop} (h : a∧b∧e∧f∧g∧i∧j∧k∧l∧m∧n∧o∧s∧q∧r) : q := h.2.2.2.2.2.2.2.2.2.2.2.2.2.1
theorem c14 {a b e f g i j k l m n o s t q r : Prop} (h : a∧b∧e∧f∧g∧i∧j∧k∧l∧m∧n∧o∧s∧t∧q∧r) : q := h.2.2.2.2.2.2.2.2.2.2.2.2.2.2.1
theorem c15 {a b e f g i j k l m n o s t u q r : Prop} (h : a∧b∧e∧f∧g∧i∧j∧k∧l∧m∧n∧o∧s∧t∧u∧q∧r) : q := h.2.2.2.2.2.2.2.2.2.2.2.2.2.2.2.1
theorem c16 {a b e f g i j k l m n o s t u v q r : Prop} (h : a∧b∧e∧f∧g∧i∧j∧k∧l∧m∧n∧o∧s∧t∧u∧v∧q∧r) : q := h.2.2.2.2.2.2.2.2.2.2.2.2.2.2.2.2.1
theorem c17 {a b e f g i j k l m n o s t u v w q r : Prop} (h : a∧b∧e∧f∧g∧i∧j∧k∧l∧m∧n∧o∧s∧t∧u∧v∧w∧q∧r) : q := h.2.2.2.2.2.2.2.2.2.2.2.2.2.2.2.2.2.1
theorem c18 {a b e f g i j k l m n o s t u v w x q r : Prop} (h : a∧b∧e∧f∧g∧i∧j∧k∧l∧m∧n∧o∧s∧t∧u∧v∧w∧x∧q∧r) : q := h.2.2.2.2.2.2.2.2.2.2.2.2.2.2.2.2.2.2.1
theorem r0 {a b r : Nat} (h : a + b < r) : a < r := Nat.lt_of_le_of_lt (Nat.le_add_right a b) h
theorem r1 {a b c r : Nat} (h : a + b < r) (k : c ≤ b) : a + c < r := Nat.lt_of_le_of_lt (Nat.add_le_add_left k a) h
theorem r2 {a b c d r : Nat} (h : a + b < r) (k : c + d ≤ b) : a + c + d < r := Nat.add_assoc a c d ▸ r1 h k
theorem ic {n k : Nat} {c : Int} (h : n ≤ k) (k : (k : Int) < c) : (n : Int) < c := by omega
theorem ie {n k l : Nat} {c : Int} (h : n ≤ k) (h2 : k ≤ l) (k : (l : Int) < c) : (n : Int) < c := by omega
theorem sa {n k c d : Nat} (h : n ≤ k) (k : k + c ≤ d) : n + c ≤ d := by omega
theorem el {n k d : Nat} (h : n = k) (k : k ≤ d) : n ≤ d := h ▸ k
theorem cc {p q : Prop} (h : p) (k : q) : p ∧ q := ⟨h, k⟩
theorem d1 {a q : Prop} (h : a∧q) : q := h.2
theorem sb {n i : Nat} (h : i < n) : n + 1 - (i + 1) < n + 1 - i := Nat.sub_lt_sub_left (Nat.lt_succ_of_lt h) (Nat.lt_succ_self i)
theorem ar_tn {X : Int} {i : Nat} (h : 0 ≤ X ∧ X < 1 + (i : Int)) : X.toNat < i + 1 := (Int.toNat_lt h.1).mpr (by rw [Int.natCast_add, Int.add_comm]; exact h.2)
theorem ap1 {rl bl k0 ii : Nat} {cc : Int} (h1 : bl + k0 = rl) (h2 : ii = min k0 cc.toNat) (h3 : 0 ≤ cc) : ((rl - ii : Nat) : Int) - bl = k0 - min (k0 : Int) cc := by
 obtain ⟨c, rfl⟩ := Int.eq_ofNat_of_zero_le h3
 have e : min (k0 : Int) (c : Int) = ((min k0 c : Nat) : Int) := by
  rcases Nat.le_total k0 c with h | h
  ·rw [Nat.min_eq_left h, Int.min_eq_left (Int.ofNat_le.mpr h)]
  ·rw [Nat.min_eq_right h, Int.min_eq_right (Int.ofNat_le.mpr h)]
 subst h1 h2
 rw [e, Int.toNat_natCast, Nat.add_sub_assoc (Nat.min_le_left ..), Int.natCast_add, Int.add_comm, Int.add_sub_cancel, Int.natCast_sub (Nat.min_le_left ..)]
theorem ap2 {late soon n : Nat} (h : late < n) : min ((late : Int) + 1).toNat n - ((soon : Int) + 1).toNat = late - soon := by
 show min (late + 1) n - (soon + 1) = late - soon
 rw [Nat.min_eq_left h]
 exact Nat.add_sub_add_right late 1 soon
theorem m1 : ∀ {n : Nat}, 0 < n → ((-1 : Int) + (n : Nat)).toNat = n - 1
 | k + 1, _ => by
  show ((-1 : Int) + ((k + 1 : Nat) : Int)).toNat = k
  rw [Nat.add_comm, Int.natCast_add]
  exact congrArg Int.toNat (Int.neg_add_cancel_left 1 k)
theorem no6 {x : Int} (h : x < 6) : ¬ 6 ≤ x + ((0 : Nat) : Int) := Int.not_le.mpr ((Int.add_zero x).symm ▸ h)
theorem st1 {A : Int} {i : Nat} (h2 : (i : Int) ≤ A) (h : A - i ≠ 0) : A.toNat - (i + 1) < A.toNat - i := Nat.sub_lt_sub_left ((Int.lt_toNat).mpr (Int.lt_iff_le_and_ne.mpr ⟨h2, fun e => h (by rw [← e, Int.sub_self])⟩)) (Nat.lt_succ_self i)
theorem st2 {A : Int} {i b : Nat} (h2 : (i : Int) ≤ A) (h : i = b) : i = min b A.toNat := by
 subst h
 exact (Nat.min_eq_left (Int.le_toNat (Int.le_trans (Int.natCast_nonneg _) h2) |>.mpr h2)).symm
theorem st3 {A : Int} {i b : Nat} (h : i ≤ b) (h2 : A - i = 0) : i = min b A.toNat := by
 have e : A = i := Int.sub_eq_zero.mp h2
 subst e
 exact (Nat.min_eq_right h).symm
theorem st4 {A : Int} {i : Nat} (h2 : (i : Int) ≤ A) (h : A - i ≠ 0) : ((i + 1 : Nat) : Int) ≤ A := Int.lt_iff_le_and_ne.mpr ⟨h2, fun e => h (by rw [← e, Int.sub_self])⟩
theorem wo1 {d a b n : Nat} (h1 : d < b) (h2 : n - a < n - b) : d + 1 < a := Nat.lt_of_le_of_lt h1 (Nat.lt_of_not_le fun h => Nat.not_lt.mpr (Nat.sub_le_sub_left h n) h2)
theorem wo2 {d a b n : Nat} (h1 : d < b) (hb : b ≤ n) (h2 : n - a ≤ n - b) : d + 1 ≤ a := Nat.le_trans h1 (Nat.le_of_not_lt fun h => Nat.not_le.mpr (Nat.sub_lt_sub_left (Nat.lt_of_lt_of_le h hb) h) h2)
theorem wo3 {a b n : Nat} (h2 : n - a < n - b) : 0 < a := Nat.lt_of_le_of_lt (Nat.zero_le b) (Nat.lt_of_not_le fun h => Nat.not_lt.mpr (Nat.sub_le_sub_left h n) h2)
theorem pk {a k : Nat} (h : a < k) : k = k - 1 + 1 := (Nat.succ_pred (Nat.ne_of_gt (Nat.lt_of_le_of_lt (Nat.zero_le a) h))).symm
theorem sg {n y k d : Nat} (h : n ≤ k) (hk : k ≤ d) : n - y ≤ d := Nat.le_trans (Nat.sub_le _ _) (Nat.le_trans h hk)
theorem se {n k c d : Nat} (h : n = k) (hk : k - c ≤ d) : n - c ≤ d := h ▸ hk
theorem sf {n k c i m : Nat} (h : n = k) (h2 : i < m) (hk : m ≤ k - c) : i < n - c := h ▸ Nat.lt_of_lt_of_le h2 hk
theorem rm1 {k f m c : Nat} (hk : c ≤ k + m) : c ≤ k * (f + 1) + m := Nat.le_trans hk (Nat.add_le_add_right (Nat.le_mul_of_pos_right k (Nat.succ_pos f)) m)
theorem rg {a c d k m f r : Nat} (h : a + (k * (f + 1) + m) < r) (hk : c + d ≤ k + m) : a + c + d < r := Nat.add_assoc a c d ▸ r1 h (rm1 hk)
theorem rh {a c d k m f r : Nat} (h : a + (k * (f + 1) + m) < r) (hk : c + d ≤ k + m) : a + c + (k * f + d) < r := by
 refine Nat.add_assoc a c (k * f + d) ▸ r1 h ?_
 have : k * (f + 1) = k * f + k := Nat.mul_succ k f
 omega
theorem lk {β : Type} {x : Str} {v : β} {A : List (Str × β)} (h : List.lookup x A = some v) : ∀ {N : List Str}, N.contains x = true → List.lookup x (List.filterMap (fun n => Option.map (fun y => (n, y)) (List.lookup n A)) N) = some v
 | n :: N, hx => by
  cases e : List.lookup n A with
  | none =>
   rw [List.filterMap_cons_none (by rw [e]; rfl)]
   refine lk h ?_
   rw [List.contains_cons] at hx
   rcases Bool.or_eq_true_iff.mp hx with h1 | h1
   ·rw [← eq_of_beq h1, h] at e; cases e
   ·exact h1
  | some y =>
   rw [List.filterMap_cons_some (b := (n, y)) (by rw [e]; rfl), List.lookup_cons]
   cases hb : (x == n) with
   | true => rw [← eq_of_beq hb, h] at e; cases e; rfl
   | false =>
    refine lk h ?_
    rw [List.contains_cons, hb] at hx
    exact hx
theorem lkr {β : Type} {x : Str} {v : β} {A : List (Str × β)} {N : List Str} (h : List.lookup x A = some v) (hx : N.contains x = true) : List.lookup x (List.filterMap (fun n => Option.map (fun y => (n, y)) (List.lookup n A)) N).reverse = some v := by
 rw [← List.filterMap_reverse]
 exact lk h (by simpa using hx)
end
section
theorem setGen_toks (s : Shared) (g : Nat) (x : GenState) : (s.setGen g x).toks = s.toks := rfl
theorem runs_toks {M : Model} {Γ : Ctx} {p : Pos} {t : Sem Fin} {fs : List Frame} {s : Shared} {e : End} {s' : Shared} (h : Runs M Γ p t fs s e s') : s.toks ≤ s'.toks := by
 induction h <;> (try simp only [setGen_toks] at *) <;> (try dsimp only at *) <;> first | exact Nat.le_refl _ | omega
theorem wakes_toks {M : Model} {Γ : Ctx} {p : Pos} {g : Nat} {r : Resume} {s : Shared} {res : GenResult} {s' : Shared} (h : Wakes M Γ p g r s res s') : s.toks ≤ s'.toks := by
 unfold Wakes at h
 split at h
 ·exact h.elim
 ·split at h
  ·obtain ⟨e, s₁, hr, _, _, rfl⟩ := h; have z := runs_toks hr; simp only [setGen_toks] at z ⊢; exact z
  ·rw [h.2]; exact Nat.le_refl _
  ·rw [h.2]; exact Nat.le_refl _
 ·obtain ⟨e, s₁, hr, _, _, rfl⟩ := h; have z := runs_toks hr; simp only [setGen_toks] at z ⊢; exact z
 ·rw [h.2]; exact Nat.le_refl _
 ·rw [h.2]; exact Nat.le_refl _
theorem wp_toks {α : Type} (M : Model) (Γ : Ctx) (n : Nat) : ∀ (t : Sem α) (Q : α → Pos → Shared → Prop) (E : Value → Pos → Shared → Prop) (p : Pos) (s : Shared), n ≤ s.toks → Sem.wp M Γ t Q E p s →
  Sem.wp M Γ t (fun a p' s' => n ≤ s'.toks ∧ Q a p' s') (fun e p' s' => n ≤ s'.toks ∧ E e p' s') p s := by
 intro t
 induction t with
 | pure a => intro Q E p s h x; exact ⟨h, x⟩
 | raise e => intro Q E p s h x; exact ⟨h, x⟩
 | unsupported _ => intro Q E p s h x; exact x.elim
 | finish _ => intro Q E p s h x; exact x.elim
 | register _ _ => intro Q E p s h x; exact x.elim
 | yield => intro Q E p s h x; exact x.elim
 | fork => intro Q E p s h x; exact x.elim
 | await => intro Q E p s h x; exact x.elim
 | rule _ k ih => intro Q E p s h x; exact ih () Q E p s h x
 | «at» q k ih => intro Q E p s h x; exact ih () Q E q s h x
 | load a _ k ih => intro Q E p s h x; obtain ⟨o, ho, x⟩ := x; exact ⟨o, ho, ih o Q E p s h x⟩
 | update a _ f k ih => intro Q E p s h x; exact ⟨x.1, ih () Q E p _ h x.2⟩
 | loadIfAlive a k ih => intro Q E p s h x; exact ih _ Q E p s h x
 | point l k ih => intro Q E p s h x; exact ih () Q E p s h x
 | alloc o k ih => intro Q E p s h x; exact ih _ Q E p _ h x
 | fresh k ih => intro Q E p s h x; exact ih _ Q E p _ (Nat.le_succ_of_le h) x
 | ask k ih => intro Q E p s h x; exact ih _ Q E p s h x
 | choose src m k ih => intro Q E p s h x; exact ⟨x.1, ih _ Q E p _ h x.2⟩
 | os q l k ih => intro Q E p s h x; exact ih _ Q E p _ h x
 | call c hd g l k ih =>
  intro Q E p s h x
  obtain ⟨r, s₁, hr, x⟩ := x
  exact ⟨r, s₁, hr, ih r Q E p s₁ (Nat.le_trans h (runs_toks hr)) x⟩
 | handled own k ih => intro Q E p s h x; exact ih _ Q E p s h x
 | genState g k ih => intro Q E p s h x; obtain ⟨st, hs, x⟩ := x; exact ⟨st, hs, ih _ Q E p s h x⟩
 | newGen c k ih => intro Q E p s h x; exact ih _ Q E p _ h x
 | resume g r l k ih =>
  intro Q E p s h x
  rw [Sem.wp_resume] at x ⊢
  obtain ⟨res, s₁, hw, x⟩ := x
  exact ⟨res, s₁, hw, ih res Q E p s₁ (Nat.le_trans h (wakes_toks hw)) x⟩
 | stack k ih => intro Q E p s h x; exact ih _ Q E p s h x
 | thread k ih => intro Q E p s h x; exact ih _ Q E p s h x
theorem by_toks {α : Type} {M : Model} {A : Around} {t : Sem α} {Q : α → Shared → Prop} {E : Value → Shared → Prop} {s : Shared} (h : wpAny M A t (fun a s' => s.toks ≤ s'.toks → Q a s') E s) : wpAny M A t Q E s :=
 fun Γ p hΓ => Sem.wp_mono M Γ t (fun _ _ _ x => x.2 x.1) (fun _ _ _ x => x.2) p s (wp_toks M Γ s.toks t _ _ p s (Nat.le_refl _) (h Γ p hΓ))
theorem toks_gen {α : Type} {M : Model} {A : Around} {t : Sem α} {Q : α → Shared → Prop} {E : Value → Shared → Prop} {hp : Heap} {g : Array GenState} {d : Drawn} {X Y : Nat} {os : OsState} (h0 : 0 < X + Y)
 (h : ∀ k, 0 < k → wpAny M A t Q E ⟨hp, g, d, k, os⟩) : wpAny M A t Q E ⟨hp, g, d, X + Y, os⟩ := h _ h0
theorem toks_cons {M : Model} {A : Around} {E : Value → Shared → Prop} {s : Shared} {st : Stmt} {rest : List Stmt} {env : Env} {Q : Flow → Shared → Prop}
  (h : wpAny M A (exec st env) (fun f s' => s.toks ≤ s'.toks → match f with | .next => wpAny M A (execs rest env) Q E s' | f => Q f s') E s) : wpAny M A (execs (st :: rest) env) Q E s := by
 refine wpAny_execs_cons (by_toks (wpAny_mono h (fun f s' z => ?_) fun _ _ z => z))
 cases f <;> exact z
end
section
section
def pK : Program := { PySem.Challenge.pw_to0089_01 with main := { PySem.Challenge.pw_to0089_01.main with body := PySem.Challenge.pw_to0089_01.main.body ++ [.Assign [.Subscript (.Name (Str.ofString "b3_exceptions") ⟨0,0,0,0⟩) (.Constant (.int 0) 0 ⟨0,0,0,0⟩) ⟨0,0,0,0⟩] (.Call (.Name (Str.ofString "hash") ⟨0,0,0,0⟩) [.Constant (.str (Str.ofString "x")) 0 ⟨0,0,0,0⟩] [] ⟨0,0,0,0⟩) ⟨0,0,0,0⟩] } }
local macro_rules | `(tactic| o_head $_) => `(tactic| skip)
theorem K0 (h : OpenRow.Holds { Challenge.rw_to0089_01.row with prog := pK }) : OpenRow.Holds { Challenge.rw_to0089_01.row with prog := pK } := by
 k_head
 exact h
end
end
section
local macro_rules | `(tactic| omega) => dy "w0" #[]
namespace E
section
set_option maxRecDepth 100000
set_option maxHeartbeats 8000000
section
def Ev {α : Type} (PP : Program) (w : World) (c : Code) (m : Sem α) (s : Shared) (p : Pos) (n : Nat) (a : α) (s' : Shared) (p' : Pos) : Prop :=
 ∀ (K : α → Sem Fin) (H : Value → Sem Fin) (gd : Bool → Bool) (lv : List Value → List Value), ∃ k, k ≤ n ∧
  segGo treeTable PP w 28 (some (Value.ref 6)) 1 k s ⟨m.wrap K H gd lv, c, p, [topFrame ⟨0, 0, 0, 0⟩]⟩ = some (s', ⟨K a, c, p', [topFrame ⟨0, 0, 0, 0⟩]⟩)
theorem segGo_add {tb : String → Option Builtin} {p : Program} {w : World} {n₀ : Nat} {ann : Option Value} {b : Nat} : ∀ {n N : Nat} {s s' s'' : Shared} {t t' t'' : Thread}, segGo tb p w n₀ ann b n s t = some (s', t') →
  segGo tb p w n₀ ann b N s' t' = some (s'', t'') → segGo tb p w n₀ ann b (n + N) s t = some (s'', t'')
 | 0, N, s, s', s'', t, t', t'', h, k => by
  obtain ⟨rfl, rfl⟩ : s = s' ∧ t = t' := by simpa [segGo] using h
  rw [Nat.zero_add]; exact k
 | n + 1, N, s, s', s'', t, t', t'', h, k => by
  rw [show n + 1 + N = n + N + 1 by omega]
  unfold segGo at h ⊢
  cases he : endAt b t with
  | some f => rw [he] at h; cases h
  | none =>
   rw [he] at h
   cases hk : stepOk n₀ ann t with
   | false => rw [hk] at h; cases h
   | true =>
    rw [hk] at h
    cases hs : step (denote tb) p w s t with
    | halt o s₂ => rw [hs] at h; cases h
    | go s₂ t₂ => rw [hs] at h; exact segGo_add h k
variable {α β : Type} {PP : Program} {w : World} {c : Code} {s s₁ s₂ : Shared} {p p₁ p₂ : Pos} {n n₁ : Nat} {a : α} {b : β}
theorem Ev.pure : Ev PP w c (Pure.pure a) s p 0 a s p := fun K H gd lv => ⟨0, Nat.le_refl _, rfl⟩
theorem Ev.mono {m : Sem α} (h : Ev PP w c m s p n a s₁ p₁) (hn : n ≤ n₁) : Ev PP w c m s p n₁ a s₁ p₁ := fun K H gd lv => by
 obtain ⟨k, hk, e⟩ := h K H gd lv
 exact ⟨k, Nat.le_trans hk hn, e⟩
theorem Ev.bind {m : Sem α} {f : α → Sem β} (h : Ev PP w c m s p n a s₁ p₁) (g : Ev PP w c (f a) s₁ p₁ n₁ b s₂ p₂) : Ev PP w c (m >>= f) s p (n + n₁) b s₂ p₂ := fun K H gd lv => by
 obtain ⟨k₁, l₁, e₁⟩ := g K H gd lv
 obtain ⟨k, l, e⟩ := h (fun a => (f a).wrap K H gd lv) (fun e => (Sem.raise e : Sem β).wrap K H gd lv) gd lv
 refine ⟨k + k₁, Nat.add_le_add l l₁, ?_⟩
 rw [Sem.bind_eq_wrap', Sem.wrap_wrap]
 exact segGo_add e e₁
theorem Ev.keep {m : Sem α} {vs : List Value} (h : Ev PP w c m s p n a s₁ p₁) : Ev PP w c (m.keep vs) s p n a s₁ p₁ := fun K H gd lv => by
 rw [Sem.keep_eq_wrap, Sem.wrap_wrap]
 exact h _ _ _ _
theorem Ev.holding {m : Sem α} {vs : List Value} (h : Ev PP w c m s p n a s₁ p₁) : Ev PP w c (holding vs m) s p n a s₁ p₁ := by
 unfold PySem.holding
 split
 ·exact h
 ·exact h.keep
theorem Ev.onRaise {m : Sem α} {g : Value → Sem Unit} (h : Ev PP w c m s p n a s₁ p₁) : Ev PP w c (m.onRaise g) s p n a s₁ p₁ := fun K H gd lv => by
 rw [Sem.onRaise_eq_wrap, Sem.wrap_wrap]
 exact h _ _ _ _
theorem Ev.of_eq {m m' : Sem α} (e : m = m') (h : Ev PP w c m' s p n a s₁ p₁) : Ev PP w c m s p n a s₁ p₁ := e ▸ h
theorem Ev.rule {tag : String} : Ev PP w c (PySem.rule tag) s p 1 () s p := fun K H gd lv => ⟨1, Nat.le_refl _, rfl⟩
theorem Ev.standAt {q : Pos} : Ev PP w c (PySem.standAt q) s p 1 () s q := fun K H gd lv => ⟨1, Nat.le_refl _, rfl⟩
theorem Ev.point : Ev PP w c PySem.point s p 1 () s p := fun K H gd lv => ⟨1, Nat.le_refl _, rfl⟩
theorem Ev.fresh : Ev PP w c PySem.fresh s p 1 s.toks { s with toks := s.toks + 1 } p := fun K H gd lv => ⟨1, Nat.le_refl _, rfl⟩
theorem Ev.alloc {o : Obj} : Ev PP w c (PySem.alloc o) s p 1 s.heap.objs.size { s with heap := s.heap.push o } p := fun K H gd lv => ⟨1, Nat.le_refl _, rfl⟩
theorem Ev.ask : Ev PP w c PySem.ask s p 1 ⟨PP, w.params⟩ s p := fun K H gd lv => ⟨1, Nat.le_refl _, rfl⟩
theorem Ev.loadPart {d : Addr} {part : Option Value} {o : Obj} (h : s.heap.get? d = some o) : Ev PP w c (PySem.loadPart d part) s p 1 o s p := fun K H gd lv => ⟨1, Nat.le_refl _, by
 obtain ⟨heap, gens, drawn, toks, os⟩ := s
 show (match step (denote treeTable) PP w _ _ with | .go s' t' => _ | .halt _ _ => none) = _
 simp only [step, PySem.loadPart, Sem.wrap]
 dsimp only at h
 rw [h]
 rfl⟩
theorem Ev.updatePart {d : Addr} {part : Option Value} {f : Obj → Obj} {o : Obj} (h : s.heap.get? d = some o) (hd : 28 ≤ d) : Ev PP w c (PySem.updatePart d part f) s p 1 () { s with heap := s.heap.update d f } p := fun K H gd lv => ⟨1, Nat.le_refl _, by
 obtain ⟨heap, gens, drawn, toks, os⟩ := s
 dsimp only at h
 have hok : (Nat.ble 28 d || d == mainNs || d == cStatics || some (Value.ref 6) == some (.ref d)) = true := by
  rw [Nat.ble_eq_true_of_le hd]; rfl
 show (match stepOk 28 (some (Value.ref 6)) _ with | false => none | true => _) = _
 have hs : stepOk 28 (some (Value.ref 6)) ⟨(PySem.updatePart d part f).wrap K H gd lv, c, p, [topFrame ⟨0, 0, 0, 0⟩]⟩ = true := by
  show (true && _) = true
  rw [Bool.true_and]; exact hok
 rw [hs]
 simp only [step, PySem.updatePart, Sem.wrap]
 rw [h]
 rfl⟩
end
end
section
set_option maxRecDepth 100000
set_option maxHeartbeats 8000000
noncomputable def runHash (PP : Program) (n : Nat) (w : World) (c : Code) (k : Int) (t : Tok) (heap : Heap) (gens : Array GenState) (drawn : Drawn) (toks : Nat) (os : OsState) (p : Pos) (K : Int → Sem Fin) (H : Value → Sem Fin) (gd : Bool → Bool) (lv : List Value → List Value) : Option (Shared × Thread) :=
 segGo treeTable PP w 28 (some (Value.ref 6)) 1 n ⟨heap, gens, drawn, toks, os⟩ ⟨(pyHash (.int k t)).wrap K H gd lv, c, p, [topFrame ⟨0, 0, 0, 0⟩]⟩
theorem runHash_self : @runHash = @runHash := rfl
name_quick rH for Mine.Internal.E.runHash by Mine.Internal.E.runHash_self
noncomputable def resHash (k : Int) (c : Code) (heap : Heap) (gens : Array GenState) (drawn : Drawn) (toks : Nat) (os : OsState) (p : Pos) (K : Int → Sem Fin) (H : Value → Sem Fin) (gd : Bool → Bool) (lv : List Value → List Value) : Option (Shared × Thread) :=
 some (⟨heap, gens, drawn, toks + 1, os⟩, ⟨(pyHashByItsType.reduced (rawHash k)).wrap K H gd lv, c, p, [topFrame ⟨0, 0, 0, 0⟩]⟩)
theorem resHash_self : @resHash = @resHash := rfl
name_quick rHr for Mine.Internal.E.resHash by Mine.Internal.E.resHash_self
theorem hfalse (PP w c k t heap gens drawn toks os p K H gd lv) : PySem.W.Fast.rH PP 5 (World.withFollow w "special-get-raises" false) c k t heap gens drawn toks os p K H gd lv = PySem.W.Fast.rHr k c heap gens drawn toks os p K H gd lv := by kernel_rfl
theorem htrue (PP w c k t heap gens drawn toks os p K H gd lv) : PySem.W.Fast.rH PP 5 (World.withFollow w "special-get-raises" true) c k t heap gens drawn toks os p K H gd lv = PySem.W.Fast.rHr k c heap gens drawn toks os p K H gd lv := by kernel_rfl
theorem hashRun (PP : Program) (w : World) : ∀ c k t heap gens drawn toks os p K H gd lv, runHash PP 5 w c k t heap gens drawn toks os p K H gd lv = resHash k c heap gens drawn toks os p K H gd lv := by
 rw [PySem.W.Fast.rH_eq, PySem.W.Fast.rHr_eq]
 exact byRow2 (P := fun w => ∀ c k t heap gens drawn toks os p K H gd lv, PySem.W.Fast.rH PP 5 w c k t heap gens drawn toks os p K H gd lv = PySem.W.Fast.rHr k c heap gens drawn toks os p K H gd lv) "special-get-raises" (fun w => hfalse PP w) (fun w => htrue PP w) w
theorem reduced_raw (k : Int) : pyHashByItsType.reduced (rawHash k) = Pure.pure (hashInt k) := by
 have hr := rawHash_range k
 show (if (decide (-(2 : Int) ^ 63 ≤ rawHash k) && decide (rawHash k < 2 ^ 63)) = true then _ else _) = _
 rw [if_pos (by rw [decide_eq_true hr.1, decide_eq_true hr.2]; rfl)]
 rfl
theorem Ev.hash {PP : Program} {w : World} {c : Code} {s : Shared} {p : Pos} {k : Int} {t : Tok} : Ev PP w c (pyHash (.int k t)) s p 5 (hashInt k) { s with toks := s.toks + 1 } p := fun K H gd lv => ⟨5, Nat.le_refl _, by
 obtain ⟨heap, gens, drawn, toks, os⟩ := s
 refine (hashRun PP w c k t heap gens drawn toks os p K H gd lv).trans ?_
 unfold resHash
 rw [reduced_raw]
 rfl⟩
end
section
set_option maxRecDepth 100000
set_option maxHeartbeats 8000000
section
noncomputable def dO (es : List DictEntry) (n : Nat) : Obj := ⟨.type "dict", none, .dict es.toArray n, #[]⟩
variable {PP : Program} {w : World} {c : Code} {s : Shared} {p : Pos} {d : Addr} {es : List DictEntry} {ep : Nat}
theorem Ev.entries {part : Option Value} (h : s.heap.get? d = some (dO es ep)) : Ev PP w c (dictEntries d part) s p 1 es.toArray s p := by
 unfold dictEntries
 refine Ev.bind (n := 1) (n₁ := 0) (Ev.loadPart h) ?_
 exact Ev.pure
theorem Ev.epoch {part : Option Value} (h : s.heap.get? d = some (dO es ep)) : Ev PP w c (dictEpoch d part) s p 1 ep s p := by
 unfold dictEpoch
 refine Ev.bind (n := 1) (n₁ := 0) (Ev.loadPart h) ?_
 exact Ev.pure
theorem Ev.updKeys {part : Option Value} {e : DictEntry} (h : s.heap.get? d = some (dO es ep)) (hd : 28 ≤ d)
  (h' : (s.heap.update d (Obj.mapDictKeys (·.push e))).get? d = some (dO (es ++ [e]) (ep + 1))) (hs : es.length < 1000) :
  Ev PP w c (updateDictKeys d (·.push e) part) s p 3 () { s with heap := s.heap.update d (Obj.mapDictKeys (·.push e)) } p := by
 unfold updateDictKeys
 refine Ev.bind (n := 1) (n₁ := 2) (Ev.loadPart h) ?_
 show Ev PP w c (PySem.updatePart d part _ >>= fun _ => lookBehind d part) _ _ _ _ _ _
 refine Ev.bind (n := 1) (n₁ := 1) (Ev.updatePart h hd) ?_
 unfold lookBehind
 refine Ev.bind (n := 1) (n₁ := 0) (Ev.loadPart h') ?_
 have hz : (dO (es ++ [e]) (ep + 1)).data.pastItsLine = none := by
  have : ¬ (es.length + 1 > sizeLine + 1) := by have : sizeLine = 16777216 := rfl; omega
  exact if_neg (by simpa using this)
 rw [hz]
 exact Ev.pure
theorem noPlaces {h : Int} (hlt : ∀ e ∈ es, e.hash < h) : placesWithHash es.toArray.size (fun i => es.toArray[i]?.map (·.hash)) h = [] := by
 unfold placesWithHash
 rw [List.filter_eq_nil_iff]
 intro i hi
 have hi' : i < es.length := by simpa using hi
 have : es[i]?.map (·.hash) = some es[i].hash := by simp [hi']
 simp only [List.getElem?_toArray, this, beq_iff_eq, Option.some.injEq]
 have := hlt es[i] (List.getElem_mem hi')
 omega
theorem Ev.find {k : Int} {t : Tok} {h : Int} (hg : s.heap.get? d = some (dO es ep)) (hlt : ∀ e ∈ es, e.hash < h) : Ev PP w c (dictFind d (.int k t) h) s p 1 none s p := by
 unfold dictFind
 refine Ev.holding ?_
 refine Ev.bind (n := 1) (n₁ := 0) (Ev.entries hg) ?_
 dsimp only
 rw [noPlaces hlt]
 exact Ev.pure
theorem Ev.put {k : Int} {t : Tok} {h : Int} {v : Value} (hg : s.heap.get? d = some (dO es ep)) (hd : 28 ≤ d) (hlt : ∀ e ∈ es, e.hash < h)
  (h' : (s.heap.update d (Obj.mapDictKeys (·.push ⟨h, .int k t, v⟩))).get? d = some (dO (es ++ [⟨h, .int k t, v⟩]) (ep + 1))) (hs : es.length < 1000) :
  Ev PP w c (dictPut d h (.int k t) v) s p 4 () { s with heap := s.heap.update d (Obj.mapDictKeys (·.push ⟨h, .int k t, v⟩)) } p := by
 unfold dictPut
 exact Ev.bind (n := 1) (n₁ := 3) (Ev.find hg hlt) (Ev.updKeys hg hd h' hs)
theorem Ev.set {k : Int} {t : Tok} {v : Value} (hg : s.heap.get? d = some (dO es ep)) (hd : 28 ≤ d) (hlt : ∀ e ∈ es, e.hash < hashInt k)
  (h' : (s.heap.update d (Obj.mapDictKeys (·.push ⟨hashInt k, .int k t, v⟩))).get? d = some (dO (es ++ [⟨hashInt k, .int k t, v⟩]) (ep + 1))) (hs : es.length < 1000) :
  Ev PP w c (dictSet d (.int k t) v) s p 10 () { s with heap := s.heap.update d (Obj.mapDictKeys (·.push ⟨hashInt k, .int k t, v⟩)), toks := s.toks + 1 } p := by
 unfold dictSet
 refine Ev.holding ?_
 refine Ev.bind (n := 5) (n₁ := 5) Ev.hash ?_
 unfold dictSetHashed
 refine Ev.holding ?_
 refine Ev.bind (n := 1) (n₁ := 4) (Ev.find (s := { s with toks := s.toks + 1 }) hg hlt) ?_
 refine Ev.bind (n := 1) (n₁ := 3) Ev.rule ?_
 exact Ev.updKeys (s := { s with toks := s.toks + 1 }) hg hd h' hs
end
section
noncomputable def L (h : Heap) (os : List Obj) : Heap := ⟨h.objs ++ os.toArray, h.life⟩
theorem L_nil (h : Heap) : L h [] = h := by cases h; simp [L]
theorem L_push (h : Heap) (os : List Obj) (o : Obj) : (L h os).push o = L h (os ++ [o]) := by
 simp [L, Heap.push]
theorem L_size (h : Heap) (os : List Obj) : (L h os).objs.size = h.objs.size + os.length := by simp [L]
theorem L_update (h : Heap) (os : List Obj) (i : Nat) (f : Obj → Obj) : (L h os).update (h.objs.size + i) f = L h (os.modify i f) := by
 simp only [L, Heap.update, Heap.mk.injEq, and_true]
 apply Array.ext
 ·simp
 ·intro j h1 h2
  simp only [Array.getElem_modify, Array.getElem_append, List.getElem_toArray, List.getElem_modify]
  split <;> split <;> first | rfl | (split <;> first | rfl | omega | (exfalso; omega)) | omega
theorem L_get (h : Heap) (os : List Obj) (i : Nat) {es : List DictEntry} {ep : Nat} (hi : os[i]? = some (dO es ep)) : (L h os).get? (h.objs.size + i) = some (dO es ep) := by
 have : (L h os).objs[h.objs.size + i]? = some (dO es ep) := by
  simp only [L]
  rw [Array.getElem?_append_right (by omega)]
  simpa using hi
 unfold Heap.get?
 rw [this]
 rfl
end
end
section
set_option maxRecDepth 100000
set_option maxHeartbeats 8000000
section
variable {PP : Program} {w : World} {c : Code} {p : Pos}
theorem modify_last : ∀ (os : List Obj) (x : Obj) (f : Obj → Obj), (os ++ [x]).modify os.length f = os ++ [f x]
 | [], x, f => rfl
 | o :: os, x, f => by
  show (o :: (os ++ [x])).modify (os.length + 1) f = _
  rw [List.modify_succ_cons, modify_last os x f]
  rfl
theorem dO_push (es : List DictEntry) (n : Nat) (e : DictEntry) : Obj.mapDictKeys (·.push e) (dO es n) = dO (es ++ [e]) (n + 1) := by
 simp [dO, Obj.mapDictKeys]
theorem Ev.cast {α : Type} {m : Sem α} {s s₁ s₂ : Shared} {n : Nat} {a : α} (h : Ev PP w c m s p n a s₁ p) (e : s₁ = s₂) : Ev PP w c m s p n a s₂ p := e ▸ h
theorem Ev.forIn {β : Type} {body : β → PUnit → Sem (ForInStep PUnit)} {b : Nat} (S : Nat → Shared) : ∀ (l : List β) (j : Nat),
  (∀ i (hi : i < l.length), Ev PP w c (body l[i] PUnit.unit) (S (j + i)) p b (ForInStep.yield PUnit.unit) (S (j + i + 1)) p) →
  Ev PP w c (ForIn.forIn l PUnit.unit body) (S j) p (b * l.length) PUnit.unit (S (j + l.length)) p
 | [], j, _ => by rw [List.forIn_nil]; exact Ev.pure
 | x :: r, j, h => by
  rw [List.forIn_cons]
  have h0 := h 0 (by simp)
  have hr := Ev.forIn S r (j + 1) (fun i hi => by
   have := h (i + 1) (by simpa using hi)
   rw [show j + 1 + i = j + (i + 1) by omega]
   simpa using this)
  refine (Ev.bind h0 (n₁ := b * r.length) ?_).mono (by rw [List.length_cons]; rw [Nat.mul_add]; omega)
  rw [List.length_cons, show j + (r.length + 1) = j + 1 + r.length by omega]
  exact hr
noncomputable def ents (st : Nat) : Nat → List (Int × Str) → List DictEntry
 | _, [] => []
 | t, (i, x) :: r => ⟨i, .int i t, .str x (t + 1)⟩ :: ents st (t + st) r
theorem ents_append {st : Nat} : ∀ (a b : List (Int × Str)) (t : Nat), ents st t (a ++ b) = ents st t a ++ ents st (t + st * a.length) b
 | [], b, t => by simp [ents]
 | (i, x) :: a, b, t => by
  simp only [List.cons_append, ents, ents_append a b, List.length_cons]
  rw [show t + st + st * a.length = t + st * (a.length + 1) by rw [Nat.mul_add]; omega]
theorem ents_length {st : Nat} : ∀ (a : List (Int × Str)) (t : Nat), (ents st t a).length = a.length
 | [], t => rfl
 | (i, x) :: a, t => by simp [ents, ents_length a]
theorem ents_take {st : Nat} {l : List (Int × Str)} {i : Nat} {t : Nat} (hi : i < l.length) : ents st t (l.take (i + 1)) = ents st t (l.take i) ++ [⟨l[i].1, .int l[i].1 (t + st * i), .str l[i].2 (t + st * i + 1)⟩] := by
 rw [List.take_add_one, List.getElem?_eq_getElem hi]
 show ents st t (l.take i ++ [l[i]]) = _
 rw [ents_append, List.length_take, Nat.min_eq_left (by omega)]
 rfl
theorem ents_hash {st : Nat} : ∀ {a : List (Int × Str)} {t : Nat} {e : DictEntry}, e ∈ ents st t a → ∃ x ∈ a, e.hash = x.1 ∧ ∃ u, e.key = .int x.1 u
 | [], _, _, h => by simp [ents] at h
 | (i, x) :: a, t, e, h => by
  simp only [ents, List.mem_cons] at h
  rcases h with rfl | h
  ·exact ⟨(i, x), by simp, rfl, t, rfl⟩
  ·obtain ⟨y, hy, e⟩ := ents_hash h
   exact ⟨y, by simp [hy], e⟩
abbrev Srt (l : List (Int × Str)) : Prop := l.Pairwise fun a b => a.1 < b.1
theorem Srt.lt {l : List (Int × Str)} (h : Srt l) {i : Nat} (hi : i < l.length) {x : Int × Str} (hx : x ∈ l.take i) : x.1 < l[i].1 := by
 obtain ⟨j, hj, rfl⟩ := List.mem_iff_getElem.mp hx
 rw [List.length_take] at hj
 rw [List.getElem_take]
 exact List.pairwise_iff_getElem.mp h j i (by omega) hi (by omega)
structure Item (PP : Program) (w : World) (c : Code) (p : Pos) (m : Sem Value × Sem Value) (q : Int × Str) : Prop where
 hash : hashInt q.1 = q.1
 key : ∀ s, Ev PP w c m.1 s p 1 (.int q.1 s.toks) { s with toks := s.toks + 1 } p
 val : ∀ s, Ev PP w c m.2 s p 2 (.str q.2 s.toks) { s with toks := s.toks + 1 } p
inductive Items (PP : Program) (w : World) (c : Code) (p : Pos) : List (Sem Value × Sem Value) → List (Int × Str) → Prop
 | nil : Items PP w c p [] []
 | cons {m q ms l} (x : Item PP w c p m q) (r : Items PP w c p ms l) : Items PP w c p (m :: ms) (q :: l)
theorem Items.len {ms l} (h : Items PP w c p ms l) : ms.length = l.length := by
 induction h with
 | nil => rfl
 | cons _ _ ih => simp [ih]
theorem Items.at {ms l} (h : Items PP w c p ms l) : ∀ {i : Nat} (hi : i < ms.length) (hi' : i < l.length), Item PP w c p ms[i] l[i] := by
 induction h with
 | nil => intro i hi; simp at hi
 | cons x _ ih => intro i hi hi'; cases i with
  | zero => exact x
  | succ i => simpa using ih (by simpa using hi) (by simpa using hi')
theorem Ev.subLong {h : Heap} {os : List Obj} {g : Array GenState} {dr : Drawn} {o : OsState} {t : Nat} {ms : List (Sem Value × Sem Value)} {l : List (Int × Str)} (hi : Items PP w c p ms l) (h28 : 28 ≤ h.objs.size) (hl : 15 < ms.length) (hl' : l.length < 900) (srt : Srt l) :
  Ev PP w c (subDict ms) ⟨L h os, g, dr, t, o⟩ p (2 + 13 * l.length) (h.objs.size + os.length) ⟨L h (os ++ [dO (ents 3 t l) l.length]), g, dr, t + 3 * l.length, o⟩ p := by
 unfold subDict
 refine (Ev.bind (n := 1) (n₁ := 1 + 13 * l.length) Ev.alloc ?_).mono (by omega)
 dsimp only
 rw [L_push, L_size]
 refine Ev.bind (n := 1 + 13 * l.length) (n₁ := 0) (a := ()) (Ev.holding ?_) Ev.pure
 rw [if_neg (by omega)]
 refine Ev.bind (n := 1) (n₁ := 13 * l.length) Ev.rule ?_
 refine Ev.bind (n := 13 * l.length) (n₁ := 0) (a := PUnit.unit) ?_ Ev.pure
 have loop := Ev.forIn (PP := PP) (w := w) (c := c) (p := p) (b := 13) (fun i => ⟨L h (os ++ [dO (ents 3 t (l.take i)) i]), g, dr, t + 3 * i, o⟩) ms 0
  (body := fun x __s => do
     let kv ← x.fst
     let vv ← PySem.holding [kv] x.snd
     PySem.holding [kv, vv] (dictSet (h.objs.size + os.length) kv vv)
     Pure.pure (ForInStep.yield PUnit.unit)) (fun i him => by
   have hil : i < l.length := hi.len ▸ him
   have it := hi.at him hil
   rw [Nat.zero_add]
   refine Ev.bind (n := 1) (n₁ := 12) (it.key _) ?_
   refine Ev.bind (n := 2) (n₁ := 10) (Ev.holding (it.val _)) ?_
   refine Ev.bind (n := 10) (n₁ := 0) (a := ()) (Ev.holding ?_) Ev.pure
   dsimp only
   have et := ents_take (st := 3) (t := t) hil
   have hlast : ∀ (x : Obj), (os ++ [x])[os.length]? = some x := fun x => by simp
   have hmod := modify_last os
   refine (Ev.set (d := h.objs.size + os.length) (es := ents 3 t (l.take i)) (ep := i) (L_get _ _ _ (hlast _)) (Nat.le_trans h28 (Nat.le_add_right _ _)) (fun e he => ?_) ?_ ?_).cast ?_
   ·obtain ⟨x, hx, e1, _⟩ := ents_hash he
    rw [e1, it.hash]
    exact srt.lt hil hx
   ·dsimp only
    rw [L_update, hmod, dO_push]
    exact L_get _ _ _ (hlast _)
   ·rw [ents_length, List.length_take]; omega
   ·dsimp only
    rw [L_update, hmod, dO_push, et, it.hash, show t + 3 * i + 1 + 1 + 1 = t + 3 * (i + 1) by omega])
 rw [Nat.zero_add, hi.len, List.take_length] at loop
 exact loop
theorem ents_srt {st : Nat} : ∀ {l : List (Int × Str)} {t : Nat}, Srt l → (ents st t l).Pairwise fun a b => a.hash < b.hash
 | [], t, _ => by simp [ents]
 | (i, x) :: a, t, h => by
  simp only [ents, List.pairwise_cons] at h ⊢
  refine ⟨fun e he => ?_, ents_srt h.2⟩
  obtain ⟨y, hy, e, _⟩ := ents_hash he
  rw [e]; exact h.1 y hy
noncomputable def vals : Nat → List (Int × Str) → List (Value × Value)
 | _, [] => []
 | t, (i, x) :: r => (.int i t, .str x (t + 1)) :: vals (t + 2) r
theorem vals_length : ∀ (a : List (Int × Str)) (t : Nat), (vals t a).length = a.length
 | [], t => rfl
 | (i, x) :: a, t => by simp [vals, vals_length a]
theorem vals_at : ∀ (a : List (Int × Str)) (t i : Nat) (h : i < (vals t a).length) (h' : i < a.length), (vals t a)[i] = (.int a[i].1 (t + 2 * i), .str a[i].2 (t + 2 * i + 1))
 | (k, x) :: a, t, 0, h, h' => by simp [vals]
 | (k, x) :: a, t, i + 1, h, h' => by
  simp only [vals, List.getElem_cons_succ]
  rw [vals_at a (t + 2) i _ (by simpa using h'), show t + 2 + 2 * i = t + 2 * (i + 1) by omega]
theorem Ev.pairs {H : Heap} {g : Array GenState} {dr : Drawn} {o : OsState} {ms : List (Sem Value × Sem Value)} {l : List (Int × Str)} {t : Nat} (h : Items PP w c p ms l) :
  Ev PP w c (evalPairs ms) ⟨H, g, dr, t, o⟩ p (3 * l.length) (vals t l) ⟨H, g, dr, t + 2 * l.length, o⟩ p := by
 induction h generalizing t with
 | nil => unfold evalPairs; exact Ev.pure
 | @cons m q ms l it r ih =>
  have ih := @ih (t + 2)
  unfold evalPairs
  refine (Ev.bind (n := 1) (n₁ := 2 + 3 * l.length) (it.key _) ?_).mono (by rw [List.length_cons]; omega)
  refine Ev.bind (n := 2) (n₁ := 3 * l.length) (Ev.holding (it.val _)) ?_
  rw [show t + 2 + 2 * l.length = t + 2 * (l.length + 1) by omega] at ih
  exact Ev.bind (n := 3 * l.length) (n₁ := 0) (Ev.holding ih) Ev.pure
theorem Ev.subShort {h : Heap} {os : List Obj} {g : Array GenState} {dr : Drawn} {o : OsState} {t : Nat} {ms : List (Sem Value × Sem Value)} {l : List (Int × Str)} (hi : Items PP w c p ms l) (h28 : 28 ≤ h.objs.size) (hl : ms.length ≤ 15) (srt : Srt l) :
  Ev PP w c (subDict ms) ⟨L h os, g, dr, t, o⟩ p (1 + 13 * l.length) (h.objs.size + os.length) ⟨L h (os ++ [dO (ents 2 t l) l.length]), g, dr, t + 3 * l.length, o⟩ p := by
 unfold subDict
 refine (Ev.bind (n := 1) (n₁ := 13 * l.length) Ev.alloc ?_).mono (by omega)
 dsimp only
 rw [L_push, L_size]
 refine Ev.bind (n := 13 * l.length) (n₁ := 0) (a := ()) (Ev.holding ?_) Ev.pure
 rw [if_pos hl]
 refine (Ev.bind (n := 3 * l.length) (n₁ := 10 * l.length) (Ev.pairs hi) ?_).mono (by omega)
 refine Ev.holding ?_
 refine Ev.bind (n := 10 * l.length) (n₁ := 0) (a := PUnit.unit) ?_ Ev.pure
 have hlen := hi.len
 have loop := Ev.forIn (PP := PP) (w := w) (c := c) (p := p) (b := 10) (fun i => ⟨L h (os ++ [dO (ents 2 t (l.take i)) i]), g, dr, t + 2 * l.length + i, o⟩) (vals t l) 0
  (body := fun x __s => do
     dictSet (h.objs.size + os.length) x.fst x.snd
     Pure.pure (ForInStep.yield PUnit.unit)) (fun i him => by
   have hil : i < l.length := by rw [vals_length] at him; exact him
   have it := hi.at (hlen.symm ▸ hil) hil
   rw [Nat.zero_add, vals_at l t i him hil]
   refine Ev.bind (n := 10) (n₁ := 0) (a := ()) ?_ Ev.pure
   have et := ents_take (st := 2) (t := t) hil
   have hlast : ∀ (x : Obj), (os ++ [x])[os.length]? = some x := fun x => by simp
   have hmod := modify_last os
   refine (Ev.set (d := h.objs.size + os.length) (es := ents 2 t (l.take i)) (ep := i) (L_get _ _ _ (hlast _)) (Nat.le_trans h28 (Nat.le_add_right _ _)) (fun e he => ?_) ?_ ?_).cast ?_
   ·obtain ⟨x, hx, e1, _⟩ := ents_hash he
    rw [e1, it.hash]
    exact srt.lt hil hx
   ·dsimp only
    rw [L_update, hmod, dO_push]
    exact L_get _ _ _ (hlast _)
   ·rw [ents_length, List.length_take]; omega
   ·dsimp only
    rw [L_update, hmod, dO_push, et, it.hash, show t + 2 * l.length + i + 1 = t + 2 * l.length + (i + 1) by omega])
 rw [Nat.zero_add, vals_length, List.take_length, show t + 2 * l.length + l.length = t + 3 * l.length by omega] at loop
 exact loop
end
end
section
set_option maxRecDepth 100000
set_option maxHeartbeats 8000000
section
variable {PP : Program} {w : World} {c : Code} {p : Pos}
theorem Ev.merge {h : Heap} {gs : List Obj} {g : Array GenState} {dr : Drawn} {o : OsState} {t j sn ep : Nat} {es se : List DictEntry} (h28 : 28 ≤ h.objs.size) (hj : gs[j]? = some (dO se sn)) (hne : es ≠ [])
  (hk : ∀ e ∈ se, ∃ k u, e.key = .int k u) (hb : ∀ e ∈ es, ∀ x ∈ se, e.hash < x.hash) (hs : se.Pairwise fun a b => a.hash < b.hash) (hl : es.length + se.length < 900) :
  Ev PP w c (mergeMapping h.objs.size (.ref (h.objs.size + (j + 1))) false) ⟨L h (dO es ep :: gs), g, dr, t, o⟩ p (6 + 8 * se.length) () ⟨L h (dO (es ++ se) (ep + se.length) :: gs), g, dr, t, o⟩ p := by
 have hm : ∀ es ep, (L h (dO es ep :: gs)).get? h.objs.size = some (dO es ep) := fun es ep => L_get h (dO es ep :: gs) 0 rfl
 have hsub : ∀ es ep, (L h (dO es ep :: gs)).get? (h.objs.size + (j + 1)) = some (dO se sn) := fun es ep => L_get h (dO es ep :: gs) (j + 1) hj
 unfold mergeMapping
 refine (Ev.bind (n := 1) (n₁ := 5 + 8 * se.length) (a := true) (s₁ := ⟨L h (dO es ep :: gs), g, dr, t, o⟩) (p₁ := p) ?_ ?_).mono (by omega)
 ·unfold isInstance typeOf
  exact Ev.bind (n := 1) (n₁ := 0) (a := Value.type "dict") (Ev.bind (n := 1) (n₁ := 0) (Ev.loadPart (hsub _ _)) Ev.pure) (Ev.of_eq isSubtype_dict_dict Ev.pure)
 dsimp only
 rw [if_pos rfl]
 refine (Ev.bind (n := 1) (n₁ := 4 + 8 * se.length) (a := some (Value.builtin "dict.__iter__")) (s₁ := ⟨L h (dO es ep :: gs), g, dr, t, o⟩) (p₁ := p) ?_ ?_).mono (by omega)
 ·unfold specialOf typeOf
  exact Ev.bind (n := 1) (n₁ := 0) (a := Value.type "dict") (Ev.bind (n := 1) (n₁ := 0) (Ev.loadPart (hsub _ _)) Ev.pure) (Ev.of_eq F.slot_dict_iter.lookup Ev.pure)
 refine (Ev.bind (n := 0) (n₁ := 4 + 8 * se.length) Ev.pure ?_).mono (by omega)
 rw [beq_self_eq_true]
 dsimp only
 have hsm : ¬ ((h.objs.size + (j + 1) == sysModules) = true) := by
  have : sysModules = 1 := rfl
  rw [this, beq_iff_eq]; omega
 rw [if_neg hsm]
 refine (Ev.bind (n := 1) (n₁ := 3 + 8 * se.length) (Ev.entries (hm _ _)) ?_).mono (by omega)
 have hnem : ¬ (es.toArray.isEmpty = true) := by simpa using hne
 rw [if_neg hnem]
 refine (Ev.bind (n := 1) (n₁ := 2 + 8 * se.length) (Ev.entries (hsub _ _)) ?_).mono (by omega)
 refine (Ev.bind (n := 1) (n₁ := 1 + 8 * se.length) (Ev.epoch (hsub _ _)) ?_).mono (by omega)
 refine (Ev.bind (n := 8 * se.length) (n₁ := 0) (a := PUnit.unit) (s₁ := ⟨L h (dO (es ++ se) (ep + se.length) :: gs), g, dr, t, o⟩) (p₁ := p) ?_ Ev.pure).mono (by omega)
 have loop := fun body hb => Ev.forIn (PP := PP) (w := w) (c := c) (p := p) (b := 8) (fun i => ⟨L h (dO (es ++ se.take i) (ep + i) :: gs), g, dr, t, o⟩) (List.range se.length) 0 (body := body) hb
 simp only [List.length_range, Nat.zero_add, List.take_zero, List.append_nil, Nat.add_zero, List.take_length] at loop
 refine loop _ fun i hi => ?_
 simp only [List.getElem_range]
 refine (Ev.bind (n := 1) (n₁ := 7) (Ev.entries (hsub _ _)) ?_).mono (by omega)
 have hget : se.toArray[i]? = some se[i] := by simp [hi]
 rw [hget]
 dsimp only
 have hmem : se[i] ∈ se := List.getElem_mem hi
 obtain ⟨k, u, hku⟩ := hk _ hmem
 refine (Ev.bind (n := 4) (n₁ := 1) (a := ()) (s₁ := ⟨L h (dO (es ++ se.take (i + 1)) (ep + (i + 1)) :: gs), g, dr, t, o⟩) (p₁ := p) (Ev.holding ?_) ?_).mono (by omega)
 ·rw [if_neg (by decide), hku]
  have het : es ++ se.take (i + 1) = (es ++ se.take i) ++ [⟨se[i].hash, .int k u, se[i].val⟩] := by
   rw [List.take_add_one, List.getElem?_eq_getElem hi, ← hku, List.append_assoc]
   rfl
  refine (Ev.put (d := h.objs.size) (es := es ++ se.take i) (ep := ep + i) (hm _ _) h28 (fun e he => ?_) ?_ ?_).cast ?_
  ·rcases List.mem_append.mp he with he | he
   ·exact hb e he _ hmem
   ·obtain ⟨q, hq, rfl⟩ := List.mem_iff_getElem.mp he
    rw [List.length_take] at hq
    rw [List.getElem_take]
    exact List.pairwise_iff_getElem.mp hs q i (by omega) hi (by omega)
  ·dsimp only
   have := L_update h (dO (es ++ se.take i) (ep + i) :: gs) 0 (Obj.mapDictKeys (·.push ⟨se[i].hash, .int k u, se[i].val⟩))
   rw [Nat.add_zero] at this
   rw [this]
   show (L h (Obj.mapDictKeys _ (dO _ _) :: gs)).get? _ = _
   rw [dO_push]
   exact hm _ _
  ·rw [List.length_append, List.length_take]; omega
  ·dsimp only
   have := L_update h (dO (es ++ se.take i) (ep + i) :: gs) 0 (Obj.mapDictKeys (·.push ⟨se[i].hash, .int k u, se[i].val⟩))
   rw [Nat.add_zero] at this
   rw [this, het]
   show (⟨L h (Obj.mapDictKeys _ (dO _ _) :: gs), _, _, _, _⟩ : Shared) = _
   rw [dO_push]
   rfl
 ·refine (Ev.bind (n := 1) (n₁ := 0) (Ev.epoch (hsub _ _)) ?_).mono (by omega)
  rw [if_neg (by simp)]
  exact Ev.pure
end
end
section
set_option maxRecDepth 100000
set_option maxHeartbeats 8000000
section
variable {PP : Program} {w : World} {c : Code} {p : Pos}
theorem Items.split {a b : List (Sem Value × Sem Value)} {l : List (Int × Str)} (h : Items PP w c p (a ++ b) l) : Items PP w c p a (l.take a.length) ∧ Items PP w c p b (l.drop a.length) := by
 induction a generalizing l with
 | nil => exact ⟨.nil, h⟩
 | cons x a ih =>
  cases h with
  | cons it r =>
   obtain ⟨u, v⟩ := ih r
   exact ⟨.cons it u, v⟩
noncomputable abbrev Jn : Sem Value × Sem Value → Option (Sem Value) × Sem Value := fun q => (some q.1, q.2)
abbrev LF := Option (Sem Value) × Sem Value → Option Addr × List (Sem Value × Sem Value) → Sem (ForInStep (Option Addr × List (Sem Value × Sem Value)))
theorem gather (f : LF) (hA : ∀ main q run, run.length + 1 < 17 → f (Jn q) (main, run) = Pure.pure (.yield (main, run ++ [q]))) :
  ∀ (c0 run : List (Sem Value × Sem Value)) (q) (rest) (main), run.length + c0.length + 1 ≤ 17 →
   forIn (c0.map Jn ++ (Jn q :: rest)) (main, run) f = (f (Jn q) (main, run ++ c0) >>= fun r => match r with | .done b => Pure.pure b | .yield b => forIn rest b f)
 | [], run, q, rest, main, _ => by
  rw [List.map_nil, List.nil_append, List.forIn_cons, List.append_nil]
  refine bind_congr fun r => ?_
  cases r <;> rfl
 | x :: c0, run, q, rest, main, h => by
  rw [List.map_cons, List.cons_append, List.forIn_cons, hA main x run (by simp at h; omega), pure_bind]
  have := gather f hA c0 (run ++ [x]) q rest main (by simp at h ⊢; omega)
  rw [List.append_assoc, List.singleton_append] at this
  exact this
theorem gatherAll (f : LF) (hA : ∀ main q run, run.length + 1 < 17 → f (Jn q) (main, run) = Pure.pure (.yield (main, run ++ [q]))) :
  ∀ (c0 run : List (Sem Value × Sem Value)) (main), run.length + c0.length < 17 → forIn (c0.map Jn) (main, run) f = Pure.pure (main, run ++ c0)
 | [], run, main, _ => by rw [List.map_nil, List.forIn_nil, List.append_nil]
 | x :: c0, run, main, h => by
  rw [List.map_cons, List.forIn_cons, hA main x run (by simp at h; omega), pure_bind]
  have := gatherAll f hA c0 (run ++ [x]) main (by simp at h ⊢; omega)
  rw [List.append_assoc, List.singleton_append] at this
  exact this
noncomputable def garb (t : Nat) (l : List (Int × Str)) : Nat → List Obj
 | 0 => []
 | n + 1 => dO (ents 3 t (l.take 17)) 17 :: garb (t + 51) (l.drop 17) n
theorem cut17 {γ : Type} {ms : List γ} (h : 17 ≤ ms.length) : ∃ c0 q rest, ms = c0 ++ q :: rest ∧ c0.length = 16 :=
 ⟨ms.take 16, ms[16], ms.drop 17, by rw [List.getElem_cons_drop, List.take_append_drop], by rw [List.length_take]; omega⟩
theorem Srt.take {l : List (Int × Str)} (h : Srt l) (n : Nat) : Srt (l.take n) := h.sublist (List.take_sublist _ _)
theorem Srt.drop {l : List (Int × Str)} (h : Srt l) (n : Nat) : Srt (l.drop n) := h.sublist (List.drop_sublist _ _)
abbrev Below (es : List DictEntry) (l : List (Int × Str)) : Prop := ∀ e ∈ es, ∀ x ∈ l, e.hash < x.1
theorem Ev.chunks {h : Heap} {g : Array GenState} {dr : Drawn} {o : OsState} (f : LF) (hA : ∀ main q run, run.length + 1 < 17 → f (Jn q) (main, run) = Pure.pure (.yield (main, run ++ [q])))
  (hB : ∀ q run l es ep gs t, Items PP w c p (run ++ [q]) l → l.length = 17 → Srt l → es ≠ [] → Below es l → es.length + 17 < 900 →
   Ev PP w c (f (Jn q) (some h.objs.size, run)) ⟨L h (dO es ep :: gs), g, dr, t, o⟩ p 365 (.yield (some h.objs.size, [])) ⟨L h (dO (es ++ ents 3 t l) (ep + 17) :: (gs ++ [dO (ents 3 t l) 17])), g, dr, t + 51, o⟩ p) :
  ∀ (n : Nat) (ms l es ep gs t r), Items PP w c p ms l → l.length = 17 * n + r → r < 17 → Srt l → es ≠ [] → Below es l → es.length + l.length < 900 →
   Ev PP w c (ForIn.forIn (ms.map Jn) (some h.objs.size, []) f) ⟨L h (dO es ep :: gs), g, dr, t, o⟩ p (365 * n) (some h.objs.size, ms.drop (17 * n)) ⟨L h (dO (es ++ ents 3 t (l.take (17 * n))) (ep + 17 * n) :: (gs ++ garb t l n)), g, dr, t + 51 * n, o⟩ p
 | 0, ms, l, es, ep, gs, t, r, hi, hl, hr, hs, hne, hb, hz => by
  rw [gatherAll f hA ms [] _ (by have := hi.len; simp; omega)]
  simp only [Nat.mul_zero, List.take_zero, List.drop_zero, ents, garb, List.append_nil, List.nil_append, Nat.add_zero]
  exact Ev.pure
 | n + 1, ms, l, es, ep, gs, t, r, hi, hl, hr, hs, hne, hb, hz => by
  have hml := hi.len
  obtain ⟨c0, q, rest, rfl, h16⟩ := cut17 (ms := ms) (by omega)
  have hi' : Items PP w c p ((c0 ++ [q]) ++ rest) l := by rw [List.append_assoc]; exact hi
  obtain ⟨i1, i2⟩ := hi'.split
  have h17 : (c0 ++ [q]).length = 17 := by simp [h16]
  rw [h17] at i1 i2
  rw [List.map_append, List.map_cons, gather f hA c0 [] q (rest.map Jn) _ (by simp; omega), List.nil_append]
  have ht : (l.take 17).length = 17 := by rw [List.length_take]; omega
  refine (Ev.bind (n := 365) (n₁ := 365 * n) (hB q c0 (l.take 17) es ep gs t i1 ht (hs.take 17) hne (fun e he x hx => hb e he x (List.mem_of_mem_take hx)) (by omega)) ?_).mono (by omega)
  dsimp only
  have ih := Ev.chunks f hA hB n rest (l.drop 17) (es ++ ents 3 t (l.take 17)) (ep + 17) (gs ++ [dO (ents 3 t (l.take 17)) 17]) (t + 51) r i2 (by rw [List.length_drop]; omega) hr (hs.drop 17) (by simp [hne])
   (fun e he x hx => by
    rcases List.mem_append.mp he with he | he
    ·exact hb e he x (List.mem_of_mem_drop hx)
    ·obtain ⟨y, hy, e1, _⟩ := ents_hash he
     rw [e1]
     have hs' := hs
     rw [← List.take_append_drop 17 l] at hs'
     exact (List.pairwise_append.mp hs').2.2 y hy x hx)
   (by rw [List.length_append, ents_length, ht, List.length_drop]; omega)
  have e1 : (c0 ++ q :: rest).drop (17 * (n + 1)) = rest.drop (17 * n) := by
   rw [show c0 ++ q :: rest = (c0 ++ [q]) ++ rest by simp, List.drop_append, h17, List.drop_eq_nil_of_le (by rw [h17]; omega), List.nil_append, show 17 * (n + 1) - 17 = 17 * n by omega]
  have e2 : l.take (17 * (n + 1)) = l.take 17 ++ (l.drop 17).take (17 * n) := by
   rw [show 17 * (n + 1) = 17 + 17 * n by omega, List.take_add]
  rw [e1, e2, ents_append, ht]
  simp only [garb]
  rw [List.append_assoc] at ih
  rw [List.append_assoc, List.singleton_append] at ih
  rw [show t + 51 * (n + 1) = t + 51 + 51 * n by omega, show ep + 17 * (n + 1) = ep + 17 + 17 * n by omega]
  exact ih
end
end
section
set_option maxRecDepth 100000
set_option maxHeartbeats 8000000
section
variable {PP : Program} {w : World} {c : Code} {p : Pos}
theorem ents_ne {st t : Nat} {l : List (Int × Str)} (h : 0 < l.length) : ents st t l ≠ [] := fun e => by
 have := ents_length (st := st) l t
 rw [e] at this; simp at this; omega
theorem Ev.loop0 {h : Heap} {g : Array GenState} {dr : Drawn} {o : OsState} {t n r : Nat} {c0 rest : List (Sem Value × Sem Value)} {q : Sem Value × Sem Value} {l : List (Int × Str)} (i1 : Items PP w c p (c0 ++ [q]) (l.take 17)) (i2 : Items PP w c p rest (l.drop 17)) (h16 : c0.length = 16)
  (hl : l.length = 17 * (n + 1) + r) (h15 : r ≤ 15) (srt : Srt l) (hz : l.length < 880) (f : LF)
  (hA : ∀ main q run, run.length + 1 < 17 → f (Jn q) (main, run) = Pure.pure (.yield (main, run ++ [q])))
  (hB : ∀ q run l es ep gs t, Items PP w c p (run ++ [q]) l → l.length = 17 → Srt l → es ≠ [] → Below es l → es.length + 17 < 900 →
   Ev PP w c (f (Jn q) (some h.objs.size, run)) ⟨L h (dO es ep :: gs), g, dr, t, o⟩ p 365 (.yield (some h.objs.size, [])) ⟨L h (dO (es ++ ents 3 t l) (ep + 17) :: (gs ++ [dO (ents 3 t l) 17])), g, dr, t + 51, o⟩ p)
  (hC : ∀ q run l t, Items PP w c p (run ++ [q]) l → l.length = 17 → Srt l →
   Ev PP w c (f (Jn q) (none, run)) ⟨L h [], g, dr, t, o⟩ p 365 (.yield (some h.objs.size, [])) ⟨L h [dO (ents 3 t l) 17], g, dr, t + 51, o⟩ p) :
  Ev PP w c (ForIn.forIn ((c0 ++ q :: rest).map Jn) (none, []) f) ⟨L h [], g, dr, t, o⟩ p (365 * (n + 1)) (some h.objs.size, rest.drop (17 * n)) ⟨L h (dO (ents 3 t (l.take (17 * (n + 1)))) (17 * (n + 1)) :: garb (t + 51) (l.drop 17) n), g, dr, t + 51 * (n + 1), o⟩ p := by
 rw [List.map_append, List.map_cons, gather f hA c0 [] q (rest.map Jn) _ (by simp; omega), List.nil_append]
 have ht : (l.take 17).length = 17 := by rw [List.length_take]; omega
 refine (Ev.bind (n := 365) (n₁ := 365 * n) (hC q c0 (l.take 17) t i1 ht (srt.take 17)) ?_).mono (by omega)
 dsimp only
 have ih := Ev.chunks f hA hB n rest (l.drop 17) (ents 3 t (l.take 17)) 17 [] (t + 51) r i2 (by rw [List.length_drop]; omega) (by omega) (srt.drop 17) (ents_ne (by omega))
  (fun e he x hx => by
   obtain ⟨y, hy, e1, _⟩ := ents_hash he
   rw [e1]
   have hs' := srt
   rw [← List.take_append_drop 17 l] at hs'
   exact (List.pairwise_append.mp hs').2.2 y hy x hx)
  (by rw [ents_length, ht, List.length_drop]; omega)
 have e2 : l.take (17 * (n + 1)) = l.take 17 ++ (l.drop 17).take (17 * n) := by
  rw [show 17 * (n + 1) = 17 + 17 * n by omega, List.take_add]
 rw [e2, ents_append, ht, show 17 * (n + 1) = 17 + 17 * n by omega, show t + 51 * (n + 1) = t + 51 + 51 * n by omega]
 exact ih
theorem Ev.display {h : Heap} {g : Array GenState} {dr : Drawn} {o : OsState} {t n r : Nat} {ms : List (Sem Value × Sem Value)} {l : List (Int × Str)} (hi : Items PP w c p ms l) (hl : l.length = 17 * (n + 1) + r) (h0 : 0 < r) (h15 : r ≤ 15) (srt : Srt l)
  (hz : l.length < 880) (h28 : 28 ≤ h.objs.size) :
  Ev PP w c (dictDisplay (ms.map Jn)) ⟨h, g, dr, t, o⟩ p (365 * (n + 1) + 21 * r + 10) (.ref h.objs.size) ⟨L h (dO (ents 3 t (l.take (17 * (n + 1))) ++ ents 2 (t + 51 * (n + 1)) (l.drop (17 * (n + 1)))) l.length :: (garb (t + 51) (l.drop 17) n ++ [dO (ents 2 (t + 51 * (n + 1)) (l.drop (17 * (n + 1)))) r])), g, dr, t + 3 * l.length, o⟩ p := by
 have hml := hi.len
 obtain ⟨c0, q, rest, rfl, h16⟩ := cut17 (ms := ms) (by omega)
 have hi' : Items PP w c p ((c0 ++ [q]) ++ rest) l := by rw [List.append_assoc]; exact hi
 obtain ⟨i1, i2⟩ := hi'.split
 have h17 : (c0 ++ [q]).length = 17 := by simp [h16]
 rw [h17] at i1 i2
 have L0 : h = L h [] := (L_nil h).symm
 have e0 : (⟨h, g, dr, t, o⟩ : Shared) = ⟨L h [], g, dr, t, o⟩ := by rw [L_nil]
 rw [e0]
 unfold dictDisplay
 dsimp only
 refine (Ev.bind (n := 365 * (n + 1)) (n₁ := 21 * r + 10) (a := (some h.objs.size, rest.drop (17 * n))) (Ev.loop0 i1 i2 h16 hl h15 srt hz _ ?_ ?_ ?_) ?_).mono (by omega)
 ·intro main q run hr
  dsimp only
  rw [if_neg (by simp; omega)]
 ·intro q run l es ep gs t hi hl srt hne hb hz
  have hlen := hi.len
  dsimp only
  rw [if_pos (by rw [beq_iff_eq]; simpa using hlen.trans hl), if_neg (by simp)]
  refine Ev.bind (n := 365) (n₁ := 0) (a := some h.objs.size) (s₁ := ⟨L h (dO (es ++ ents 3 t l) (ep + 17) :: (gs ++ [dO (ents 3 t l) 17])), g, dr, t + 51, o⟩) (p₁ := p) ?_ Ev.pure
  have sub := Ev.subLong (h := h) (os := dO es ep :: gs) (g := g) (dr := dr) (o := o) (t := t) hi h28 (by omega) (by omega) srt
  rw [hl] at sub
  refine (Ev.bind (n := 223) (n₁ := 142) (Ev.holding sub) ?_).mono (by omega)
  have mg := Ev.merge (PP := PP) (w := w) (c := c) (p := p) (h := h) (gs := gs ++ [dO (ents 3 t l) 17]) (g := g) (dr := dr) (o := o) (t := t + 51) (j := gs.length) (sn := 17) (ep := ep) (es := es) (se := ents 3 t l) h28 (by simp) hne
   (fun e he => by obtain ⟨x, _, _, u, e1⟩ := ents_hash he; exact ⟨x.1, u, e1⟩)
   (fun e he x hx => by obtain ⟨y, hy, e1, _⟩ := ents_hash hx; rw [e1]; exact hb e he y hy) (ents_srt srt) (by rw [ents_length]; omega)
  rw [ents_length, hl] at mg
  exact (Ev.bind (n := 142) (n₁ := 0) (a := ()) (Ev.onRaise (Ev.holding mg)) Ev.pure)
 ·intro q run l t hi hl srt
  have hlen := hi.len
  dsimp only
  rw [if_pos (by rw [beq_iff_eq]; simpa using hlen.trans hl), if_neg (by simp)]
  have sub := Ev.subLong (h := h) (os := []) (g := g) (dr := dr) (o := o) (t := t) hi h28 (by omega) (by omega) srt
  rw [hl] at sub
  refine Ev.mono (n := 223) (n₁ := 365) ?_ (by omega)
  refine Ev.bind (n := 223) (n₁ := 0) (a := some h.objs.size) (s₁ := ⟨L h [dO (ents 3 t l) 17], g, dr, t + 51, o⟩) (p₁ := p) ?_ Ev.pure
  exact (Ev.bind (n := 223) (n₁ := 0) sub Ev.pure)
 ·dsimp only
  have hd : (c0 ++ q :: rest).drop (17 * (n + 1)) = rest.drop (17 * n) := by
   rw [show c0 ++ q :: rest = (c0 ++ [q]) ++ rest by simp, List.drop_append, h17, List.drop_eq_nil_of_le (by rw [h17]; omega), List.nil_append, show 17 * (n + 1) - 17 = 17 * n by omega]
  have hlast : Items PP w c p (rest.drop (17 * n)) (l.drop (17 * (n + 1))) := by
   rw [← hd]
   have := hi
   rw [← List.take_append_drop (17 * (n + 1)) (c0 ++ q :: rest)] at this
   have := this.split.2
   rw [List.length_take, Nat.min_eq_left (by omega)] at this
   exact this
  have hlr : (l.drop (17 * (n + 1))).length = r := by rw [List.length_drop]; omega
  have hll := hlast.len
  rw [if_neg (by rw [List.isEmpty_iff]; intro e; rw [e] at hll; simp at hll; omega)]
  refine Ev.mono (n := 21 * r + 8) (n₁ := 21 * r + 10) ?_ (by omega)
  refine Ev.bind (n := 21 * r + 8) (n₁ := 0) (a := some h.objs.size) (s₁ := ⟨L h (dO (ents 3 t (l.take (17 * (n + 1))) ++ ents 2 (t + 51 * (n + 1)) (l.drop (17 * (n + 1)))) l.length :: (garb (t + 51) (l.drop 17) n ++ [dO (ents 2 (t + 51 * (n + 1)) (l.drop (17 * (n + 1)))) r])), g, dr, t + 3 * l.length, o⟩) (p₁ := p) ?_ Ev.pure
  have sub := Ev.subShort (h := h) (os := dO (ents 3 t (l.take (17 * (n + 1)))) (17 * (n + 1)) :: garb (t + 51) (l.drop 17) n) (g := g) (dr := dr) (o := o) (t := t + 51 * (n + 1)) hlast h28 (by omega) (srt.drop _)
  rw [hlr] at sub
  refine (Ev.bind (n := 1 + 13 * r) (n₁ := 6 + 8 * r) (Ev.holding sub) ?_).mono (by omega)
  have mg := Ev.merge (PP := PP) (w := w) (c := c) (p := p) (h := h) (gs := garb (t + 51) (l.drop 17) n ++ [dO (ents 2 (t + 51 * (n + 1)) (l.drop (17 * (n + 1)))) r]) (g := g) (dr := dr) (o := o) (t := t + 51 * (n + 1) + 3 * r) (j := (garb (t + 51) (l.drop 17) n).length) (sn := r) (ep := 17 * (n + 1)) (es := ents 3 t (l.take (17 * (n + 1)))) (se := ents 2 (t + 51 * (n + 1)) (l.drop (17 * (n + 1)))) h28 (by simp) (ents_ne (by rw [List.length_take]; omega))
   (fun e he => by obtain ⟨x, _, _, u, e1⟩ := ents_hash he; exact ⟨x.1, u, e1⟩)
   (fun e he x hx => by
    obtain ⟨y, hy, e1, _⟩ := ents_hash he
    obtain ⟨z, hz, e2, _⟩ := ents_hash hx
    rw [e1, e2]
    have hs' := srt
    rw [← List.take_append_drop (17 * (n + 1)) l] at hs'
    exact (List.pairwise_append.mp hs').2.2 y hy z hz) (ents_srt (srt.drop _)) (by rw [ents_length, ents_length, List.length_take, hlr]; omega)
  rw [ents_length, hlr, ← hl, show t + 51 * (n + 1) + 3 * r = t + 3 * l.length by omega] at mg
  rw [show t + 51 * (n + 1) + 3 * r = t + 3 * l.length by omega]
  exact (Ev.bind (n := 6 + 8 * r) (n₁ := 0) (a := ()) (Ev.onRaise (Ev.holding mg)) Ev.pure)
end
end
section
set_option maxRecDepth 100000
set_option maxHeartbeats 8000000
noncomputable abbrev RWL : OpenLaw := Challenge.rw_to0089_01
noncomputable def wL1 (l : OpenLaw) : Bool := sreFenced l.prog.main
theorem wL1_self : @wL1 = @wL1 := rfl
name_quick fL1 for Mine.Internal.E.wL1 by Mine.Internal.E.wL1_self
theorem qL1 : PySem.W.Fast.fL1 RWL = true := by kernel_rfl
theorem sL1 : wL1 RWL = true := (congrFun PySem.W.Fast.fL1_eq RWL).trans qL1
noncomputable def wL2 (l : OpenLaw) : Bool := (moduleNames l.prog.main.body).isEmpty || lookedIntoSs (moduleNames l.prog.main.body) l.prog.main.body
theorem wL2_self : @wL2 = @wL2 := rfl
name_quick fL2 for Mine.Internal.E.wL2 by Mine.Internal.E.wL2_self
theorem qL2 : PySem.W.Fast.fL2 RWL = true := by kernel_rfl
theorem sL2 : wL2 RWL = true := (congrFun PySem.W.Fast.fL2_eq RWL).trans qL2
noncomputable def wL3 (l : OpenLaw) : Bool := namesResolve l.prog
theorem wL3_self : @wL3 = @wL3 := rfl
name_quick fL3 for Mine.Internal.E.wL3 by Mine.Internal.E.wL3_self
theorem qL3 : PySem.W.Fast.fL3 RWL = true := by kernel_rfl
theorem sL3 : wL3 RWL = true := (congrFun PySem.W.Fast.fL3_eq RWL).trans qL3
noncomputable def wL4 (l : OpenLaw) : Bool := l.prog.boundNames.all (fun n => !worldNames.contains n)
theorem wL4_self : @wL4 = @wL4 := rfl
name_quick fL4 for Mine.Internal.E.wL4 by Mine.Internal.E.wL4_self
theorem qL4 : PySem.W.Fast.fL4 RWL = true := by kernel_rfl
theorem sL4 : wL4 RWL = true := (congrFun PySem.W.Fast.fL4_eq RWL).trans qL4
noncomputable def wL5 (l : OpenLaw) : Bool := noRoadLSs { strict := !(importedModules l.prog.main.body).all cThrough.contains, foot := none, bare := (["vars", "dir", "locals"] : List Str).filter (readsOut l.prog l.prog.main.body) } l.prog.main.body
theorem wL5_self : @wL5 = @wL5 := rfl
name_quick fL5 for Mine.Internal.E.wL5 by Mine.Internal.E.wL5_self
theorem qL5 : PySem.W.Fast.fL5 RWL = true := by kernel_rfl
theorem sL5 : wL5 RWL = true := (congrFun PySem.W.Fast.fL5_eq RWL).trans qL5
noncomputable def wL6 (l : OpenLaw) : Bool := namesMeet l.prog l.prog.main.body fun _ n => attrL n
theorem wL6_self : @wL6 = @wL6 := rfl
name_quick fL6 for Mine.Internal.E.wL6 by Mine.Internal.E.wL6_self
theorem qL6 : PySem.W.Fast.fL6 RWL = true := by kernel_rfl
theorem sL6 : wL6 RWL = true := (congrFun PySem.W.Fast.fL6_eq RWL).trans qL6
noncomputable def wR2 (l : OpenLaw) : Bool := l.prog.boundNames.contains l.name
theorem wR2_self : @wR2 = @wR2 := rfl
name_quick fR2 for Mine.Internal.E.wR2 by Mine.Internal.E.wR2_self
theorem qR2 : PySem.W.Fast.fR2 RWL = true := by kernel_rfl
theorem sR2 : wR2 RWL = true := (congrFun PySem.W.Fast.fR2_eq RWL).trans qR2
noncomputable def wR3 (l : OpenLaw) : Bool := !startupNames.contains l.name
theorem sR3 : wR3 RWL = true := by kernel_rfl
noncomputable def wC2 (l : OpenLaw) : Bool := decide (l.foot ≤ (behindTheImports l.prog).length)
theorem sC2 : wC2 RWL = true := by kernel_rfl
noncomputable def wC3 (l : OpenLaw) : Bool := l.footing.all footLine
theorem sC3 : wC3 RWL = true := by kernel_rfl
noncomputable def wC4 (l : OpenLaw) : Bool := noClassBlock l.prog l.footing
theorem wC4_self : @wC4 = @wC4 := rfl
name_quick fC4 for Mine.Internal.E.wC4 by Mine.Internal.E.wC4_self
theorem qC4 : PySem.W.Fast.fC4 RWL = true := by kernel_rfl
theorem sC4 : wC4 RWL = true := (congrFun PySem.W.Fast.fC4_eq RWL).trans qC4
noncomputable def wC7 (l : OpenLaw) : Bool := noRoadLSs { strict := true, foot := some l.bound', writes := l.writes, may := l.may } l.footing
theorem wC7_self : @wC7 = @wC7 := rfl
name_quick fC7 for Mine.Internal.E.wC7 by Mine.Internal.E.wC7_self
theorem qC7 : PySem.W.Fast.fC7 RWL = true := by kernel_rfl
theorem sC7 : wC7 RWL = true := (congrFun PySem.W.Fast.fC7_eq RWL).trans qC7
noncomputable def wC8 (l : OpenLaw) : Bool := defStands l.about l.above
theorem sC8 : wC8 RWL = true := by kernel_rfl
noncomputable def wC9 (l : OpenLaw) : Bool := l.namesIt
theorem wC9_self : @wC9 = @wC9 := rfl
name_quick fC9 for Mine.Internal.E.wC9 by Mine.Internal.E.wC9_self
theorem qC9 : PySem.W.Fast.fC9 RWL = true := by kernel_rfl
theorem sC9 : wC9 RWL = true := (congrFun PySem.W.Fast.fC9_eq RWL).trans qC9
noncomputable def wC11 (l : OpenLaw) : Bool := l.bound'.all fun n => !builtinNamed n || l.about == [n] || !l.reads n
theorem wC11_self : @wC11 = @wC11 := rfl
name_quick fC11 for Mine.Internal.E.wC11 by Mine.Internal.E.wC11_self
theorem qC11 : PySem.W.Fast.fC11 RWL = true := by kernel_rfl
theorem sC11 : wC11 RWL = true := (congrFun PySem.W.Fast.fC11_eq RWL).trans qC11
noncomputable def wC13 (l : OpenLaw) : Bool := (List.flatMap importedNames l.prog.main.body).all fun n => !l.reads n || (drawsOf n l.prog.main.body).all fun mn => mn.snd != Str.ofString "attrgetter" && mn.snd != Str.ofString "methodcaller"
theorem wC13_self : @wC13 = @wC13 := rfl
name_quick fC13 for Mine.Internal.E.wC13 by Mine.Internal.E.wC13_self
theorem qC13 : PySem.W.Fast.fC13 RWL = true := by kernel_rfl
theorem sC13 : wC13 RWL = true := (congrFun PySem.W.Fast.fC13_eq RWL).trans qC13
noncomputable def wC14 (l : OpenLaw) : Bool := namesMeet l.prog l.footing fun sc n => (![Str.ofString "type", Str.ofString "isinstance", Str.ofString "issubclass", Str.ofString "getattr", Str.ofString "hasattr"].contains n || List.lookup n sc.names == some NameKind.globalImplicit) && (l.may != some n || sc.kind == ScopeKind.module || List.lookup n sc.names == some NameKind.globalImplicit)
theorem wC14_self : @wC14 = @wC14 := rfl
name_quick fC14 for Mine.Internal.E.wC14 by Mine.Internal.E.wC14_self
theorem qC14 : PySem.W.Fast.fC14 RWL = true := by kernel_rfl
theorem sC14 : wC14 RWL = true := (congrFun PySem.W.Fast.fC14_eq RWL).trans qC14
noncomputable def wC16 (l : OpenLaw) : Bool := l.own.eraseDups.length == l.own.length
theorem sC16 : wC16 RWL = true := by kernel_rfl
noncomputable def wC17 (l : OpenLaw) : Bool := l.own.all fun n => !builtinNamed n
theorem wC17_self : @wC17 = @wC17 := rfl
name_quick fC17 for Mine.Internal.E.wC17 by Mine.Internal.E.wC17_self
theorem qC17 : PySem.W.Fast.fC17 RWL = true := by kernel_rfl
theorem sC17 : wC17 RWL = true := (congrFun PySem.W.Fast.fC17_eq RWL).trans qC17
noncomputable def wC18 (l : OpenLaw) : Bool := namesMeet l.prog l.above fun x n => !l.own.contains n
theorem wC18_self : @wC18 = @wC18 := rfl
name_quick fC18 for Mine.Internal.E.wC18 by Mine.Internal.E.wC18_self
theorem qC18 : PySem.W.Fast.fC18 RWL = true := by kernel_rfl
theorem sC18 : wC18 RWL = true := (congrFun PySem.W.Fast.fC18_eq RWL).trans qC18
noncomputable def wC19 (l : OpenLaw) : Bool := namesMeet l.prog l.footing fun sc n => sc.kind == ScopeKind.module || List.lookup n sc.names != some NameKind.globalExplicit
theorem wC19_self : @wC19 = @wC19 := rfl
name_quick fC19 for Mine.Internal.E.wC19 by Mine.Internal.E.wC19_self
theorem qC19 : PySem.W.Fast.fC19 RWL = true := by kernel_rfl
theorem sC19 : wC19 RWL = true := (congrFun PySem.W.Fast.fC19_eq RWL).trans qC19
theorem looks : looksOpen RWL.row.prog = true := look_both (look_both (look_both (look_both (look_both (sL1) (sL2)) (sL3)) (sL4)) (sL5)) (sL6)
theorem part : OpenRow.partSaid RWL.row = true := look_both (look_both (look_both (look_both (look_both (look_both (look_both (look_both (look_both (look_both (look_both (look_both (look_both (looks) (rfl)) (rfl)) (rfl)) (rfl)) (rfl)) (rfl)) (rfl)) (rfl)) (rfl)) (rfl)) (rfl)) (rfl)) (rfl)
theorem rsaid : OpenRow.wellSaid RWL.row = true := look_both (look_both (part) (sR2)) (sR3)
theorem lsaid : OpenLaw.wellSaid RWL = true := look_both (look_both (look_both (look_both (look_both (look_both (look_both (look_both (look_both (look_both (look_both (look_both (look_both (look_both (look_both (look_both (look_both (look_both (rsaid) (sC2)) (sC3)) (sC4)) (rfl)) (rfl)) (sC7)) (sC8)) (sC9)) (by decide +kernel)) (sC11)) (rfl)) (sC13)) (sC14)) (by decide +kernel)) (sC16)) (sC17)) (sC18)) (sC19)
end
section
set_option maxRecDepth 100000
set_option maxHeartbeats 8000000
noncomputable abbrev PW : Program := PySem.Challenge.pw_to0089_01
noncomputable section
noncomputable def S (s : String) : PySem.Str := PySem.Str.ofString s
noncomputable def getT (t : BT) (a : Nat) : Obj := (t.get a).getD default
noncomputable def putT : BT → List (Nat × Obj) → BT
 | t, [] => t
 | t, (a, o) :: r => putT (t.ins a o) r
noncomputable def insAll : BT → Nat → List Obj → BT
 | t, _, [] => t
 | t, n, o :: r => insAll (t.ins n o) (n + 1) r
noncomputable def vs (x : String) (k : Nat) : Value := .str (S x) k
noncomputable def vi (x : Int) (k : Nat) : Value := .int x k
noncomputable def vr (a : Nat) : Value := .ref a
noncomputable def vt (x : String) : Value := .type x
noncomputable def vb (b : Bool) : Value := .bool b
noncomputable def vu (x : String) : Value := .builtin x
noncomputable def vn : Value := .none
noncomputable def en (P : Params) (x : String) (k : Nat) (v : Value) : DictEntry := ⟨PyData.keyHash P (S x), vs x k, v⟩
noncomputable def ob (c : Value) (l : List Value) : Obj := ⟨c, none, .fields l.toArray, #[]⟩
noncomputable def fl (l : List Value) : Obj := ob vn l
noncomputable def tu (l : List Value) : Obj := ⟨vt "tuple", none, .seq l.toArray 0, #[]⟩
noncomputable def di (l : List DictEntry) (n : Nat) : Obj := ⟨vt "dict", none, .dict l.toArray n, #[]⟩
noncomputable def cO (n q : String) (t : Nat) (l a1 a2 a3 a4 : Int) (r8 : Nat) (b : Bool) (r11 : Nat) (x y z u : Value) (t' : Nat) : Obj :=
 ob (vt "code") [vs n t, vs q (t + 1), vs "/claim/cut.py" (t + 2), vi l 0, vi a1 0, vi a2 0, vi a3 0, vi a4 0, vr r8, vb b, vi 276 0, vr r11, x, y, z, u, vi t' 0, vi l 0, vs "/claim/cut.py" (t' + 1)]
abbrev FQ := Arguments × List Stmt × Scope
noncomputable def fF (n q : String) (x : FQ) (k : Nat) (d kw m c : Value) : Data := .func ⟨S n, S q, x.1, .stmts x.2.1, x.2.2, k, [], d, kw, vn, m, none, c, vn, 0⟩
noncomputable def fR (n q : String) (x : FQ) : Obj := ⟨vn, none, fF n q x 0 vn vn vn vn, #[]⟩
noncomputable def fO (n q : String) (x : FQ) (d kw m : Value) (c : Nat) : Obj := ⟨vt "function", none, fF n q x 3 d kw m (vr c), #[]⟩
noncomputable def pushG (P : Params) (o : Obj) (x : String) (k r : Nat) : Obj := Obj.mapDictKeys (·.push (en P x k (vr r))) o
noncomputable def setG (o : Obj) (j : Nat) (x : String) (k : Nat) : Obj := Obj.mapDict (·.modify j fun e => { e with val := vs x k }) o
noncomputable def pushF (o : Obj) (l : List Value) : Obj := match o with
 | ⟨c, d, .fields xs, sl⟩ => ⟨c, d, .fields (xs ++ l.toArray), sl⟩
 | o => o
noncomputable def stx (k : Nat) : List Stmt := (PW.main.body.drop k).take 1
noncomputable def fnQ : Stmt → FQ
 | .FunctionDef _ a b _ _ _ s .. => (a, b, s)
 | _ => (default, [], default)
noncomputable def clB : Stmt → List Stmt
 | .ClassDef _ _ _ b .. => b
 | _ => []
noncomputable def one {α β : Type} (d : β) (f : α → β) : List α → β
 | x :: _ => f x
 | [] => d
noncomputable def qd (k : Nat) : FQ := one (default, [], default) fnQ (stx k)
noncomputable def qc (k j : Nat) : FQ := one (default, [], default) fnQ ((one [] clB (stx k)).drop j)
noncomputable def env1 : Env := { scope := PW.main.scope, locals := mainNs, globals := mainNs, cells := [], code := Value.ref 30, frame := some 31 }
noncomputable def stT (T : Params → BT) (w : World) (os : OsState) (n toks : Nat) : SharedT := { tree := T w.params, n := n, life := { }, gens := { toList := [] }, drawn := { }, toks := toks, os := os }
noncomputable def fr0 : List Frame := [topFrame ⟨0, 0, 0, 0⟩]
noncomputable def runA (x : List Stmt) (v : Env) (p : Program) (b : List Stmt) (w : World) (os : OsState) (fuel : Nat) (T : Params → BT) (n toks : Nat) (pos : Pos) : Option (Flow × SharedT × Code × Pos) :=
 segRunT treeTable p w 28 (some (Value.ref 6)) 1 fuel (stT T w os n toks) (piecesOf x v (Code.body b v) pos [topFrame ⟨0, 0, 0, 0⟩])
theorem runA_self : @runA = @runA := rfl
name_quick rA for Mine.Internal.E.runA by Mine.Internal.E.runA_self
def Q (k fuel : Nat) (T : Params → BT) (n toks : Nat) (pos : Pos) (T' : Params → BT) (n' toks' : Nat) (pos' : Pos) : Prop := ∀ (w : World) (p : Program) (b : List Stmt) (os : OsState),
 PySem.W.Fast.rA (stx k) env1 p b w os fuel T n toks pos = some (.next, stT T' w os n' toks', Code.body b env1, pos')
def h0L (P : Params) : List Obj := [boot_o_0 P,
 di [en P "builtins" 162 (vr 4), en P "__main__" 163 (vr 5), en P "_sre" 244 (vr 12)] 3,
 Obj.mk vn none (Data.dict #[en P "\x69mport.loaded._sre" 183 (vb true), en P "class._frozen_importlib.BuiltinImporter" 185 (vr 14), en P "watched.\x69mport" 206 (vr 18), en P "class._frozen_importlib.ModuleSpec" 216 (vr 22), en P "sys.modules.booked-epoch" 245 (vi 3 0), en P "\x69mport.later-laid._sre" 270 (vb true), en P "watched.library" 272 (vr 27), en P "watched.library-objects" 0 (vs "\x0c" 0), en P "watched.library-deep._sre" 273 (vs "\x04\x00\x00\x0b\x04\x00\x00\x0b\x04\x00\x00\x03\x04\x00\x00\x0b\x08\x04dict\x02" 0)] 9) #[],
 di [en P "__name__" 165 (vs "__main__" 164), en P "__doc__" 166 vn, en P "__package__" 167 vn, en P "__loader__" 168 (vu "__main__.__loader__#opaque"), en P "__spec__" 169 vn, en P "__annotations__" 170 (vr 6), en P "__builtins__" 171 (vr 4), en P "__file__" 173 (vs "/claim/cut.py" 172), en P "__cached__" 174 vn, en P "_sre" 275 (vr 12)] 10,
 boot_o_4 P,
 boot_o_5 P,
 boot_o_6 P,
 boot_o_7 P,
 boot_o_8 P,
 boot_o_9 P,
 boot_o_10 P,
 di [en P "__name__" 247 (vs "_sre" 246), en P "__doc__" 248 vn, en P "__package__" 250 (vs "" 249), en P "__loader__" 251 (vu "off-the-table:_sre.__loader__:shared#opaque"), en P "__spec__" 252 (vu "off-the-table:_sre.__spec__:shared#opaque"), en P "compile" 253 (vu "_sre.compile"), en P "template" 254 (vu "off-the-table:_sre.template:shared#opaque"), en P "getcodesize" 255 (vu "off-the-table:_sre.getcodesize:shared#opaque"), en P "ascii_iscased" 256 (vu "off-the-table:_sre.ascii_iscased:shared#opaque"), en P "unicode_iscased" 257 (vu "off-the-table:_sre.unicode_iscased:shared#opaque"), en P "ascii_tolower" 258 (vu "off-the-table:_sre.ascii_tolower:shared#opaque"), en P "unicode_tolower" 259 (vu "off-the-table:_sre.unicode_tolower:shared#opaque"), en P "MAGIC" 261 (vi 20230612 260), en P "CODESIZE" 263 (vi 4 262), en P "MAXREPEAT" 265 (vi 4294967295 264), en P "MAXGROUPS" 267 (vi 1073741823 266), en P "copyright" 269 (vs " SRE 2.2.2 Copyright (c) 1997-2002 by Secret Labs AB " 268)] 17,
 Obj.mk (vt "module") (some 11) .plain #[],
 di [en P "__module__" 189 (vs "_frozen_importlib" 186), en P "__firstlineno__" 190 (vi 971 187), en P "__doc__" 191 (vu "_frozen_importlib.BuiltinImporter.__doc__:str#opaque"), en P "_ORIGIN" 192 (vs "built-in" 188), en P "find_spec" 193 (vu "_frozen_importlib.BuiltinImporter.find_spec#opaque"), en P "create_module" 194 (vu "_frozen_importlib.BuiltinImporter.create_module#opaque"), en P "exec_module" 195 (vu "_frozen_importlib.BuiltinImporter.exec_module#opaque"), en P "get_code" 196 (vu "_frozen_importlib.BuiltinImporter.get_code#opaque"), en P "get_source" 197 (vu "_frozen_importlib.BuiltinImporter.get_source#opaque"), en P "is_package" 198 (vu "_frozen_importlib.BuiltinImporter.is_package#opaque"), en P "load_module" 199 (vu "_frozen_importlib.BuiltinImporter.load_module#opaque"), en P "__static_attributes__" 200 (vr 15), en P "__dict__" 202 (vr 16), en P "__weakref__" 204 (vr 17)] 14,
 Obj.mk (vt "type") none (Data.cls (ClassData.mk (S "BuiltinImporter") [vt "object"] [vr 14, vt "object"] 13 (S "BuiltinImporter") true [] [] false none false)) #[],
 tu [],
 ob (vt "getset_descriptor") [vs "__dict__" 201, vr 14, vu "function.__dict__", vu "function.__dict__#set"],
 ob (vt "getset_descriptor") [vs "__weakref__" 203, vr 14, vu "ExceptionGroup.__weakref__", vn],
 Obj.mk vn none (Data.seq #[vi 13 0, vs "\x06½\n__module__\x06º\x11_frozen_importlib\x06¾\x0f__firstlineno__\x04»\x00ϋ\x06¿\x07__doc__\t4_frozen_importlib.BuiltinImporter.__doc__:str#opaque\x06À\x07_ORIGIN\x06¼\x08built-in\x06Á\tfind_spec\t2_frozen_importlib.BuiltinImporter.find_spec#opaque\x06Â\x0dcreate_module\t6_frozen_importlib.BuiltinImporter.create_module#opaque\x06Ã\x0bexec_module\t4_frozen_importlib.BuiltinImporter.exec_module#opaque\x06Ä\x08get_code\t1_frozen_importlib.BuiltinImporter.get_code#opaque\x06Å\nget_source\t3_frozen_importlib.BuiltinImporter.get_source#opaque\x06Æ\nis_package\t3_frozen_importlib.BuiltinImporter.is_package#opaque\x06Ç\x0bload_module\t4_frozen_importlib.BuiltinImporter.load_module#opaque\x06È\x15__static_attributes__\x04\x00\x00\x0f\x06Ê\x08__dict__\x04\x00\x00\x10\x06Ì\x0b__weakref__\x04\x00\x00\x11" 0, vb true, vb true, vs "" 205, vi 21 0, vs "\x06ã\n__module__\x06Ù\x11_frozen_importlib\x06ä\x0f__firstlineno__\x04Ú\x00Ȳ\x06å\x07__doc__\t/_frozen_importlib.ModuleSpec.__doc__:str#opaque\x06æ\x08__init__\t,_frozen_importlib.ModuleSpec.__init__#opaque\x06ç\x08__repr__\t,_frozen_importlib.ModuleSpec.__repr__#opaque\x06è\x06__eq__\t*_frozen_importlib.ModuleSpec.__eq__#opaque\x06é\x06cached\t*_frozen_importlib.ModuleSpec.cached#opaque\x06ê\x06parent\t*_frozen_importlib.ModuleSpec.parent#opaque\x06ë\x0chas_location\t0_frozen_importlib.ModuleSpec.has_location#opaque\x06ì\x15__static_attributes__\x04\x00\x00\x17\x06î\x08__dict__\x04\x00\x00\x18\x06ð\x0b__weakref__\x04\x00\x00\x19\x06ñ\x08__hash__\x00" 0, vb true, vb true, vs "" 242] 1) #[],
 Obj.mk (vt "list") none (Data.seq #[] 0) #[],
 di [en P "name" 208 (vs "_sre" 207), en P "loader" 209 (vr 14), en P "origin" 210 (vs "built-in" 184), en P "loader_state" 211 vn, en P "submodule_search_locations" 212 vn, en P "_uninitialized_submodules" 213 (vr 19), en P "_set_fileattr" 214 (vb false), en P "_cached" 215 vn, en P "_initializing" 243 (vb false)] 9,
 di [en P "__module__" 227 (vs "_frozen_importlib" 217), en P "__firstlineno__" 228 (vi 562 218), en P "__doc__" 229 (vu "_frozen_importlib.ModuleSpec.__doc__:str#opaque"), en P "__init__" 230 (vu "_frozen_importlib.ModuleSpec.__init__#opaque"), en P "__repr__" 231 (vu "_frozen_importlib.ModuleSpec.__repr__#opaque"), en P "__eq__" 232 (vu "_frozen_importlib.ModuleSpec.__eq__#opaque"), en P "cached" 233 (vu "_frozen_importlib.ModuleSpec.cached#opaque"), en P "parent" 234 (vu "_frozen_importlib.ModuleSpec.parent#opaque"), en P "has_location" 235 (vu "_frozen_importlib.ModuleSpec.has_location#opaque"), en P "__static_attributes__" 236 (vr 23), en P "__dict__" 238 (vr 24), en P "__weakref__" 240 (vr 25), en P "__hash__" 241 vn] 13,
 Obj.mk (vt "type") none (Data.cls (ClassData.mk (S "ModuleSpec") [vt "object"] [vr 22, vt "object"] 21 (S "ModuleSpec") true [] [] false none false)) #[],
 tu [vs "_cached" 219, vs "_set_fileattr" 220, vs "_uninitialized_submodules" 221, vs "loader" 222, vs "loader_state" 223, vs "name" 224, vs "origin" 225, vs "submodule_search_locations" 226],
 ob (vt "getset_descriptor") [vs "__dict__" 237, vr 22, vu "function.__dict__", vu "function.__dict__#set"],
 ob (vt "getset_descriptor") [vs "__weakref__" 239, vr 22, vu "ExceptionGroup.__weakref__", vn],
 Obj.mk (vr 22) (some 20) .plain #[],
 Obj.mk vn none (Data.seq #[vi 11 0, Value.str (Str.mk #[6, 247, 8, 95, 95, 110, 97, 109, 101, 95, 95, 6, 246, 4, 95, 115, 114, 101, 6, 248, 7, 95, 95, 100, 111, 99, 95, 95, 0, 6, 250, 11, 95, 95, 112, 97, 99, 107, 97, 103, 101, 95, 95, 6, 249, 0, 6, 251, 10, 95, 95, 108, 111, 97, 100, 101, 114, 95, 95, 4, 0, 0, 14, 6, 252, 8, 95, 95, 115, 112, 101, 99, 95, 95, 4, 0, 0, 26, 6, 253, 7, 99, 111, 109, 112, 105, 108, 101, 9, 12, 95, 115, 114, 101, 46, 99, 111, 109, 112, 105, 108, 101, 6, 254, 8, 116, 101, 109, 112, 108, 97, 116, 101, 9, 13, 95, 115, 114, 101, 46, 116, 101, 109, 112, 108, 97, 116, 101, 6, 255, 11, 103, 101, 116, 99, 111, 100, 101, 115, 105, 122, 101, 9, 16, 95, 115, 114, 101, 46, 103, 101, 116, 99, 111, 100, 101, 115, 105, 122, 101, 6, 256, 13, 97, 115, 99, 105, 105, 95, 105, 115, 99, 97, 115, 101, 100, 9, 18, 95, 115, 114, 101, 46, 97, 115, 99, 105, 105, 95, 105, 115, 99, 97, 115, 101, 100, 6, 257, 15, 117, 110, 105, 99, 111, 100, 101, 95, 105, 115, 99, 97, 115, 101, 100, 9, 20, 95, 115, 114, 101, 46, 117, 110, 105, 99, 111, 100, 101, 95, 105, 115, 99, 97, 115, 101, 100, 6, 258, 13, 97, 115, 99, 105, 105, 95, 116, 111, 108, 111, 119, 101, 114, 9, 18, 95, 115, 114, 101, 46, 97, 115, 99, 105, 105, 95, 116, 111, 108, 111, 119, 101, 114, 6, 259, 15, 117, 110, 105, 99, 111, 100, 101, 95, 116, 111, 108, 111, 119, 101, 114, 9, 20, 95, 115, 114, 101, 46, 117, 110, 105, 99, 111, 100, 101, 95, 116, 111, 108, 111, 119, 101, 114, 6, 261, 5, 77, 65, 71, 73, 67, 4, 260, 0, 20230612, 6, 263, 8, 67, 79, 68, 69, 83, 73, 90, 69, 4, 262, 0, 4, 6, 265, 9, 77, 65, 88, 82, 69, 80, 69, 65, 84, 4, 264, 0, 4294967295, 6, 267, 9, 77, 65, 88, 71, 82, 79, 85, 80, 83, 4, 266, 0, 1073741823, 6, 269, 9, 99, 111, 112, 121, 114, 105, 103, 104, 116, 6, 268, 53, 32, 83, 82, 69, 32, 50, 46, 50, 46, 50, 32, 67, 111, 112, 121, 114, 105, 103, 104, 116, 32, 40, 99, 41, 32, 49, 57, 57, 55, 45, 50, 48, 48, 50, 32, 98, 121, 32, 83, 101, 99, 114, 101, 116, 32, 76, 97, 98, 115, 32, 65, 66, 32]) 0, vb true, vb false, vs "_sre" 271] 0) #[]]
def T0 (P : Params) : BT := insAll .nil 0 (h0L P ++ [tu [],
 fl [],
 cO "<module>" "<module>" 277 1 0 0 0 0 28 false 29 vn vn vn vn 280,
 Obj.mk (vt "frame") none .plain #[some (vr 30), some (vr 3), some (vr 3), none, some (vs "__main__" 164), none, some (vr 0)]])
def T1 (P : Params) : BT := let G := getT (T0 P); putT (T0 P) [(3, pushG P (G 3) "_wall" 288 38),
 (29, pushF (G 29) [vi 2 0, vi 0 0, vr 37]),
 (32, tu []),
 (33, fl []),
 (34, tu [vs "k" 285]),
 (35, tu []),
 (36, fR "_wall" "_wall" (qd 1)),
 (37, cO "_wall" "_wall" 282 2 1 0 0 3 32 true 33 vn (vr 34) (vr 35) (vr 36) 286),
 (38, fO "_wall" "_wall" (qd 1) vn vn (vs "__main__" 164) 37)]
theorem q1 : Q 1 30 T0 32 282 ⟨0, 0, 0, 0⟩ T1 39 289 ⟨2, 0, 4, 12⟩ := fun w p b os => by kernel_rfl
def T2 (P : Params) : BT := let G := getT (T1 P); putT (T1 P) [(3, setG (G 3) 0 "cpy313.xml.etree.ElementTree" 289)]
theorem q2 : Q 2 10 T1 39 289 ⟨2, 0, 4, 12⟩ T2 39 291 ⟨5, 0, 5, 8⟩ := fun w p b os => by kernel_rfl
def T3 (P : Params) : BT := let G := getT (T2 P); putT (T2 P) [(3, pushG P (G 3) "_twin_re_1" 328 43),
 (39, Obj.mk (vt "list") none (Data.seq #[vi 14 294, vi 4 295, vi 0 296, vi 3 297, vi 4294967295 298, vi 6 299, vi 0 300, vi 24 301, vi 9 302, vi 1 303, vi 4294967295 304, vi 13 305, vi 4 306, vi 8 307, vi 14 308, vi 0 309, vi 1 310, vi 16 311, vi 58 312, vi 24 313, vi 9 314, vi 1 315, vi 4294967295 316, vi 13 317, vi 4 318, vi 8 319, vi 14 320, vi 0 321, vi 1 322, vi 6 323, vi 5 324, vi 1 325] 0) #[]),
 (40, di [] 0),
 (41, tu [vn]),
 (42, tu [vi 14 0, vi 4 0, vi 0 0, vi 3 0, vi 4294967295 0, vi 6 0, vi 0 0, vi 24 0, vi 9 0, vi 1 0, vi 4294967295 0, vi 13 0, vi 4 0, vi 8 0, vi 14 0, vi 0 0, vi 1 0, vi 16 0, vi 58 0, vi 24 0, vi 9 0, vi 1 0, vi 4294967295 0, vi 13 0, vi 4 0, vi 8 0, vi 14 0, vi 0 0, vi 1 0, vi 6 0, vi 5 0, vi 1 0]),
 (43, ob (vt "re.Pattern") [vs "^\\w+:\\w+$" 292, vi 32 327, vi 0 0, vn, vn, vr 42, vi 0 0])]
theorem q3 : Q 3 82 T2 39 291 ⟨5, 0, 5, 8⟩ T3 44 329 ⟨6, 0, 6, 10⟩ := fun w p b os => by kernel_rfl
def T4 (P : Params) : BT := let G := getT (T3 P); putT (T3 P) [(3, pushG P (G 3) "_namespace_map" 350 44),
 (44, di [en P "http://www.w3.org/XML/1998/namespace" 329 (vs "xml" 330), en P "http://www.w3.org/1999/xhtml" 331 (vs "html" 332), en P "http://www.w3.org/1999/02/22-rdf-syntax-ns#" 333 (vs "rdf" 334), en P "http://schemas.xmlsoap.org/wsdl/" 335 (vs "wsdl" 336), en P "http://www.w3.org/2001/XMLSchema" 337 (vs "xs" 338), en P "http://www.w3.org/2001/XMLSchema-instance" 339 (vs "xsi" 340), en P "http://purl.org/dc/elements/1.1/" 341 (vs "dc" 342)] 7)]
def Q4 (w : World) : Prop := ∀ (p : Program) (b : List Stmt) (os : OsState), PySem.W.Fast.rA (stx 4) env1 p b w os 116 T3 44 329 ⟨6, 0, 6, 10⟩ = some (.next, stT T4 w os 45 351, Code.body b env1, ⟨7, 0, 7, 14⟩)
theorem q4false (w : World) : Q4 (w.withFollow "special-get-raises" false) := fun p b os => by kernel_rfl
theorem q4true (w : World) : Q4 (w.withFollow "special-get-raises" true) := fun p b os => by kernel_rfl
theorem q4 : Q 4 116 T3 44 329 ⟨6, 0, 6, 10⟩ T4 45 351 ⟨7, 0, 7, 14⟩ := fun w => byRow2 (P := Q4) "special-get-raises" q4false q4true w
def T5 (P : Params) : BT := let G := getT (T4 P); putT (T4 P) [(3, pushG P (G 3) "_raise_serialization_error" 357 51),
 (29, pushF (G 29) [vi 8 0, vi 0 0, vr 50]),
 (45, tu []),
 (46, fl []),
 (47, tu [vs "text" 354]),
 (48, tu []),
 (49, fR "_raise_serialization_error" "_raise_serialization_error" (qd 5)),
 (50, cO "_raise_serialization_error" "_raise_serialization_error" 351 8 1 0 0 3 45 true 46 vn (vr 47) (vr 48) (vr 49) 355),
 (51, fO "_raise_serialization_error" "_raise_serialization_error" (qd 5) vn vn (vs "cpy313.xml.etree.ElementTree" 289) 50)]
theorem q5 : Q 5 30 T4 45 351 ⟨7, 0, 7, 14⟩ T5 52 358 ⟨8, 0, 9, 82⟩ := fun w p b os => by kernel_rfl
def T6 (P : Params) : BT := let G := getT (T5 P); putT (T5 P) [(3, pushG P (G 3) "_looks_like_prefix_name" 359 52),
 (52, ob (vt "builtin_function_or_method") [vu "re.Pattern.match", vr 43])]
theorem q6 : Q 6 28 T5 52 358 ⟨8, 0, 9, 82⟩ T6 53 360 ⟨10, 0, 10, 23⟩ := fun w p b os => by kernel_rfl
def T7 (P : Params) : BT := let G := getT (T6 P); putT (T6 P) [(3, pushG P (G 3) "C14NWriterTarget" 524 150),
 (29, pushF (G 29) [vi 11 0, vi 0 0, vr 58]),
 (53, tu []),
 (54, ob (vt "builtin_function_or_method") [vu "type.__prepare__", vt "type"]),
 (55, di [en P "__module__" 367 (vs "cpy313.xml.etree.ElementTree" 289), en P "__qualname__" 369 (vs "C14NWriterTarget" 368), en P "__firstlineno__" 371 (vi 11 370), en P "__init__" 393 (vr 67), en P "_iter_namespaces" 403 (vr 75), en P "_resolve_prefix_name" 415 (vr 82), en P "_qname" 428 (vr 90), en P "data" 436 (vr 97), en P "_flush" 449 (vr 106), en P "start_ns" 458 (vr 113), en P "start" 468 (vr 120), en P "_start" 474 (vr 126), en P "end" 482 (vr 133), en P "comment" 490 (vr 140), en P "pi" 499 (vr 147), en P "__static_attributes__" 517 (vr 148)] 16),
 (56, tu []),
 (57, fl [vi 13 0, vi 4 0, vr 66, vi 41 0, vi 4 0, vr 74, vi 46 0, vi 4 0, vr 81, vi 53 0, vi 4 0, vr 89, vi 80 0, vi 4 0, vr 96, vi 84 0, vi 4 0, vr 105, vi 98 0, vi 4 0, vr 112, vi 101 0, vi 4 0, vr 119, vi 114 0, vi 4 0, vr 125, vi 159 0, vi 4 0, vr 132, vi 171 0, vi 4 0, vr 139, vi 174 0, vi 4 0, vr 146]),
 (58, cO "C14NWriterTarget" "C14NWriterTarget" 362 11 0 0 0 0 56 false 57 vn vn vn vn 365),
 (59, Obj.mk (vt "frame") none .plain #[some (vr 58), some (vr 3), some (vr 55), none, some (vs "cpy313.xml.etree.ElementTree" 289), none, some (vr 0)]),
 (60, di [en P "with_comments" 372 (vb false), en P "strip_text" 373 (vb false), en P "rewrite_prefixes" 374 (vb false), en P "qname_aware_tags" 375 vn, en P "qname_aware_attrs" 376 vn, en P "exclude_attrs" 377 vn, en P "exclude_tags" 378 vn] 7),
 (61, tu []),
 (62, fl []),
 (63, tu [vs "self" 382, vs "write" 383, vs "with_comments" 384, vs "strip_text" 385, vs "rewrite_prefixes" 386, vs "qname_aware_tags" 387, vs "qname_aware_attrs" 388, vs "exclude_attrs" 389, vs "exclude_tags" 390]),
 (64, tu []),
 (65, fR "__init__" "C14NWriterTarget.__init__" (qc 7 0)),
 (66, cO "__init__" "C14NWriterTarget.__init__" 379 13 2 0 7 3 61 true 62 vn (vr 63) (vr 64) (vr 65) 391),
 (67, fO "__init__" "C14NWriterTarget.__init__" (qc 7 0) vn (vr 60) (vs "cpy313.xml.etree.ElementTree" 289) 66),
 (68, tu [vt "reversed"]),
 (69, tu []),
 (70, fl []),
 (71, tu [vs "self" 397, vs "ns_stack" 398, vs "_reversed" 399, vs "namespaces" 400]),
 (72, tu []),
 (73, fR "_iter_namespaces" "C14NWriterTarget._iter_namespaces" (qc 7 1)),
 (74, cO "_iter_namespaces" "C14NWriterTarget._iter_namespaces" 394 41 3 0 0 35 69 true 70 vn (vr 71) (vr 72) (vr 73) 401),
 (75, fO "_iter_namespaces" "C14NWriterTarget._iter_namespaces" (qc 7 1) (vr 68) vn (vs "cpy313.xml.etree.ElementTree" 289) 74),
 (76, tu []),
 (77, fl []),
 (78, tu [vs "self" 407, vs "prefixed_name" 408, vs "prefix" 409, vs "name" 410, vs "uri" 411, vs "p" 412]),
 (79, tu []),
 (80, fR "_resolve_prefix_name" "C14NWriterTarget._resolve_prefix_name" (qc 7 2)),
 (81, cO "_resolve_prefix_name" "C14NWriterTarget._resolve_prefix_name" 404 46 2 0 0 3 76 true 77 vn (vr 78) (vr 79) (vr 80) 413),
 (82, fO "_resolve_prefix_name" "C14NWriterTarget._resolve_prefix_name" (qc 7 2) vn vn (vs "cpy313.xml.etree.ElementTree" 289) 81),
 (83, tu [vn]),
 (84, tu []),
 (85, fl []),
 (86, tu [vs "self" 419, vs "qname" 420, vs "uri" 421, vs "tag" 422, vs "prefixes_seen" 423, vs "u" 424, vs "prefix" 425]),
 (87, tu []),
 (88, fR "_qname" "C14NWriterTarget._qname" (qc 7 3)),
 (89, cO "_qname" "C14NWriterTarget._qname" 416 53 3 0 0 3 84 true 85 vn (vr 86) (vr 87) (vr 88) 426),
 (90, fO "_qname" "C14NWriterTarget._qname" (qc 7 3) (vr 83) vn (vs "cpy313.xml.etree.ElementTree" 289) 89),
 (91, tu []),
 (92, fl []),
 (93, tu [vs "self" 432, vs "data" 433]),
 (94, tu []),
 (95, fR "data" "C14NWriterTarget.data" (qc 7 4)),
 (96, cO "data" "C14NWriterTarget.data" 429 80 2 0 0 3 91 true 92 vn (vr 93) (vr 94) (vr 95) 434),
 (97, fO "data" "C14NWriterTarget.data" (qc 7 4) vn vn (vs "cpy313.xml.etree.ElementTree" 289) 96),
 (98, ob (vt "builtin_function_or_method") [vu "str.join", vs "" 437]),
 (99, tu [vr 98]),
 (100, tu []),
 (101, fl []),
 (102, tu [vs "self" 442, vs "_join_text" 443, vs "data" 444, vs "args" 445, vs "qname_text" 446]),
 (103, tu []),
 (104, fR "_flush" "C14NWriterTarget._flush" (qc 7 5)),
 (105, cO "_flush" "C14NWriterTarget._flush" 439 84 2 0 0 3 100 true 101 vn (vr 102) (vr 103) (vr 104) 447),
 (106, fO "_flush" "C14NWriterTarget._flush" (qc 7 5) (vr 99) vn (vs "cpy313.xml.etree.ElementTree" 289) 105),
 (107, tu []),
 (108, fl []),
 (109, tu [vs "self" 453, vs "prefix" 454, vs "uri" 455]),
 (110, tu []),
 (111, fR "start_ns" "C14NWriterTarget.start_ns" (qc 7 6)),
 (112, cO "start_ns" "C14NWriterTarget.start_ns" 450 98 3 0 0 3 107 true 108 vn (vr 109) (vr 110) (vr 111) 456),
 (113, fO "start_ns" "C14NWriterTarget.start_ns" (qc 7 6) vn vn (vs "cpy313.xml.etree.ElementTree" 289) 112),
 (114, tu []),
 (115, fl []),
 (116, tu [vs "self" 462, vs "tag" 463, vs "attrs" 464, vs "new_namespaces" 465]),
 (117, tu []),
 (118, fR "start" "C14NWriterTarget.start" (qc 7 7)),
 (119, cO "start" "C14NWriterTarget.start" 459 101 3 0 0 3 114 true 115 vn (vr 116) (vr 117) (vr 118) 466),
 (120, fO "start" "C14NWriterTarget.start" (qc 7 7) vn vn (vs "cpy313.xml.etree.ElementTree" 289) 119),
 (121, tu [vn]),
 (122, tu []),
 (123, fl []),
 (124, fR "_start" "C14NWriterTarget._start" (qc 7 8)),
 (125, cO "_start" "C14NWriterTarget._start" 469 114 5 0 0 3 122 true 123 vn vn vn (vr 124) 472),
 (126, fO "_start" "C14NWriterTarget._start" (qc 7 8) (vr 121) vn (vs "cpy313.xml.etree.ElementTree" 289) 125),
 (127, tu []),
 (128, fl []),
 (129, tu [vs "self" 478, vs "tag" 479]),
 (130, tu []),
 (131, fR "end" "C14NWriterTarget.end" (qc 7 9)),
 (132, cO "end" "C14NWriterTarget.end" 475 159 2 0 0 3 127 true 128 vn (vr 129) (vr 130) (vr 131) 480),
 (133, fO "end" "C14NWriterTarget.end" (qc 7 9) vn vn (vs "cpy313.xml.etree.ElementTree" 289) 132),
 (134, tu []),
 (135, fl []),
 (136, tu [vs "self" 486, vs "text" 487]),
 (137, tu []),
 (138, fR "comment" "C14NWriterTarget.comment" (qc 7 10)),
 (139, cO "comment" "C14NWriterTarget.comment" 483 171 2 0 0 3 134 true 135 vn (vr 136) (vr 137) (vr 138) 488),
 (140, fO "comment" "C14NWriterTarget.comment" (qc 7 10) vn vn (vs "cpy313.xml.etree.ElementTree" 289) 139),
 (141, tu []),
 (142, fl []),
 (143, tu [vs "self" 494, vs "target" 495, vs "data" 496]),
 (144, tu []),
 (145, fR "pi" "C14NWriterTarget.pi" (qc 7 11)),
 (146, cO "pi" "C14NWriterTarget.pi" 491 174 3 0 0 3 141 true 142 vn (vr 143) (vr 144) (vr 145) 497),
 (147, fO "pi" "C14NWriterTarget.pi" (qc 7 11) vn vn (vs "cpy313.xml.etree.ElementTree" 289) 146),
 (148, tu [vs "_data" 500, vs "_declared_ns_stack" 501, vs "_exclude_attrs" 502, vs "_exclude_tags" 503, vs "_find_qname_aware_attrs" 504, vs "_ignored_depth" 505, vs "_ns_stack" 506, vs "_pending_start" 507, vs "_prefix_map" 508, vs "_preserve_space" 509, vs "_qname_aware_tags" 510, vs "_rewrite_prefixes" 511, vs "_root_done" 512, vs "_root_seen" 513, vs "_strip_text" 514, vs "_with_comments" 515, vs "_write" 516]),
 (149, di [en P "__module__" 367 (vs "cpy313.xml.etree.ElementTree" 289), en P "__firstlineno__" 371 (vi 11 370), en P "__init__" 393 (vr 67), en P "_iter_namespaces" 403 (vr 75), en P "_resolve_prefix_name" 415 (vr 82), en P "_qname" 428 (vr 90), en P "data" 436 (vr 97), en P "_flush" 449 (vr 106), en P "start_ns" 458 (vr 113), en P "start" 468 (vr 120), en P "_start" 474 (vr 126), en P "end" 482 (vr 133), en P "comment" 490 (vr 140), en P "pi" 499 (vr 147), en P "__static_attributes__" 517 (vr 148), en P "__dict__" 519 (vr 151), en P "__weakref__" 521 (vr 152), en P "__doc__" 522 vn] 4),
 (150, Obj.mk (vt "type") none (Data.cls (ClassData.mk (S "C14NWriterTarget") [vt "object"] [vr 150, vt "object"] 149 (S "C14NWriterTarget") true [] [] false none false)) #[none, none, some (vs "C14NWriterTarget" 360), some (vs "C14NWriterTarget" 368), some (vu "object.__new__"), some (vb true)]),
 (151, ob (vt "getset_descriptor") [vs "__dict__" 518, vr 150, vu "function.__dict__", vu "function.__dict__#set"]),
 (152, ob (vt "getset_descriptor") [vs "__weakref__" 520, vr 150, vu "ExceptionGroup.__weakref__", vn]),
 (153, ob (vt "super") [vr 150, vr 150, vr 150]),
 (154, ob (vt "builtin_function_or_method") [vu "object.__init_subclass__", vr 150])]
theorem q7 : Q 7 661 T6 53 360 ⟨10, 0, 10, 23⟩ T7 155 525 ⟨11, 0, 175, 16⟩ := fun w p b os => by kernel_rfl
def T8 (P : Params) : BT := let G := getT (T7 P); putT (T7 P) [(3, pushG P (G 3) "_escape_cdata_c14n" 531 161),
 (29, pushF (G 29) [vi 176 0, vi 0 0, vr 160]),
 (155, tu []),
 (156, fl []),
 (157, tu [vs "text" 528]),
 (158, tu []),
 (159, fR "_escape_cdata_c14n" "_escape_cdata_c14n" (qd 8)),
 (160, cO "_escape_cdata_c14n" "_escape_cdata_c14n" 525 176 1 0 0 3 155 true 156 vn (vr 157) (vr 158) (vr 159) 529),
 (161, fO "_escape_cdata_c14n" "_escape_cdata_c14n" (qd 8) vn vn (vs "cpy313.xml.etree.ElementTree" 289) 160)]
theorem q8 : Q 8 30 T7 155 525 ⟨11, 0, 175, 16⟩ T8 162 532 ⟨176, 0, 188, 40⟩ := fun w p b os => by kernel_rfl
def T9 (P : Params) : BT := let G := getT (T8 P); putT (T8 P) [(3, pushG P (G 3) "_escape_attrib_c14n" 538 168),
 (29, pushF (G 29) [vi 189 0, vi 0 0, vr 167]),
 (162, tu []),
 (163, fl []),
 (164, tu [vs "text" 535]),
 (165, tu []),
 (166, fR "_escape_attrib_c14n" "_escape_attrib_c14n" (qd 9)),
 (167, cO "_escape_attrib_c14n" "_escape_attrib_c14n" 532 189 1 0 0 3 162 true 163 vn (vr 164) (vr 165) (vr 166) 536),
 (168, fO "_escape_attrib_c14n" "_escape_attrib_c14n" (qd 9) vn vn (vs "cpy313.xml.etree.ElementTree" 289) 167)]
theorem q9 : Q 9 30 T8 162 532 ⟨176, 0, 188, 40⟩ T9 169 539 ⟨189, 0, 205, 40⟩ := fun w p b os => by kernel_rfl
def T10 (P : Params) : BT := let G := getT (T9 P); putT (T9 P) [(3, setG (G 3) 0 "cpy313.locale" 539)]
theorem q10 : Q 10 10 T9 169 539 ⟨189, 0, 205, 40⟩ T10 169 541 ⟨206, 0, 206, 8⟩ := fun w p b os => by kernel_rfl
def T11 (P : Params) : BT := let G := getT (T10 P); putT (T10 P) [(3, pushG P (G 3) "_strip_padding" 550 175),
 (29, pushF (G 29) [vi 207 0, vi 0 0, vr 174]),
 (169, tu []),
 (170, fl []),
 (171, tu [vs "s" 544, vs "amount" 545, vs "lpos" 546, vs "rpos" 547]),
 (172, tu []),
 (173, fR "_strip_padding" "_strip_padding" (qd 11)),
 (174, cO "_strip_padding" "_strip_padding" 541 207 2 0 0 3 169 true 170 vn (vr 171) (vr 172) (vr 173) 548),
 (175, fO "_strip_padding" "_strip_padding" (qd 11) vn vn (vs "cpy313.locale" 539) 174)]
theorem q11 : Q 11 33 T10 169 541 ⟨206, 0, 206, 8⟩ T11 176 551 ⟨207, 0, 216, 27⟩ := fun w p b os => by kernel_rfl
def T12 (P : Params) : BT := let G := getT (T11 P); putT (T11 P) [(3, setG (G 3) 0 "cpy313.netrc" 551)]
theorem q12 : Q 12 10 T11 176 551 ⟨207, 0, 216, 27⟩ T12 176 553 ⟨217, 0, 217, 8⟩ := fun w p b os => by kernel_rfl
def T13 (P : Params) : BT := let G := getT (T12 P); putT (T12 P) [(3, pushG P (G 3) "_netrclex" 610 213),
 (29, pushF (G 29) [vi 218 0, vi 0 0, vr 181]),
 (176, tu []),
 (177, ob (vt "builtin_function_or_method") [vu "type.__prepare__", vt "type"]),
 (178, di [en P "__module__" 560 (vs "cpy313.netrc" 551), en P "__qualname__" 562 (vs "_netrclex" 561), en P "__firstlineno__" 564 (vi 218 563), en P "__init__" 572 (vr 189), en P "_read_char" 580 (vr 196), en P "get_token" 590 (vr 203), en P "push_token" 598 (vr 210), en P "__static_attributes__" 603 (vr 211)] 8),
 (179, tu []),
 (180, fl [vi 220 0, vi 4 0, vr 188, vi 226 0, vi 4 0, vr 195, vi 232 0, vi 4 0, vr 202, vi 259 0, vi 4 0, vr 209]),
 (181, cO "_netrclex" "_netrclex" 555 218 0 0 0 0 179 false 180 vn vn vn vn 558),
 (182, Obj.mk (vt "frame") none .plain #[some (vr 181), some (vr 3), some (vr 178), none, some (vs "cpy313.netrc" 551), none, some (vr 0)]),
 (183, tu []),
 (184, fl []),
 (185, tu [vs "self" 568, vs "fp" 569]),
 (186, tu []),
 (187, fR "__init__" "_netrclex.__init__" (qc 13 0)),
 (188, cO "__init__" "_netrclex.__init__" 565 220 2 0 0 3 183 true 184 vn (vr 185) (vr 186) (vr 187) 570),
 (189, fO "__init__" "_netrclex.__init__" (qc 13 0) vn vn (vs "cpy313.netrc" 551) 188),
 (190, tu []),
 (191, fl []),
 (192, tu [vs "self" 576, vs "ch" 577]),
 (193, tu []),
 (194, fR "_read_char" "_netrclex._read_char" (qc 13 1)),
 (195, cO "_read_char" "_netrclex._read_char" 573 226 1 0 0 3 190 true 191 vn (vr 192) (vr 193) (vr 194) 578),
 (196, fO "_read_char" "_netrclex._read_char" (qc 13 1) vn vn (vs "cpy313.netrc" 551) 195),
 (197, tu []),
 (198, fl []),
 (199, tu [vs "self" 584, vs "token" 585, vs "fiter" 586, vs "ch" 587]),
 (200, tu []),
 (201, fR "get_token" "_netrclex.get_token" (qc 13 2)),
 (202, cO "get_token" "_netrclex.get_token" 581 232 1 0 0 3 197 true 198 vn (vr 199) (vr 200) (vr 201) 588),
 (203, fO "get_token" "_netrclex.get_token" (qc 13 2) vn vn (vs "cpy313.netrc" 551) 202),
 (204, tu []),
 (205, fl []),
 (206, tu [vs "self" 594, vs "token" 595]),
 (207, tu []),
 (208, fR "push_token" "_netrclex.push_token" (qc 13 3)),
 (209, cO "push_token" "_netrclex.push_token" 591 259 2 0 0 3 204 true 205 vn (vr 206) (vr 207) (vr 208) 596),
 (210, fO "push_token" "_netrclex.push_token" (qc 13 3) vn vn (vs "cpy313.netrc" 551) 209),
 (211, tu [vs "instream" 599, vs "lineno" 600, vs "pushback" 601, vs "whitespace" 602]),
 (212, di [en P "__module__" 560 (vs "cpy313.netrc" 551), en P "__firstlineno__" 564 (vi 218 563), en P "__init__" 572 (vr 189), en P "_read_char" 580 (vr 196), en P "get_token" 590 (vr 203), en P "push_token" 598 (vr 210), en P "__static_attributes__" 603 (vr 211), en P "__dict__" 605 (vr 214), en P "__weakref__" 607 (vr 215), en P "__doc__" 608 vn] 4),
 (213, Obj.mk (vt "type") none (Data.cls (ClassData.mk (S "_netrclex") [vt "object"] [vr 213, vt "object"] 212 (S "_netrclex") true [] [] false none false)) #[none, none, some (vs "_netrclex" 553), some (vs "_netrclex" 561), some (vu "object.__new__"), some (vb true)]),
 (214, ob (vt "getset_descriptor") [vs "__dict__" 604, vr 213, vu "function.__dict__", vu "function.__dict__#set"]),
 (215, ob (vt "getset_descriptor") [vs "__weakref__" 606, vr 213, vu "ExceptionGroup.__weakref__", vn]),
 (216, ob (vt "super") [vr 213, vr 213, vr 213]),
 (217, ob (vt "builtin_function_or_method") [vu "object.__init_subclass__", vr 213])]
theorem q13 : Q 13 324 T12 176 553 ⟨217, 0, 217, 8⟩ T13 218 611 ⟨218, 0, 260, 16⟩ := fun w p b os => by kernel_rfl
def T14 (P : Params) : BT := let G := getT (T13 P); putT (T13 P) [(3, setG (G 3) 0 "cpy313.stringprep" 611)]
theorem q14 : Q 14 10 T13 218 611 ⟨218, 0, 260, 16⟩ T14 218 613 ⟨261, 0, 261, 8⟩ := fun w p b os => by kernel_rfl
noncomputable def b1O (P : Params) : Obj := PySem.Obj.mk (PySem.Value.type "set") none (PySem.Data.set #[(65024, .int 65024 629), (65025, .int 65025 630), (65026, .int 65026 631), (65027, .int 65027 632), (65028, .int 65028 633), (65029, .int 65029 634), (6150, .int 6150 615), (65030, .int 65030 635), (65031, .int 65031 636), (65032, .int 65032 637), (65033, .int 65033 638), (6155, .int 6155 616), (6156, .int 6156 617), (6157, .int 6157 618), (8203, .int 8203 619), (8204, .int 8204 620), (8205, .int 8205 621), (65034, .int 65034 639), (65035, .int 65035 640), (65036, .int 65036 641), (65037, .int 65037 642), (65038, .int 65038 643), (65039, .int 65039 644), (173, .int 173 613), (847, .int 847 614), (8288, .int 8288 622), (65279, .int 65279 623)] 29 { mask := 127, place := #[0, 1, 2, 3, 4, 5, 6, 7, 8, 9, 10, 11, 12, 13, 14, 15, 16, 17, 18, 19, 20, 21, 22, 45, 79, 96, 127], dummies := #[], finger := 0, led := !(P.followText "set-order"), moves := 2, plain := true }) #[]
def T15 (P : Params) : BT := let G := getT (T14 P); putT (T14 P) [(3, pushG P (G 3) "b1_set" 672 225),
 (218, Obj.mk (vt "list") none (Data.seq #[vi 173 613, vi 847 614, vi 6150 615, vi 6155 616, vi 6156 617, vi 6157 618, vi 8203 619, vi 8204 620, vi 8205 621, vi 8288 622, vi 65279 623] 0) #[]),
 (219, ob (vt "range") [vi 65024 624, vi 65040 625, vi 1 626]),
 (220, Obj.mk (vt "list") none (Data.seq #[vi 65024 629, vi 65025 630, vi 65026 631, vi 65027 632, vi 65028 633, vi 65029 634, vi 65030 635, vi 65031 636, vi 65032 637, vi 65033 638, vi 65034 639, vi 65035 640, vi 65036 641, vi 65037 642, vi 65038 643, vi 65039 644] 18) #[]),
 (221, ob (vt "range_iterator") [vi 65040 0, vi 0 0, vi 1 0]),
 (222, tu []),
 (223, ob (vt "StopIteration") [vr 222, vn, vn, vn, vb false, vn]),
 (224, Obj.mk (vt "list") none (Data.seq #[vi 173 613, vi 847 614, vi 6150 615, vi 6155 616, vi 6156 617, vi 6157 618, vi 8203 619, vi 8204 620, vi 8205 621, vi 8288 622, vi 65279 623, vi 65024 629, vi 65025 630, vi 65026 631, vi 65027 632, vi 65028 633, vi 65029 634, vi 65030 635, vi 65031 636, vi 65032 637, vi 65033 638, vi 65034 639, vi 65035 640, vi 65036 641, vi 65037 642, vi 65038 643, vi 65039 644] 0) #[]),
 (225, b1O P),
 (226, ob (vt "list_iterator") [vn, vi 27 0]),
 (227, tu []),
 (228, ob (vt "StopIteration") [vr 227, vn, vn, vn, vb false, vn])]
def Q15 (w : World) : Prop := ∀ (p : Program) (b : List Stmt) (os : OsState), PySem.W.Fast.rA (stx 15) env1 p b w os 999 T14 218 613 ⟨261, 0, 261, 8⟩ = some (.next, stT T15 w os 229 673, Code.body b env1, ⟨262, 0, 262, 6⟩)
theorem q15false (w : World) : Q15 (w.withFollow "special-get-raises" false) := fun p b os => by kernel_rfl
theorem q15true (w : World) : Q15 (w.withFollow "special-get-raises" true) := fun p b os => by kernel_rfl
theorem q15 : Q 15 999 T14 218 613 ⟨261, 0, 261, 8⟩ T15 229 673 ⟨262, 0, 262, 6⟩ := fun w => byRow2 (P := Q15) "special-get-raises" q15false q15true w
def T16 (P : Params) : BT := let G := getT (T15 P); putT (T15 P) [(3, pushG P (G 3) "in_table_b1" 679 235),
 (29, pushF (G 29) [vi 263 0, vi 0 0, vr 234]),
 (229, tu []),
 (230, fl []),
 (231, tu [vs "code" 676]),
 (232, tu []),
 (233, fR "in_table_b1" "in_table_b1" (qd 16)),
 (234, cO "in_table_b1" "in_table_b1" 673 263 1 0 0 3 229 true 230 vn (vr 231) (vr 232) (vr 233) 677),
 (235, fO "in_table_b1" "in_table_b1" (qd 16) vn vn (vs "cpy313.stringprep" 611) 234)]
theorem q16 : Q 16 30 T15 229 673 ⟨262, 0, 262, 6⟩ T16 236 680 ⟨263, 0, 264, 30⟩ := fun w p b os => by kernel_rfl
end
end
section
set_option maxRecDepth 100000
set_option maxHeartbeats 8000000
noncomputable section
noncomputable def asQ : Stmt → List Expr × Expr × Pos
 | .Assign ts v p => (ts, v, p)
 | _ => ([], default, default)
noncomputable def diQ : Expr → List (Option Expr) × List Expr × Pos
 | .Dict ks vs p => (ks, vs, p)
 | _ => ([], [], default)
noncomputable def as17 : List Expr × Expr × Pos := one ([], default, default) asQ (stx 17)
noncomputable def ks17 : List (Option Expr) := (diQ as17.2.1).1
noncomputable def vs17 : List Expr := (diQ as17.2.1).2.1
noncomputable def dp17 : Pos := (diQ as17.2.1).2.2
noncomputable def sp17 : Pos := as17.2.2
noncomputable def tn17 : Expr := one default id as17.1
noncomputable def cQ : Expr → Option Const
 | .Constant v _ _ => some v
 | _ => none
noncomputable def iQ : Const → Option Int
 | .int k => some k
 | _ => none
noncomputable def sQ : Const → Option Str
 | .str x => some x
 | _ => none
theorem cQ_is {e : Expr} {v : Const} (h : cQ e = some v) : ∃ a b, e = .Constant v a b := by
 cases e <;> cases h
 exact ⟨_, _, rfl⟩
theorem iQ_is {e : Const} {v : Int} (h : iQ e = some v) : e = .int v := by
 cases e <;> cases h
 rfl
theorem sQ_is {e : Const} {v : Str} (h : sQ e = some v) : e = .str v := by
 cases e <;> cases h
 rfl
noncomputable def litO : List (Option Expr) → List Expr → Option (List (Int × Str))
 | k :: ks, v :: vs => (k.bind cQ).bind fun c => (iQ c).bind fun i => (cQ v).bind fun d => (sQ d).bind fun x => if hashInt i = i then (litO ks vs).map ((i, x) :: ·) else none
 | [], [] => some []
 | _, _ => none
theorem litO_cons {k : Option Expr} {v : Expr} {ks : List (Option Expr)} {vs : List Expr} {l : List (Int × Str)} (h : litO (k :: ks) (v :: vs) = some l) :
  ∃ i x r a b a' b', k = some (.Constant (.int i) a b) ∧ v = .Constant (.str x) a' b' ∧ hashInt i = i ∧ litO ks vs = some r ∧ l = (i, x) :: r := by
 change ((k.bind cQ).bind fun c => (iQ c).bind fun i => (cQ v).bind fun d => (sQ d).bind fun x => if hashInt i = i then (litO ks vs).map ((i, x) :: ·) else none) = some l at h
 simp only [Option.bind_eq_some_iff] at h
 obtain ⟨c, ⟨e, rfl, h0⟩, i, h1, d, h2, x, h3, h4⟩ := h
 obtain ⟨a, b, rfl⟩ := cQ_is h0
 obtain ⟨a', b', rfl⟩ := cQ_is h2
 cases iQ_is h1
 cases sQ_is h3
 split at h4
 ·next hh =>
  obtain ⟨r, h5, rfl⟩ := Option.map_eq_some_iff.mp h4
  exact ⟨i, x, r, a, b, a', b', rfl, rfl, hh, h5, rfl⟩
 ·cases h4
theorem litO_hash : ∀ {ks : List (Option Expr)} {vs : List Expr} {l : List (Int × Str)}, litO ks vs = some l → ∀ q ∈ l, hashInt q.1 = q.1
 | [], [], _, h, q, hq => by cases h; cases hq
 | [], _ :: _, _, h, q, hq => by cases h
 | _ :: _, [], _, h, q, hq => by cases h
 | k :: ks, v :: vs, _, h, q, hq => by
  obtain ⟨i, x, r, a, b, a', b', rfl, rfl, hh, h5, rfl⟩ := litO_cons h
  rcases List.mem_cons.mp hq with rfl | hq
  ·exact hh
  ·exact litO_hash h5 q hq
noncomputable def b3T : List (Int × Str) := (litO ks17 vs17).getD []
noncomputable def o17 : List Obj := dO (ents 3 680 (b3T.take 646) ++ ents 2 2618 (b3T.drop 646)) 650 :: (garb 731 (b3T.drop 17) 37 ++ [dO (ents 2 2618 (b3T.drop 646)) 4])
def T17a (P : Params) : BT := insAll (T16 P) 236 o17
def T17 (P : Params) : BT := putT (T17a P) [(3, pushG P (getT (T17a P) 3) "b3_exceptions" 2630 236)]
noncomputable def srtB : List (Int × Str) → Bool
 | a :: b :: r => decide (a.1 < b.1) && srtB (b :: r)
 | _ => true
theorem srtB_spec : ∀ {l : List (Int × Str)}, srtB l = true → Srt l
 | [], _ => by simp [Srt]
 | [a], _ => by simp [Srt]
 | a :: b :: r, h => by
  simp only [srtB, Bool.and_eq_true, decide_eq_true_eq] at h
  have ih := srtB_spec h.2
  refine List.pairwise_cons.mpr ⟨fun x hx => ?_, ih⟩
  rcases List.mem_cons.mp hx with rfl | hx
  ·exact h.1
  ·exact Int.lt_trans h.1 ((List.pairwise_cons.mp ih).1 x hx)
theorem lit_items {PP : Program} {w : World} {c : Code} {dp : Pos} {env : Env} : ∀ {ks : List (Option Expr)} {vs : List Expr} {l : List (Int × Str)}, litO ks vs = some l →
  ∃ ms, (evalEachOpt ks env).zip ((evalEach vs env).map fun v => (do let x ← v; standAt dp; pure x : Sem Value)) = ms.map Jn ∧ Items PP w c dp ms l
 | [], [], _, h => by cases h; exact ⟨[], rfl, .nil⟩
 | [], _ :: _, _, h => by cases h
 | _ :: _, [], _, h => by cases h
 | k :: ks, v :: vs, _, h => by
  obtain ⟨i, x, r, a, b, a', b', rfl, rfl, hh, h5, rfl⟩ := litO_cons h
  obtain ⟨ms, e, it⟩ := lit_items (PP := PP) (w := w) (c := c) (dp := dp) (env := env) h5
  refine ⟨(eval (.Constant (.int i) a b) env, (do let x ← eval (.Constant (.str x) a' b') env; standAt dp; pure x)) :: ms, ?_, .cons ⟨hh, fun s => ?_, fun s => ?_⟩ it⟩
  ·exact congrArg (List.cons _) e
  ·rw [arm_eval_Constant]
   exact Ev.bind (n := 1) (n₁ := 0) Ev.fresh Ev.pure
  ·rw [arm_eval_Constant]
   refine Ev.bind (n := 1) (n₁ := 1) (a := .str x s.toks) (s₁ := { s with toks := s.toks + 1 }) (p₁ := dp) (Ev.bind (n := 1) (n₁ := 0) Ev.fresh Ev.pure) ?_
   exact Ev.bind (n := 1) (n₁ := 0) Ev.standAt Ev.pure
theorem ok17 : litO ks17 vs17 = some b3T := by kernel_rfl
theorem srt17 : srtB b3T = true := by kernel_rfl
theorem len17 : b3T.length = 650 := by kernel_rfl
theorem stx17 : stx 17 = [.Assign [tn17] (.Dict ks17 vs17 dp17) sp17] := by kernel_rfl
noncomputable def insOk : BT → Nat → List Obj → Bool
 | _, _, [] => true
 | t, n, o :: r => ((t.ins n o).get n).isSome && insOk (t.ins n o) (n + 1) r
theorem abs_insAll {life : Life} : ∀ {t : BT} {n : Nat} {os : List Obj}, insOk t n os = true → absHeap (insAll t n os) (n + os.length) life = L (absHeap t n life) os
 | t, n, [], _ => by rw [L_nil]; rfl
 | t, n, o :: r, h => by
  simp only [insOk, Bool.and_eq_true] at h
  have ih := abs_insAll (life := life) h.2
  rw [absHeap_ins h.1] at ih
  rw [insAll, show n + (o :: r).length = n + 1 + r.length by rw [List.length_cons]; omega, ih]
  simp [L, Heap.push]
theorem ins17 (P : Params) : insOk (T16 P) 236 o17 = true := by kernel_rfl
theorem len_o17 : o17.length = 39 := by kernel_rfl
def Pre {α : Type} (PP : Program) (w : World) (c : Code) (m : Sem α) (s : Shared) (p : Pos) (n : Nat) (m' : Sem α) (s' : Shared) (p' : Pos) : Prop :=
 ∀ (K : α → Sem Fin) (H : Value → Sem Fin) (gd : Bool → Bool) (lv : List Value → List Value), ∃ k, k ≤ n ∧
  segGo treeTable PP w 28 (some (Value.ref 6)) 1 k s ⟨m.wrap K H gd lv, c, p, [topFrame ⟨0, 0, 0, 0⟩]⟩ = some (s', ⟨m'.wrap K H gd lv, c, p', [topFrame ⟨0, 0, 0, 0⟩]⟩)
section
variable {α β : Type} {PP : Program} {w : World} {c : Code} {s s₁ s₂ : Shared} {p p₁ p₂ : Pos} {n n₁ : Nat} {a : α}
theorem Pre.bind {m : Sem α} {f : α → Sem β} (h : Ev PP w c m s p n a s₁ p₁) : Pre PP w c (m >>= f) s p n (f a) s₁ p₁ := fun K H gd lv => by
 obtain ⟨k, l, e⟩ := h (fun a => (f a).wrap K H gd lv) (fun e => (Sem.raise e : Sem β).wrap K H gd lv) gd lv
 refine ⟨k, l, ?_⟩
 rw [Sem.bind_eq_wrap', Sem.wrap_wrap]
 exact e
theorem Pre.trans {m m₁ m₂ : Sem α} (h : Pre PP w c m s p n m₁ s₁ p₁) (g : Pre PP w c m₁ s₁ p₁ n₁ m₂ s₂ p₂) : Pre PP w c m s p (n + n₁) m₂ s₂ p₂ := fun K H gd lv => by
 obtain ⟨k, l, e⟩ := h K H gd lv
 obtain ⟨k₁, l₁, e₁⟩ := g K H gd lv
 exact ⟨k + k₁, Nat.add_le_add l l₁, segGo_add e e₁⟩
theorem Pre.inner {m m' : Sem α} {f : α → Sem β} (h : Pre PP w c m s p n m' s₁ p₁) : Pre PP w c (m >>= f) s p n (m' >>= f) s₁ p₁ := fun K H gd lv => by
 obtain ⟨k, l, e⟩ := h (fun a => (f a).wrap K H gd lv) (fun e => (Sem.raise e : Sem β).wrap K H gd lv) gd lv
 refine ⟨k, l, ?_⟩
 rw [Sem.bind_eq_wrap', Sem.wrap_wrap, Sem.bind_eq_wrap', Sem.wrap_wrap]
 exact e
end
noncomputable def tailG (ts : List Expr) (ks : List (Option Expr)) (vs : List Expr) (dp : Pos) (env : Env) : Sem Flow :=
 (do assignStores env (.ref 236) (← swappedStores ts (.Dict ks vs dp) env) ((assignEach ts env).map (·.2))) >>= fun r => match r with
  | .next => execs [] env
  | f => pure f
noncomputable def oG (l : List (Int × Str)) (n r t : Nat) : List Obj := dO (ents 3 t (l.take (17 * (n + 1))) ++ ents 2 (t + 51 * (n + 1)) (l.drop (17 * (n + 1)))) l.length :: (garb (t + 51) (l.drop 17) n ++ [dO (ents 2 (t + 51 * (n + 1)) (l.drop (17 * (n + 1)))) r])
theorem preG (PP : Program) (w : World) (c : Code) (env : Env) (p sp dp : Pos) (tn : Expr) (ks : List (Option Expr)) (vs : List Expr) (h : Heap) (g : Array GenState) (dr : Drawn) (t : Nat) (o : OsState) (n r : Nat)
  {l : List (Int × Str)} (ok : litO ks vs = some l) (srt : srtB l = true) (len : l.length = 17 * (n + 1) + r) (h0 : 0 < r) (h15 : r ≤ 15) (hz : l.length < 880) (h236 : h.objs.size = 236) :
  Pre PP w c (execs [.Assign [tn] (.Dict ks vs dp) sp] env) ⟨h, g, dr, t, o⟩ p (365 * (n + 1) + 21 * r + 12) (tailG [tn] ks vs dp env) ⟨L h (oG l n r t), g, dr, t + 3 * l.length, o⟩ dp := by
 rw [arm_execs_cons, arm_exec_Assign]
 have hsw : swapsWithSole [tn] (.Dict ks vs dp) sp.line env = pure false := rfl
 rw [hsw]
 obtain ⟨ms, e, it⟩ := lit_items (PP := PP) (w := w) (c := c) (dp := dp) (env := env) ok
 have dd := Ev.display (g := g) (dr := dr) (o := o) (t := t) it len h0 h15 (srtB_spec srt) hz (by rw [h236]; omega)
 rw [h236, ← e] at dd
 have hd : Ev PP w c (eval (.Dict ks vs dp) env) ⟨h, g, dr, t, o⟩ sp (1 + (365 * (n + 1) + 21 * r + 10)) (.ref 236) ⟨L h (oG l n r t), g, dr, t + 3 * l.length, o⟩ dp := by
  rw [arm_eval_Dict]
  exact Ev.bind Ev.standAt dd
 intro K H gd lv
 have h1 := fun (T : Sem Flow) => Pre.inner (f := fun r => match r with | .next => execs [] env | f => pure f) (Pre.trans (Pre.bind (p := p) (f := fun _ => (pure false >>= fun b => if b = true then T else (do let v ← eval (.Dict ks vs dp) env; assignStores env v (← swappedStores [tn] (.Dict ks vs dp) env) ((assignEach [tn] env).map (·.2))))) Ev.standAt) (Pre.trans (Pre.bind (f := fun b => if b = true then T else (do let v ← eval (.Dict ks vs dp) env; assignStores env v (← swappedStores [tn] (.Dict ks vs dp) env) ((assignEach [tn] env).map (·.2)))) Ev.pure) (Pre.bind (f := fun v => (do assignStores env v (← swappedStores [tn] (.Dict ks vs dp) env) ((assignEach [tn] env).map (·.2)))) hd)))
 obtain ⟨k, l, x⟩ := h1 _ K H gd lv
 exact ⟨k, by omega, x⟩
theorem stT_abs (T : Params → BT) (w : World) (os : OsState) (n toks : Nat) : (stT T w os n toks).abs = ⟨absHeap (T w.params) n { }, { toList := [] }, { }, toks, os⟩ := rfl
theorem oG17 : oG b3T 37 4 680 = o17 := by
 unfold oG
 rw [len17]
 rfl
theorem pre17 (PP : Program) (w : World) (c : Code) (env : Env) (os : OsState) (p : Pos) :
  Pre PP w c (execs (stx 17) env) (stT T16 w os 236 680).abs p 14000 (tailG [tn17] ks17 vs17 dp17 env) (stT T17a w os 275 2630).abs dp17 := by
 have h := preG PP w c env p sp17 dp17 tn17 ks17 vs17 (absHeap (T16 w.params) 236 { }) { toList := [] } { } 680 os 37 4 ok17 srt17 len17 (by omega) (by omega) (Nat.lt_of_le_of_lt (Nat.le_of_eq len17) (by omega)) (absHeap_size _ _ _)
 have e1 : oG (b3T) 37 4 680 = o17 := oG17
 have e2 : (b3T).length = 650 := len17
 have e3 := abs_insAll (life := { }) (ins17 w.params)
 rw [len_o17] at e3
 rw [e1, e2, ← e3, ← stx17] at h
 rw [stT_abs, stT_abs]
 intro K H gd lv
 obtain ⟨k, l, x⟩ := h K H gd lv
 exact ⟨k, by omega, x⟩
noncomputable def runTl (ts : List Expr) (ks : List (Option Expr)) (vs : List Expr) (dp : Pos) (v : Env) (T : Params → BT) (p : Program) (b : List Stmt) (w : World) (os : OsState) : Option (Flow × SharedT × Code × Pos) :=
 segRunT treeTable p w 28 (some (Value.ref 6)) 1 30 (stT T w os 275 2630) ⟨(tailG ts ks vs dp v).wrap doneF deadEnd id id, Code.body b v, dp, [topFrame ⟨0, 0, 0, 0⟩]⟩
theorem runTl_self : @runTl = @runTl := rfl
name_quick rTl for Mine.Internal.E.runTl by Mine.Internal.E.runTl_self
theorem tlQ (w : World) (p : Program) (b : List Stmt) (os : OsState) : PySem.W.Fast.rTl [tn17] ks17 vs17 dp17 env1 T17a p b w os = some (.next, stT T17 w os 275 2631, Code.body b env1, ⟨265, 0, 265, 13⟩) := by kernel_rfl
theorem tl17 (p : Program) (b : List Stmt) (w : World) (os : OsState) : runTl [tn17] ks17 vs17 dp17 env1 T17a p b w os = some (.next, stT T17 w os 275 2631, Code.body b env1, ⟨265, 0, 265, 13⟩) := by
 rw [PySem.W.Fast.rTl_eq]
 exact tlQ w p b os
theorem chain17 (p : Program) (b : List Stmt) (w : World) (os : OsState) (rest : List Stmt) (N : Nat) (r : Shared)
  (k : topRun treeTable p w 28 (some (Value.ref 6)) N (stT T17 w os 275 2631).abs (restOf rest env1 (Code.body b env1) ⟨265, 0, 265, 13⟩ [topFrame ⟨0, 0, 0, 0⟩]) = some r) :
  topRun treeTable p w 28 (some (Value.ref 6)) (14030 + N) (stT T16 w os 236 680).abs (restOf (stx 17 ++ rest) env1 (Code.body b env1) ⟨263, 0, 264, 30⟩ [topFrame ⟨0, 0, 0, 0⟩]) = some r := by
 obtain ⟨m, l, e⟩ := pre17 p w (Code.body b env1) env1 os ⟨263, 0, 264, 30⟩ doneF deadEnd id id
 have q := seg_go e (segRun_of (tl17 p b w os))
 have := topRun_mono (14000 - m) _ _ _ _ (piece_app q k)
 rw [show m + 30 + N + (14000 - m) = 14030 + N by omega] at this
 exact this
def T18 (P : Params) : BT := let G := getT (T17 P); putT (T17 P) [(3, pushG P (G 3) "map_table_b3" 2638 281),
 (29, pushF (G 29) [vi 266 0, vi 0 0, vr 280]),
 (275, tu []),
 (276, fl []),
 (277, tu [vs "code" 2634, vs "r" 2635]),
 (278, tu []),
 (279, fR "map_table_b3" "map_table_b3" (qd 18)),
 (280, cO "map_table_b3" "map_table_b3" 2631 266 1 0 0 3 275 true 276 vn (vr 277) (vr 278) (vr 279) 2636),
 (281, fO "map_table_b3" "map_table_b3" (qd 18) vn vn (vs "cpy313.stringprep" 611) 280)]
theorem q18 : Q 18 31 T17 275 2631 ⟨265, 0, 265, 13⟩ T18 282 2639 ⟨266, 0, 270, 23⟩ := fun w p b os => by kernel_rfl
def T19 (P : Params) : BT := let G := getT (T18 P); putT (T18 P) [(3, setG (G 3) 0 "law_to0089_01" 2639)]
theorem q19 : Q 19 10 T18 282 2639 ⟨266, 0, 270, 23⟩ T19 282 2641 ⟨271, 0, 271, 8⟩ := fun w p b os => by kernel_rfl
def T20 (P : Params) : BT := let G := getT (T19 P); putT (T19 P) [(3, pushG P (G 3) "_law_lexer" 2651 288),
 (29, pushF (G 29) [vi 272 0, vi 0 0, vr 287]),
 (282, tu []),
 (283, fl []),
 (284, tu [vs "text" 2644, vs "stream" 2645, vs "_law_piece" 2646]),
 (285, tu [vs "text" 2647, vs "gone" 2648]),
 (286, fR "_law_lexer" "_law_lexer" (qd 20)),
 (287, cO "_law_lexer" "_law_lexer" 2641 272 1 0 0 3 282 true 283 vn (vr 284) (vr 285) (vr 286) 2649),
 (288, fO "_law_lexer" "_law_lexer" (qd 20) vn vn (vs "law_to0089_01" 2639) 287)]
theorem q20 : Q 20 34 T19 282 2641 ⟨271, 0, 271, 8⟩ T20 289 2652 ⟨272, 0, 281, 28⟩ := fun w p b os => by kernel_rfl
def T21 (P : Params) : BT := let G := getT (T20 P); putT (T20 P) [(3, pushG P (G 3) "_law_words" 2660 295),
 (29, pushF (G 29) [vi 282 0, vi 0 0, vr 294]),
 (289, tu []),
 (290, fl []),
 (291, tu [vs "lexer" 2655, vs "words" 2656, vs "word" 2657]),
 (292, tu []),
 (293, fR "_law_words" "_law_words" (qd 21)),
 (294, cO "_law_words" "_law_words" 2652 282 1 0 0 3 289 true 290 vn (vr 291) (vr 292) (vr 293) 2658),
 (295, fO "_law_words" "_law_words" (qd 21) vn vn (vs "law_to0089_01" 2639) 294)]
theorem q21 : Q 21 32 T20 289 2652 ⟨272, 0, 281, 28⟩ T21 296 2661 ⟨282, 0, 288, 16⟩ := fun w p b os => by kernel_rfl
def T22 (P : Params) : BT := let G := getT (T21 P); putT (T21 P) [(3, pushG P (G 3) "_law_prepared" 2666 300),
 (29, pushF (G 29) [vi 289 0, vi 0 0, vr 299]),
 (296, tu []),
 (297, fl []),
 (298, fR "_law_prepared" "_law_prepared" (qd 22)),
 (299, cO "_law_prepared" "_law_prepared" 2661 289 1 0 0 3 296 true 297 vn vn vn (vr 298) 2664),
 (300, fO "_law_prepared" "_law_prepared" (qd 22) vn vn (vs "law_to0089_01" 2639) 299)]
theorem q22 : Q 22 27 T21 296 2661 ⟨282, 0, 288, 16⟩ T22 301 2667 ⟨289, 0, 290, 82⟩ := fun w p b os => by kernel_rfl
def T23 (P : Params) : BT := let G := getT (T22 P); putT (T22 P) [(3, pushG P (G 3) "_law_numbers" 2672 305),
 (29, pushF (G 29) [vi 291 0, vi 0 0, vr 304]),
 (301, tu []),
 (302, fl []),
 (303, fR "_law_numbers" "_law_numbers" (qd 23)),
 (304, cO "_law_numbers" "_law_numbers" 2667 291 1 0 0 3 301 true 302 vn vn vn (vr 303) 2670),
 (305, fO "_law_numbers" "_law_numbers" (qd 23) vn vn (vs "law_to0089_01" 2639) 304)]
theorem q23 : Q 23 27 T22 301 2667 ⟨289, 0, 290, 82⟩ T23 306 2673 ⟨291, 0, 293, 66⟩ := fun w p b os => by kernel_rfl
def T24 (P : Params) : BT := let G := getT (T23 P); putT (T23 P) [(3, pushG P (G 3) "_law_paths" 2681 312),
 (29, pushF (G 29) [vi 294 0, vi 0 0, vr 311]),
 (306, tu []),
 (307, fl []),
 (308, tu [vs "numbers" 2676, vs "paths" 2677, vs "place" 2678]),
 (309, tu []),
 (310, fR "_law_paths" "_law_paths" (qd 24)),
 (311, cO "_law_paths" "_law_paths" 2673 294 1 0 0 3 306 true 307 vn (vr 308) (vr 309) (vr 310) 2679),
 (312, fO "_law_paths" "_law_paths" (qd 24) vn vn (vs "law_to0089_01" 2639) 311)]
theorem q24 : Q 24 32 T23 306 2673 ⟨291, 0, 293, 66⟩ T24 313 2682 ⟨294, 0, 298, 16⟩ := fun w p b os => by kernel_rfl
def T25 (P : Params) : BT := let G := getT (T24 P); putT (T24 P) [(3, pushG P (G 3) "_law_text" 2688 319),
 (29, pushF (G 29) [vi 299 0, vi 0 0, vr 318]),
 (313, tu []),
 (314, fl []),
 (315, tu [vs "number" 2685]),
 (316, tu []),
 (317, fR "_law_text" "_law_text" (qd 25)),
 (318, cO "_law_text" "_law_text" 2682 299 1 0 0 3 313 true 314 vn (vr 315) (vr 316) (vr 317) 2686),
 (319, fO "_law_text" "_law_text" (qd 25) vn vn (vs "law_to0089_01" 2639) 318)]
theorem q25 : Q 25 30 T24 313 2682 ⟨294, 0, 298, 16⟩ T25 320 2689 ⟨299, 0, 300, 62⟩ := fun w p b os => by kernel_rfl
def T26 (P : Params) : BT := let G := getT (T25 P); putT (T25 P) [(3, pushG P (G 3) "_law_name" 2700 326),
 (29, pushF (G 29) [vi 301 0, vi 0 0, vr 325]),
 (320, tu []),
 (321, fl []),
 (322, tu [vs "letter" 2692, vs "number" 2693, vs "unseen" 2694, vs "firsts" 2695, vs "kind" 2696, vs "turn" 2697]),
 (323, tu []),
 (324, fR "_law_name" "_law_name" (qd 26)),
 (325, cO "_law_name" "_law_name" 2689 301 2 0 0 3 320 true 321 vn (vr 322) (vr 323) (vr 324) 2698),
 (326, fO "_law_name" "_law_name" (qd 26) vn vn (vs "law_to0089_01" 2639) 325)]
theorem q26 : Q 26 35 T25 320 2689 ⟨299, 0, 300, 62⟩ T26 327 2701 ⟨301, 0, 309, 77⟩ := fun w p b os => by kernel_rfl
def T27 (P : Params) : BT := let G := getT (T26 P); putT (T26 P) [(3, pushG P (G 3) "_law_told" 2713 333),
 (29, pushF (G 29) [vi 310 0, vi 0 0, vr 332]),
 (327, tu []),
 (328, fl []),
 (329, tu [vs "writer" 2704, vs "paths" 2705, vs "numbers" 2706, vs "path" 2707, vs "number" 2708, vs "name" 2709, vs "longer" 2710]),
 (330, tu []),
 (331, fR "_law_told" "_law_told" (qd 27)),
 (332, cO "_law_told" "_law_told" 2701 310 4 0 0 3 327 true 328 vn (vr 329) (vr 330) (vr 331) 2711),
 (333, fO "_law_told" "_law_told" (qd 27) vn vn (vs "law_to0089_01" 2639) 332)]
theorem q27 : Q 27 36 T26 327 2701 ⟨301, 0, 309, 77⟩ T27 334 2714 ⟨310, 0, 319, 20⟩ := fun w p b os => by kernel_rfl
def T28 (P : Params) : BT := let G := getT (T27 P); putT (T27 P) [(3, pushG P (G 3) "_law_due" 2719 338),
 (29, pushF (G 29) [vi 320 0, vi 0 0, vr 337]),
 (334, tu []),
 (335, fl []),
 (336, fR "_law_due" "_law_due" (qd 28)),
 (337, cO "_law_due" "_law_due" 2714 320 2 0 0 3 334 true 335 vn vn vn (vr 336) 2717),
 (338, fO "_law_due" "_law_due" (qd 28) vn vn (vs "law_to0089_01" 2639) 337)]
theorem q28 : Q 28 27 T27 334 2714 ⟨310, 0, 319, 20⟩ T28 339 2720 ⟨320, 0, 328, 14⟩ := fun w p b os => by kernel_rfl
def T29 (P : Params) : BT := let G := getT (T28 P); putT (T28 P) [(3, pushG P (G 3) "_law_ties" 2725 343),
 (29, pushF (G 29) [vi 329 0, vi 0 0, vr 342]),
 (339, tu []),
 (340, fl []),
 (341, fR "_law_ties" "_law_ties" (qd 29)),
 (342, cO "_law_ties" "_law_ties" 2720 329 2 0 0 3 339 true 340 vn vn vn (vr 341) 2723),
 (343, fO "_law_ties" "_law_ties" (qd 29) vn vn (vs "law_to0089_01" 2639) 342)]
theorem q29 : Q 29 27 T28 339 2720 ⟨320, 0, 328, 14⟩ T29 344 2726 ⟨329, 0, 331, 64⟩ := fun w p b os => by kernel_rfl
def T30 (P : Params) : BT := let G := getT (T29 P); putT (T29 P) [(3, pushG P (G 3) "_law_degrees" 2737 350),
 (29, pushF (G 29) [vi 332 0, vi 0 0, vr 349]),
 (344, tu []),
 (345, fl []),
 (346, tu [vs "words" 2729, vs "degrees" 2730, vs "opened" 2731, vs "place" 2732, vs "word" 2733, vs "holder" 2734]),
 (347, tu []),
 (348, fR "_law_degrees" "_law_degrees" (qd 30)),
 (349, cO "_law_degrees" "_law_degrees" 2726 332 1 0 0 3 344 true 345 vn (vr 346) (vr 347) (vr 348) 2735),
 (350, fO "_law_degrees" "_law_degrees" (qd 30) vn vn (vs "law_to0089_01" 2639) 349)]
theorem q30 : Q 30 35 T29 344 2726 ⟨329, 0, 331, 64⟩ T30 351 2738 ⟨332, 0, 340, 18⟩ := fun w p b os => by kernel_rfl
def T31 (P : Params) : BT := let G := getT (T30 P); putT (T30 P) [(3, pushG P (G 3) "_law_apart" 2743 355),
 (29, pushF (G 29) [vi 341 0, vi 0 0, vr 354]),
 (351, tu []),
 (352, fl []),
 (353, fR "_law_apart" "_law_apart" (qd 31)),
 (354, cO "_law_apart" "_law_apart" 2738 341 4 0 0 3 351 true 352 vn vn vn (vr 353) 2741),
 (355, fO "_law_apart" "_law_apart" (qd 31) vn vn (vs "law_to0089_01" 2639) 354)]
theorem q31 : Q 31 27 T30 351 2738 ⟨332, 0, 340, 18⟩ T31 356 2744 ⟨341, 0, 344, 103⟩ := fun w p b os => by kernel_rfl
def T32 (P : Params) : BT := let G := getT (T31 P); putT (T31 P) [(3, pushG P (G 3) "law" 2749 360),
 (29, pushF (G 29) [vi 345 0, vi 0 0, vr 359]),
 (356, tu []),
 (357, fl []),
 (358, fR "law" "law" (qd 32)),
 (359, cO "law" "law" 2744 345 1 0 0 3 356 true 357 vn vn vn (vr 358) 2747),
 (360, fO "law" "law" (qd 32) vn vn (vs "law_to0089_01" 2639) 359)]
theorem q32 : Q 32 27 T31 356 2744 ⟨341, 0, 344, 103⟩ T32 361 2750 ⟨345, 0, 366, 68⟩ := fun w p b os => by kernel_rfl
end
end
section
set_option maxRecDepth 100000
set_option maxHeartbeats 8000000
noncomputable section
def H0 (P : Params) : Heap := Heap.mk (Array.mk (h0L P)) { }
noncomputable def run0 (p : Program) (w : World) : Option (Heap × Array GenState × Drawn × Nat) := (fencedOpening treeTable p w 20000).map fun s => (s.heap, s.gens, s.drawn, s.toks)
theorem run0_self : @run0 = @run0 := rfl
name_quick r0 for Mine.Internal.E.run0 by Mine.Internal.E.run0_self
theorem opened (w : World) : PySem.W.Fast.r0 PW w = some (H0 w.params, { toList := [] }, { }, 276) := by kernel_rfl
noncomputable def bd : List Stmt := behindTheImports PW
theorem bd_eq : bd = stx 1 ++ (stx 2 ++ (stx 3 ++ (stx 4 ++ (stx 5 ++ (stx 6 ++ (stx 7 ++ (stx 8 ++ (stx 9 ++ (stx 10 ++ (stx 11 ++ (stx 12 ++ (stx 13 ++ (stx 14 ++ (stx 15 ++ (stx 16 ++ (stx 17 ++ (stx 18 ++ (stx 19 ++ (stx 20 ++ (stx 21 ++ (stx 22 ++ (stx 23 ++ (stx 24 ++ (stx 25 ++ (stx 26 ++ (stx 27 ++ (stx 28 ++ (stx 29 ++ (stx 30 ++ (stx 31 ++ (stx 32 ++ ([])))))))))))))))))))))))))))))))) := by kernel_rfl
noncomputable def s28 (H : Params → Heap) (w : World) (os : OsState) : Shared := ⟨H w.params, { toList := [] }, { }, 276, os⟩
noncomputable def runP (p : Program) (H : Params → Heap) (w : World) (os : OsState) : Option (Shared × Thread) := topGo treeTable p w 28 (some (Value.ref 6)) 12 (s28 H w os) (topStub p)
theorem runP_self : @runP = @runP := rfl
name_quick rP for Mine.Internal.E.runP by Mine.Internal.E.runP_self
noncomputable def resP (T : Params → BT) (b : List Stmt) (v : Env) (w : World) (os : OsState) : Option (Shared × Thread) := some ((stT T w os 32 282).abs, ⟨denote treeTable (Code.body b v), Code.body b v, ⟨0, 0, 0, 0⟩, [topFrame ⟨0, 0, 0, 0⟩]⟩)
theorem resP_self : @resP = @resP := rfl
name_quick rPr for Mine.Internal.E.resP by Mine.Internal.E.resP_self
theorem preQ (w : World) (os : OsState) : PySem.W.Fast.rP PW H0 w os = PySem.W.Fast.rPr T0 bd env1 w os := by kernel_rfl
theorem pre (w : World) (os : OsState) : runP PW H0 w os = resP T0 bd env1 w os := by
 rw [PySem.W.Fast.rP_eq, PySem.W.Fast.rPr_eq]
 exact preQ w os
noncomputable def runB (p : Program) (T : Params → BT) (b : List Stmt) (v : Env) (w : World) (os : OsState) : Option (Flow × Shared × Code × Pos) := segRun treeTable p w 28 (some (Value.ref 6)) 1 1 (stT T w os 32 282).abs (blockOf b v (Code.body b v) ⟨0, 0, 0, 0⟩ [topFrame ⟨0, 0, 0, 0⟩])
theorem runB_self : @runB = @runB := rfl
name_quick rB for Mine.Internal.E.runB by Mine.Internal.E.runB_self
theorem blkQ (w : World) (os : OsState) : PySem.W.Fast.rB PW T0 bd env1 w os = some (.next, (stT T0 w os 32 282).abs, Code.body bd env1, ⟨0, 0, 0, 0⟩) := by kernel_rfl
theorem blk (w : World) (os : OsState) : runB PW T0 bd env1 w os = some (.next, (stT T0 w os 32 282).abs, Code.body bd env1, ⟨0, 0, 0, 0⟩) := by
 rw [PySem.W.Fast.rB_eq]
 exact blkQ w os
theorem step_q {k fuel : Nat} {T T' : Params → BT} {n toks n' toks' : Nat} {pos pos' : Pos} (q : Q k fuel T n toks pos T' n' toks' pos')
  (p : Program) (b : List Stmt) (w : World) (os : OsState) {rest : List Stmt} {N : Nat} {r : Shared}
  (h : topRun treeTable p w 28 (some (Value.ref 6)) N (stT T' w os n' toks').abs (restOf rest env1 (Code.body b env1) pos' [topFrame ⟨0, 0, 0, 0⟩]) = some r) :
  topRun treeTable p w 28 (some (Value.ref 6)) (fuel + N) (stT T w os n toks).abs (restOf (stx k ++ rest) env1 (Code.body b env1) pos [topFrame ⟨0, 0, 0, 0⟩]) = some r := by
 have e : runA (stx k) env1 p b w os fuel T n toks pos = some (.next, stT T' w os n' toks', Code.body b env1, pos') := by rw [PySem.W.Fast.rA_eq]; exact q w p b os
 exact piece_app (segRun_of e) h
theorem topEnd (p : Program) (w : World) (s : Shared) (env : Env) (c : Code) (pos : Pos) :
  topRun treeTable p w 28 (some (Value.ref 6)) 2 s (restOf [] env c pos [topFrame ⟨0, 0, 0, 0⟩]) = some s := by
 refine piece_nil ?_
 obtain ⟨heap, gens, drawn, toks, os⟩ := s
 rfl
noncomputable def fuel : Nat := 12 + (1 + (30 + (10 + (82 + (116 + (30 + (28 + (661 + (30 + (30 + (10 + (33 + (10 + (324 + (10 + (999 + (30 + (14030 + (31 + (10 + (34 + (32 + (27 + (27 + (32 + (30 + (35 + (36 + (27 + (27 + (35 + (27 + (27 + (2))))))))))))))))))))))))))))))))))
theorem whole (w : World) (os : OsState) : topRun treeTable PW w 28 (some (Value.ref 6)) fuel ⟨H0 w.params, { toList := [] }, { }, 276, os⟩ (topStub PW) = some (stT T32 w os 361 2750).abs := by
 have h := topEnd PW w (stT T32 w os 361 2750).abs env1 (Code.body bd env1) ⟨345, 0, 366, 68⟩
 replace h := step_q q32 PW bd w os h
 replace h := step_q q31 PW bd w os h
 replace h := step_q q30 PW bd w os h
 replace h := step_q q29 PW bd w os h
 replace h := step_q q28 PW bd w os h
 replace h := step_q q27 PW bd w os h
 replace h := step_q q26 PW bd w os h
 replace h := step_q q25 PW bd w os h
 replace h := step_q q24 PW bd w os h
 replace h := step_q q23 PW bd w os h
 replace h := step_q q22 PW bd w os h
 replace h := step_q q21 PW bd w os h
 replace h := step_q q20 PW bd w os h
 replace h := step_q q19 PW bd w os h
 replace h := step_q q18 PW bd w os h
 replace h := chain17 PW bd w os _ _ _ h
 replace h := step_q q16 PW bd w os h
 replace h := step_q q15 PW bd w os h
 replace h := step_q q14 PW bd w os h
 replace h := step_q q13 PW bd w os h
 replace h := step_q q12 PW bd w os h
 replace h := step_q q11 PW bd w os h
 replace h := step_q q10 PW bd w os h
 replace h := step_q q9 PW bd w os h
 replace h := step_q q8 PW bd w os h
 replace h := step_q q7 PW bd w os h
 replace h := step_q q6 PW bd w os h
 replace h := step_q q5 PW bd w os h
 replace h := step_q q4 PW bd w os h
 replace h := step_q q3 PW bd w os h
 replace h := step_q q2 PW bd w os h
 replace h := step_q q1 PW bd w os h
 rw [← bd_eq] at h
 exact go_top (pre w os) (piece_block (blk w os) h)
theorem fuel_le : Nat.ble fuel 20000 = true := by decide
end
end
section
set_option maxRecDepth 100000
set_option maxHeartbeats 8000000
noncomputable section
def H1 (P : Params) : Heap := absHeap (T32 P) 361 { }
noncomputable def s361 (H : Heap) (os : OsState) : Shared := ⟨H, { toList := [] }, { }, 2750, os⟩
noncomputable def asK : List Addr := [2, 3, 32, 34, 35, 37, 38, 42, 43, 44, 45, 47, 48, 50, 51, 52, 60, 61, 63, 64, 66, 67, 68, 69, 71, 72, 74, 75, 76, 78, 79, 81, 82, 83, 84, 86, 87, 89, 90, 91, 93, 94, 96, 97, 98, 99, 100, 102, 103, 105, 106, 107, 109, 110, 112, 113, 114, 116, 117, 119, 120, 121, 122, 125, 126, 127, 129, 130, 132, 133, 134, 136, 137, 139, 140, 141, 143, 144, 146, 147, 148, 149, 150, 151, 152, 155, 157, 158, 160, 161, 162, 164, 165, 167, 168, 169, 171, 172, 174, 175, 183, 185, 186, 188, 189, 190, 192, 193, 195, 196, 197, 199, 200, 202, 203, 204, 206, 207, 209, 210, 211, 212, 213, 214, 215, 229, 231, 232, 234, 235, 275, 277, 278, 280, 281, 282, 284, 285, 287, 288, 289, 291, 292, 294, 295, 296, 299, 300, 301, 304, 305, 306, 308, 309, 311, 312, 313, 315, 316, 318, 319, 320, 322, 323, 325, 326, 327, 329, 330, 332, 333, 334, 337, 338, 339, 342, 343, 344, 346, 347, 349, 350, 351, 354, 355, 356, 359, 360]
theorem asK_eq (P : Params) : asK = (K0.heap_1 P).map (·.1) := by kernel_rfl
theorem lookK (w : World) : asK.map (H1 w.params).get? = (K0.heap_1 w.params).map fun p => some p.2 := by kernel_rfl
noncomputable def lkA (p : Program) (H H' : Heap) (os : OsState) : Bool := staticsOk (importedModules p.main.body) H H' && namesBound p H' && gensDone (s361 H' os) && laidKept H H'
theorem lkA_self : @lkA = @lkA := rfl
name_quick fA for Mine.Internal.E.lkA by Mine.Internal.E.lkA_self
theorem lookA (w : World) (os : OsState) : PySem.W.Fast.fA PW (H0 w.params) (H1 w.params) os = true := by kernel_rfl
noncomputable def sizeS (H : Heap) : Bool × Nat × Option Value := (H.isNs mainGlobals && (#[] : Array GenState).size == 0, H.objs.size, H.nsMap mainGlobals "__annotations__")
theorem sizeS_self : @sizeS = @sizeS := rfl
name_quick fZ for Mine.Internal.E.sizeS by Mine.Internal.E.sizeS_self
theorem lookZ (w : World) : PySem.W.Fast.fZ (H0 w.params) = (true, 28, some (Value.ref 6)) := by kernel_rfl
noncomputable def vw2 : Program := view Challenge.rw_to0089_01.prog [0, 1, 3, 4, 5, 6, 7, 8, 9, 11, 13, 15, 16, 18, 20, 21, 22, 23, 24, 25, 26, 27, 28, 29, 30, 31, 32]
noncomputable def lo2 : List Str := ["_twin_re_1", "_namespace_map", "_looks_like_prefix_name", "C14NWriterTarget", "b1_set", "b3_exceptions"].map Str.ofString
noncomputable def d650 : Obj := dO (ents 3 680 (b3T.take 646) ++ ents 2 2618 (b3T.drop 646)) 650
theorem lookT (P : Params) : ([283, 123] : List Addr).map (H1 P).get? = ([283, 123] : List Addr).map (fun _ => some (tabObj #[])) := by kernel_rfl
theorem look225 (P : Params) : (H1 P).get? 225 = some (b1O P) := by kernel_rfl
theorem look236 (P : Params) : (H1 P).get? 236 = some d650 := by kernel_rfl
end
end
section
set_option maxRecDepth 100000
set_option maxHeartbeats 8000000
noncomputable section
noncomputable def lkS (q : Program) (l m : List Str) (rc : WRecords) (H : Heap) (os : OsState) := openSeen q l m (fun s => xlAt q [] s && recOk rc s) true (s361 H os)
theorem lkS_self : @lkS = @lkS := rfl
name_quick fS for Mine.Internal.E.lkS by Mine.Internal.E.lkS_self
theorem seenQ (w : World) (os : OsState) : PySem.W.Fast.fS vw2 lo2 (importedModules PW.main.body) (RowW.records Challenge.rw_to0089_01.row.toRowW) (H1 w.params) os = openGood vw2 lo2 := by kernel_rfl
end
end
section
set_option maxRecDepth 100000
set_option maxHeartbeats 8000000
noncomputable section
noncomputable abbrev RC : WRecords := RowW.records Challenge.rw_to0089_01.row.toRowW
noncomputable abbrev Yf (s : Shared) : List (Option Obj) × List (Option Obj) × Option Obj × Option Obj := (asK.map s.heap.get?, ([283, 123] : List Addr).map s.heap.get?, s.heap.get? 225, s.heap.get? 236)
abbrev Ya (w : World) : List (Option Obj) × List (Option Obj) × Option Obj × Option Obj := ((K0.heap_1 w.params).map (fun p => some p.2), ([283, 123] : List Addr).map (fun _ => some (tabObj #[])), some (b1O w.params), some d650)
theorem pOpen (w : World) : (fencedOpening treeTable PW w 20000).map (fun s => (s.heap, s.gens, s.drawn, s.toks)) = some (H0 w.params, { toList := [] }, { }, 276) :=
 (congrFun (congrFun PySem.W.Fast.r0_eq PW) w).trans (opened w)
theorem pSize (w : World) : ((H0 w.params).isNs mainGlobals && (#[] : Array GenState).size == 0, (H0 w.params).objs.size, (H0 w.params).nsMap mainGlobals "__annotations__") = (true, 28, some (Value.ref 6)) :=
 (congrFun PySem.W.Fast.fZ_eq (H0 w.params)).trans (lookZ w)
theorem pLooks (w : World) (os : OsState) : lkA PW (H0 w.params) (H1 w.params) os = true := by
 rw [PySem.W.Fast.fA_eq]
 exact lookA w os
theorem pSeen (w : World) (os : OsState) : lkS vw2 lo2 (importedModules PW.main.body) RC (H1 w.params) os = openGood vw2 lo2 := by
 rw [PySem.W.Fast.fS_eq]
 exact seenQ w os
theorem pRun (w : World) (os : OsState) : topRun treeTable PW w 28 (some (Value.ref 6)) 20000 ⟨H0 w.params, { toList := [] }, { }, 276, os⟩ (topStub PW) = some ⟨H1 w.params, { toList := [] }, { }, 2750, os⟩ := by
 have h := whole w os
 rw [stT_abs] at h
 have r := topRun_mono (20000 - fuel) _ _ _ _ h
 rw [Nat.add_sub_of_le (Nat.le_of_ble_eq_true fuel_le)] at r
 exact r
theorem left1 : LeftO PW vw2 lo2 (fun s => xlAt vw2 [] s && recOk RC s) Yf Ya 20000 :=
 LeftO.of_pieces (p := PW) (q := vw2) (loose := lo2) (Xt := fun s => xlAt vw2 [] s && recOk RC s) (Yf := Yf) (Ya := Ya) (N := 20000) (g0 := true) (H₀ := H0) (H₁ := H1) (gs₀ := { toList := [] }) (gs₁ := { toList := [] }) (d₀ := { }) (d₁ := { }) (k₀ := 276) (k₁ := 2750) (m₀ := 28) (ann := some (Value.ref 6)) (M := 20000)
  pOpen pSize pRun (by decide)
  (fun w => funext fun os => looks_pair (pLooks w os) (looks_pair (pSeen w os)
   (looks_pair (lookK w) (looks_pair (lookT w.params) (looks_pair (look225 w.params) (look236 w.params))))))
end
end
end E
section
noncomputable abbrev PR : Program := Challenge.rw_to0089_01.prog
theorem news_tail {h₀ h : Heap} {L : Addr} {q : Addr × Obj} {l : List (Addr × Obj)} (N : News h₀ L h (q :: l)) : News h₀ L h l := fun p hp => N p (.tail _ hp)
theorem ne_all {l r : List (Addr × Obj)} {x y : Nat} (h : ∀ q ∈ l, q.1 < x) (sub : ∀ q ∈ r, q ∈ l) (hxy : x ≤ y) : ∀ q ∈ r, q.1 ≠ y := fun q hq => Nat.ne_of_lt (Nat.lt_of_lt_of_le (h q (sub q hq)) hxy)
theorem news_sub {h₀ h : Heap} {L : Addr} {l l' : List (Addr × Obj)} (N : News h₀ L h l') (hs : ∀ p ∈ l, p ∈ l') : News h₀ L h l := fun p hp => N p (hs p hp)
end
section
variable {w : World} {p : Program} {loose : List Str} {mean : ExcName → Option Value} {mg mb : Str → Option Value}
 {dp un : Nat} {gd : Option (List Code)} {cn : Str} {cs : Scope} {a : Addr} {ccd : Value} {cl : List (Str × Addr)} {outer : List Env} {A₀ : Around} {base h₀ : Heap} {L : Addr} {m : Str → Option Value} {s : Shared} {Q E : Value → Shared → Prop}
local macro_rules | `(tactic| k_all) => dy "w1" #[]
local macro_rules | `(tactic| k_all) => `(tactic| assumption)
local macro_rules | `(tactic| size_fits) => `(tactic| assumption)
local macro_rules | `(tactic| size_fits) => dy "w2" #[]
local macro_rules | `(tactic| walk_at "call builtin:len") => dy "w3" #[]
local macro_rules | `(tactic| k_steps) => dy "w4" #[]
section
noncomputable abbrev wEs (P : Params) (tk : Nat → Tok) (aW aD : Addr) (aDecl aNs : Addr) (aMap aPres : Addr) (seen done : Bool) (ig : Tok) : List DictEntry :=
 [⟨PyData.keyHash P "_write", .str "_write" (tk 0), .ref aW⟩,
  ⟨PyData.keyHash P "_data", .str "_data" (tk 1), .ref aD⟩,
  ⟨PyData.keyHash P "_with_comments", .str "_with_comments" (tk 2), .bool false⟩,
  ⟨PyData.keyHash P "_strip_text", .str "_strip_text" (tk 3), .bool false⟩,
  ⟨PyData.keyHash P "_exclude_attrs", .str "_exclude_attrs" (tk 4), .none⟩,
  ⟨PyData.keyHash P "_exclude_tags", .str "_exclude_tags" (tk 5), .none⟩,
  ⟨PyData.keyHash P "_rewrite_prefixes", .str "_rewrite_prefixes" (tk 6), .bool false⟩,
  ⟨PyData.keyHash P "_qname_aware_tags", .str "_qname_aware_tags" (tk 7), .none⟩,
  ⟨PyData.keyHash P "_find_qname_aware_attrs", .str "_find_qname_aware_attrs" (tk 8), .none⟩,
  ⟨PyData.keyHash P "_declared_ns_stack", .str "_declared_ns_stack" (tk 9), .ref aDecl⟩,
  ⟨PyData.keyHash P "_ns_stack", .str "_ns_stack" (tk 10), .ref aNs⟩,
  ⟨PyData.keyHash P "_prefix_map", .str "_prefix_map" (tk 11), .ref aMap⟩,
  ⟨PyData.keyHash P "_preserve_space", .str "_preserve_space" (tk 12), .ref aPres⟩,
  ⟨PyData.keyHash P "_pending_start", .str "_pending_start" (tk 13), .none⟩,
  ⟨PyData.keyHash P "_root_seen", .str "_root_seen" (tk 14), .bool seen⟩,
  ⟨PyData.keyHash P "_root_done", .str "_root_done" (tk 15), .bool done⟩,
  ⟨PyData.keyHash P "_ignored_depth", .str "_ignored_depth" (tk 16), .int 0 ig⟩]
def Inc : List Nat → Prop
 | a :: b :: r => a < b ∧ Inc (b :: r)
 | _ => True
def Apart : List Addr → List (Addr × Obj) → Prop
 | [], _ => True
 | a :: r, l => (∀ q ∈ l, q.1 ≠ a) ∧ Apart r l
theorem wEs_done {P : Params} {tk : Nat → Tok} {aW aD aDecl aNs aMap aPres : Addr} {seen done b : Bool} {ig : Tok} {hsh : Int} {key : Value} {n : Nat} :
 (putL (Str.ofString "_root_done") hsh key (.bool b) (wEs P tk aW aD aDecl aNs aMap aPres seen done ig), putN (Str.ofString "_root_done") (wEs P tk aW aD aDecl aNs aMap aPres seen done ig) n) = (wEs P tk aW aD aDecl aNs aMap aPres seen b ig, n) := rfl
theorem wEs_seen {P : Params} {tk : Nat → Tok} {aW aD aDecl aNs aMap aPres : Addr} {seen done b : Bool} {ig : Tok} {hsh : Int} {key : Value} {n : Nat} :
 (putL (Str.ofString "_root_seen") hsh key (.bool b) (wEs P tk aW aD aDecl aNs aMap aPres seen done ig), putN (Str.ofString "_root_seen") (wEs P tk aW aD aDecl aNs aMap aPres seen done ig) n) = (wEs P tk aW aD aDecl aNs aMap aPres b done ig, n) := rfl
def Stop (p : Prop) : Prop := p
theorem stop_of {p : Prop} (h : Stop p) : p := h
end
section
theorem b1_spec (hfill : PR = PR) (B : Below A₀ base outer h₀) (F : Fr h₀ L s.heap m) (X : (K0.heap_1 w.params).In h₀) (T : Top p loose mean mg mb h₀) (hk : cs.kind = .function) (hd : dp + 3 < recursionLimit) (hu : un + 30 < cLine)
  (oS : Obj) (b1L : List Int) (hS : oS.SetObjOf (intKind Challenge.rw_to0089_01.prog w) (fun k => decide (k ∈ b1L)) 27) (h225 : h₀.get? 225 = some oS)
  (c : Nat) (t : Tok) (rest : List (Addr × Obj)) (N : News h₀ L s.heap rest)
  (hret : ∀ h' tk', Fr h₀ L h' m → News h₀ L h' rest → Q (.bool (decide ((c : Int) ∈ b1L))) { s with heap := h', toks := tk' }) :
  wpAny (model Challenge.rw_to0089_01.prog w) (ktrTop dp un gd cn cs L a ccd cl outer) (call (.ref 235) [.str ⟨#[c]⟩ t]) Q E s := by
 revert X; k_fill; intro X; refine wpAny_call ?_; first | k_dflt (fail "my.enter") | fail
 (repeat' first | ((with_reducible show wpAny _ _ (compareOp .In (Value.int _ _) (Value.ref _)) _ _ _); (refine in_argsetI (by assumption) (by assumption) (Fr.keep (by assumption) _ _ (by assumption)) (by decide) ?_)) | ((with_reducible show wpAny _ _ (call (Value.builtin "ord") _) _ _ _); (refine P.ord_of_char ?_)) | fail "k1")
 all_goals exact hret _ _ (by k_asm) (by fail "my.news")
end
section
open LCg in
theorem CompEnd.mono' {h₀ : Heap} {L : Addr} {m : Str → Option Value} {s₁ : Shared} {I : Addr} {oI : Obj} {C : Addr} {oC : Obj} {D : Addr} {oD : Obj} {S : List (Addr × Obj) → Prop} {r r' : Value → List (Addr × Obj) → Prop} {y : Value} {s₂ : Shared}
  (h : CompEnd h₀ L m s₁ I oI C oC D oD S r y s₂) (hr : ∀ y n, r y n → r' y n) : CompEnd h₀ L m s₁ I oI C oC D oD S r' y s₂ := by
 obtain ⟨h', tk, news', a, b, c, d, e, f⟩ := h
 exact ⟨h', tk, news', a, b, c, d, e, hr _ _ f⟩
section
variable {prog : Program} {w : World} {A : Around} {s : Shared} {h₀ : Heap} {L : Addr} {m : Str → Option Value} {env : Env}
open LCg in
theorem rest_ind {elt : PySem.Expr} {x : Str} {scope : Scope} {cl : List (Str × Addr)} {S : List (Addr × Obj) → Prop} {P : Nat → Value → Prop} {Fin : List Value → List (Addr × Obj) → Prop} {n : Nat} (Inv : Nat → List Value → List (Addr × Obj) → Prop)
  (fin : ∀ ys news, Inv n ys news → Fin ys news)
  (step : ∀ i ys news v I oI C oC D m₂ h tk (E' : Value → Shared → Prop), i < n → Inv i ys news → P i v → NsObj oC m₂ → m₂ x = some v → Fr h₀ L h m → News h₀ L h ((I, oI) :: (C, oC) :: (D, lst ys) :: news) → Off3 I C D news → ((@Ne Nat I C) ∧ (@Ne Nat I D) ∧ (@Ne Nat C D)) →
   wpAny (model prog w) A (eval elt (compEnvC scope cl C env)) (CompEnd h₀ L m { s with heap := h, toks := tk } I oI C oC D (lst ys) S (fun y news' => Inv (i + 1) (ys ++ [y]) news')) E' { s with heap := h, toks := tk }) :
  ∀ k i ys news, i + k = n → Inv i ys news → CompRest prog w A h₀ L m env elt x scope cl s S P Fin k i ys news
 | 0, i, ys, news, e, hI => CompRest.zero (fin ys news (by rwa [show i = n by omega] at hI))
 | k + 1, i, ys, news, e, hI => CompRest.succ fun v I oI C oC D m₂ h tk E' hP hoC hx F N off ne =>
   wpAny_mono (step i ys news v I oI C oC D m₂ h tk E' (by omega) hI hP hoC hx F N off ne) (fun y s' hc => CompEnd.mono' hc fun y' n' hi => rest_ind Inv fin step k (i + 1) (ys ++ [y']) n' (by omega) hi) fun _ _ e => e
open LCt LCg in
theorem restT_ind {ct elt : PySem.Expr} {x : Str} {scope : Scope} {cl : List (Str × Addr)} {S : List (Addr × Obj) → Prop} {P : Nat → Value → Prop} {Fin : List Value → List (Addr × Obj) → Prop} {n : Nat} (Inv : Nat → List Value → List (Addr × Obj) → Prop)
  (fin : ∀ ys news, Inv n ys news → Fin ys news)
  (step : ∀ i ys news v I oI C oC D m₂ h tk (E' : Value → Shared → Prop), i < n → Inv i ys news → P i v → NsObj oC m₂ → m₂ x = some v → Fr h₀ L h m → News h₀ L h ((I, oI) :: (C, oC) :: (D, lst ys) :: news) → Off3 I C D news → ((@Ne Nat I C) ∧ (@Ne Nat I D) ∧ (@Ne Nat C D)) →
   wpAny (model prog w) A (isTrue ct (compEnvC scope cl C env) (eval ct (compEnvC scope cl C env))) (fun ok s' => if ok = true then
    wpAny (model prog w) A (eval elt (compEnvC scope cl C env)) (CompEnd h₀ L m { s with heap := h, toks := tk } I oI C oC D (lst ys) S (fun y news' => Inv (i + 1) (ys ++ [y]) news')) E' s'
    else CompEnd h₀ L m { s with heap := h, toks := tk } I oI C oC D (lst ys) S (fun _ news' => Inv (i + 1) ys news') Value.none s') E' { s with heap := h, toks := tk }) :
  ∀ k i ys news, i + k = n → Inv i ys news → CompRestT prog w A h₀ L m env ct elt x scope cl s S P Fin k i ys news
 | 0, i, ys, news, e, hI => CompRestT.zero (fin ys news (by rwa [show i = n by omega] at hI))
 | k + 1, i, ys, news, e, hI => CompRestT.succ fun v I oI C oC D m₂ h tk E' hP hoC hx F N off ne =>
   wpAny_mono (step i ys news v I oI C oC D m₂ h tk E' (by omega) hI hP hoC hx F N off ne) (fun ok s' hc => by
    cases ok with
    | true =>
     rw [if_pos rfl] at hc ⊢
     exact wpAny_mono hc (fun y s'' hc => CompEnd.mono' hc fun y' n' hi => restT_ind Inv fin step k (i + 1) (ys ++ [y']) n' (by omega) hi) fun _ _ e => e
    | false =>
     rw [if_neg Bool.false_ne_true] at hc ⊢
     exact CompEnd.mono' hc fun y' n' hi => restT_ind Inv fin step k (i + 1) ys n' (by omega) hi) fun _ _ e => e
end
inductive MapEnd (h₀ : Heap) (L : Addr) (m : Str → Option Value) (s₁ : Shared) (need : List (Addr × Obj)) (R : Value → Prop) (y : Value) (s₂ : Shared) : Prop
 | mk (h' : PySem.Heap) (tk : Nat) (h : s₂ = { s₁ with heap := h', toks := tk } ∧ Fr h₀ L h' m ∧ News h₀ L h' need ∧ R y) : MapEnd h₀ L m s₁ need R y s₂
theorem MapEnd.intro {h₀ : Heap} {L : Addr} {m : Str → Option Value} {s₁ : Shared} {need : List (Addr × Obj)} {R : Value → Prop} {y : Value} {h' : Heap} {tk : Nat} (F : Fr h₀ L h' m) (N : News h₀ L h' need) (r : R y) :
 MapEnd h₀ L m s₁ need R y { s₁ with heap := h', toks := tk } := ⟨h', tk, rfl, F, N, r⟩
section
variable {prog : Program} {w : World} {A : Around} {s : Shared} {h₀ : Heap} {L : Addr} {m : Str → Option Value} {env : Env}
open LCg in
theorem comp_map {elt : PySem.Expr} {x : Str} {scope : Scope} {cl : List (Str × Addr)} {Fin : Shared → List Value → List (Addr × Obj) → Prop} {ax : Addr} {vs : List Value} {k : Nat} {news : List (Addr × Obj)} {s₁ : Shared} (R : Nat → List Value → Prop)
  (hh : A.handled = none) (F : Fr h₀ L s₁.heap m) (N : News h₀ L s₁.heap news) (hm : (ax, listOf vs.toArray k) ∈ news) (hsz : vs.length ≤ 100000) (R0 : R 0 [])
  (step : ∀ i ys v I oI C oC D m₂ h tk (E' : Value → Shared → Prop), vs[i]? = some v → R i ys → NsObj oC m₂ → m₂ x = some v → Fr h₀ L h m → News h₀ L h ((I, oI) :: (C, oC) :: (D, lst ys) :: news) → Off3 I C D news → ((@Ne Nat I C) ∧ (@Ne Nat I D) ∧ (@Ne Nat C D)) →
   wpAny (model prog w) A (eval elt (compEnvC scope cl C env)) (MapEnd h₀ L m { s₁ with heap := h, toks := tk } ((I, oI) :: (C, oC) :: (D, lst ys) :: news) (fun y => R (i + 1) (ys ++ [y]))) E' { s₁ with heap := h, toks := tk })
  (fin : ∀ g ys, R vs.length ys → Fin { s₁ with heap := g } ys news) :
  CompSrc prog w A h₀ L m env elt x scope cl Fin (.ref ax) s₁ := by
 have hz : vs.toArray.size = vs.length := List.size_toArray ..
 refine CompSrc.ledger hh F N hm (by rw [hz, sizeLine_eq]; omega) fun g => ?_
 refine rest_ind (fun i ys nw => R i ys ∧ nw = news) (fun ys nw hi => ?_) (fun i ys nw v I oI C oC D m₂ h tk E' hi hI hP hoC hx F' N' off ne => ?_) _ 0 [] news (Nat.zero_add _) ⟨R0, rfl⟩
 ·obtain ⟨h1, rfl⟩ := hi
  exact fin g ys (by rwa [hz] at h1)
 ·obtain ⟨h1, rfl⟩ := hI
  have hv : vs[i]? = some v := by simpa using hP
  refine wpAny_mono (step i ys v I oI C oC D m₂ h tk E' hv h1 hoC hx F' N' off ne) (fun y s' hc => ?_) fun _ _ e => e
  obtain ⟨h', tk', rfl, F2, N2, r⟩ := hc
  exact ⟨h', tk', nw, rfl, F2, N2, off, .inr ⟨_, hm, rfl, _, rfl⟩, r, rfl⟩
end
theorem ints_at {vs : List Value} {ns : List Int} (h : IntsAre vs ns) : ∀ {i : Nat} {v : Value}, vs[i]? = some v → ∃ k t, v = .int k t ∧ ns[i]? = some k := by
 induction h with
 | nil => intro i v hv; simp at hv
 | cons k t h ih =>
  intro i v hv
  cases i with
  | zero => exact ⟨k, t, (by simpa using hv.symm), rfl⟩
  | succ j => exact ih (by simpa using hv)
theorem ints_snoc {vs : List Value} {ns : List Int} (h : IntsAre vs ns) (k : Int) (t : Tok) : IntsAre (vs ++ [.int k t]) (ns ++ [k]) := by
 induction h with
 | nil => exact .cons k t .nil
 | cons k' t' h ih => exact .cons k' t' ih
theorem take_map_snoc {α β : Type} (f : α → β) (l : List α) (i : Nat) (x : α) (h : l[i]? = some x) : (l.take (i + 1)).map f = (l.take i).map f ++ [f x] := by
 rw [List.take_add_one, h]
 simp
end
section
open LCt LCg
inductive SrcStr (w : World) (A : Around) (h₀ : Heap) (L : Addr) (m : Str → Option Value) (env : Env) (ct elt : PySem.Expr) (x : Str) (scope : Scope) (cl : List (Str × Addr)) (Fin : Shared → List Value → List (Addr × Obj) → Prop) (xv : Value) (s₁ : Shared) : Prop
 | mk (wd : PySem.Str) (t : PySem.Tok) (news : List (PySem.Addr × PySem.Obj)) (h : xv = .str wd t ∧ Fr h₀ L s₁.heap m ∧ News h₀ L s₁.heap news ∧ wd.cps.size ≤ sizeLine ∧
  ∀ g, CompRestT Challenge.rw_to0089_01.prog w A h₀ L m env ct elt x scope cl { s₁ with heap := g } (fun _ => True) (SignAt wd) (Fin { s₁ with heap := g }) wd.cps.size 0 [] news) : SrcStr w A h₀ L m env ct elt x scope cl Fin xv s₁
section
variable {w : World} {A : Around} {E : Value → Shared → Prop} {s : Shared} {h₀ : Heap} {L : Addr} {m : Str → Option Value} {env : Env}
theorem str_st {I : Addr} {ty : String} {wd : Str} {t : Tok} : ∀ i (h h' : Heap) (o : Obj) (nw : List (Addr × Obj)), h.IsStrIter I ty wd t i → h.get? I = some o → h'.get? I = some o → (∀ b o, h₀.get? b = some o → h'.get? b = some o) → News h₀ L h' nw → True → h'.IsStrIter I ty wd t i :=
 fun i h h' o nw st e1 e2 _ _ _ => by
  obtain ⟨o', e3, r⟩ := st
  rw [e1] at e3
  cases e3
  exact ⟨o, e2, r⟩
theorem ListComp_str {ct elt iter : PySem.Expr} {x : Str} {px : Pos} {scope : Scope} {cl : List (Str × Addr)} {pos : Pos} {Q : Value → Shared → Prop} (_F₀ : Fr h₀ L s.heap m) (hh : A.handled = none)
  (hclos : closureFor scope env = pure cl) (hcell : ∀ y ∈ scope.names, y.2 ≠ .cell) (hkind : scope.kind = .function)
  (hnames : ∀ y ∈ scope.names, y.2 = .local → scope.names.lookup y.1 = some .local) (hx : scope.names.lookup x = some .local)
  (h : wpAny (model Challenge.rw_to0089_01.prog w) A (eval iter env) (SrcStr w A h₀ L m env ct elt x scope cl (fun s₂ => FinE h₀ L m s₂ Q)) E s)
  (hs : ∀ x, foldedSetIterable iter env x = pure x := by intro _; rfl) :
  wpAny (model Challenge.rw_to0089_01.prog w) A (eval (.ListComp elt [⟨.Name x px, iter, [ct], 0⟩] scope pos) env) Q E s := by
 rw [eval_ListComp]
 refine wpAny_comprehension_free (use := none) rfl hs hclos hkind hnames (wpAny_mono h (fun xv s₁ h₁ => ?_) fun _ _ e => e)
 obtain ⟨wd, t, news, rfl, F, N, hsz, R⟩ := h₁
 have one : ∀ (ty : String) (W : Walks Challenge.rw_to0089_01.prog w A s₁.heap.objs.size [s₁.heap.objs.size] [s₁.heap.objs.size] wd.cps.size (SignAt wd) (fun i h => h.IsStrIter s₁.heap.objs.size ty wd t i)),
   wpAny (model Challenge.rw_to0089_01.prog w) A (newList []) (fun acc s₃ => wpAny (model Challenge.rw_to0089_01.prog w) A (newFunctionEnv scope env.globals cl [] env.qual none .none (some env)) (fun cenv s₄ =>
    codeAny (model Challenge.rw_to0089_01.prog w) A (.compStart (.ListComp elt [⟨.Name x px, iter, [ct], 0⟩] scope pos) 0 (.ref s₁.heap.objs.size) acc { cenv with scope := relabel scope env }) (compPost (model Challenge.rw_to0089_01.prog w) A E none Q acc cenv.locals) s₄) E s₃) E
    { s₁ with heap := s₁.heap.push { cls := .type ty, data := .fields #[.str wd t, .int 0 0] } } := by
  intro ty W
  refine block_T W hsz (fun i h st => by obtain ⟨o, e, _⟩ := st; exact ⟨o, e⟩) str_st hcell hkind hx ⟨_, Heap.get?_push_size _ rfl, rfl, rfl⟩ (fun b hb => ?_)
   (F.keeps fun _ _ e => Heap.get?_push_of_some _ e) (N.grown fun _ _ e => Heap.get?_push_of_some _ e) (Nat.ne_of_lt F.ns.lt) (next_is_new F) (fun p hp => Nat.ne_of_lt (Heap.lt_size (N p hp).1)) trivial (R _) ?_
  ·rw [List.mem_singleton.mp hb]
   show s₁.heap.objs.size < (s₁.heap.push _).objs.size
   rw [Heap.size_push]; exact Nat.lt_succ_self _
  ·intro D C h tk m' ys news' F' N' o1 hn hC₀ hD₀ hCL hDL hCD offC fin
   refine ⟨m', hn, fun h'' hs'' => fin D h'' tk (F'.change hs'' hCL hC₀) (fun p hp => ?_) o1⟩
   refine ⟨hs''.extBut _ _ ?_ (N' p hp).1, (N' p hp).2⟩
   rcases List.mem_cons.mp hp with rfl | hp
   ·exact Ne.symm hCD
   ·exact offC p hp
 cases ha : wd.cps.all (· < 128)
 ·exact wpAny_pyIter_wide ha (one "str_iterator" (Walks.strWide hh _ wd t))
 ·exact wpAny_pyIter_ascii ha (one "str_ascii_iterator" (Walks.strAscii hh _ wd t))
theorem comp_str {ct elt : PySem.Expr} {x : Str} {scope : Scope} {cl : List (Str × Addr)} {Fin : Shared → List Value → List (Addr × Obj) → Prop} {wd : Str} {t : Tok} {news : List (Addr × Obj)} {s₁ : Shared} (R : Nat → List Value → Prop)
  (F : Fr h₀ L s₁.heap m) (N : News h₀ L s₁.heap news) (hsz : wd.cps.size ≤ 100000) (R0 : R 0 [])
  (step : ∀ i ys c t I oI C oC D m₂ h tk (E' : Value → Shared → Prop), wd.cps[i]? = some c → R i ys → NsObj oC m₂ → m₂ x = some (.str ⟨#[c]⟩ t) → Fr h₀ L h m → News h₀ L h ((I, oI) :: (C, oC) :: (D, lst ys) :: news) → Off3 I C D news → ((@Ne Nat I C) ∧ (@Ne Nat I D) ∧ (@Ne Nat C D)) →
   wpAny (model Challenge.rw_to0089_01.prog w) A (isTrue ct (compEnvC scope cl C env) (eval ct (compEnvC scope cl C env))) (fun ok s' => if ok = true then
    wpAny (model Challenge.rw_to0089_01.prog w) A (eval elt (compEnvC scope cl C env)) (MapEnd h₀ L m { s₁ with heap := h, toks := tk } ((I, oI) :: (C, oC) :: (D, lst ys) :: news) (fun y => R (i + 1) (ys ++ [y]))) E' s'
    else MapEnd h₀ L m { s₁ with heap := h, toks := tk } ((I, oI) :: (C, oC) :: (D, lst ys) :: news) (fun _ => R (i + 1) ys) Value.none s') E' { s₁ with heap := h, toks := tk })
  (fin : ∀ g ys, R wd.cps.size ys → Fin { s₁ with heap := g } ys news) :
  SrcStr w A h₀ L m env ct elt x scope cl Fin (.str wd t) s₁ := by
 refine ⟨wd, t, news, rfl, F, N, by rw [sizeLine_eq]; omega, fun g => ?_⟩
 refine restT_ind (fun i ys nw => R i ys ∧ nw = news) (fun ys nw hi => ?_) (fun i ys nw v I oI C oC D m₂ h tk E' hi hI hP hoC hx F' N' off ne => ?_) _ 0 [] news (Nat.zero_add _) ⟨R0, rfl⟩
 ·obtain ⟨h1, rfl⟩ := hi
  exact fin g ys h1
 ·obtain ⟨h1, rfl⟩ := hI
  obtain ⟨c, u, hc, rfl⟩ := hP
  refine wpAny_mono (step i ys c u I oI C oC D m₂ h tk E' hc h1 hoC hx F' N' off ne) (fun ok s' hc => ?_) fun _ _ e => e
  cases ok with
  | true =>
   rw [if_pos rfl] at hc ⊢
   refine wpAny_mono hc (fun y s'' hc => ?_) fun _ _ e => e
   obtain ⟨h', tk', rfl, F2, N2, r⟩ := hc
   exact ⟨h', tk', nw, rfl, F2, N2, off, trivial, r, rfl⟩
  | false =>
   rw [if_neg Bool.false_ne_true] at hc ⊢
   obtain ⟨h', tk', rfl, F2, N2, r⟩ := hc
   exact ⟨h', tk', nw, rfl, F2, N2, off, trivial, r, rfl⟩
end
end
section
noncomputable def repC (z : List Nat) (c : Nat) (l : List Nat) : List Nat := l.flatMap fun d => if d = c then z else [d]
theorem repC_free (z : List Nat) (c : Nat) : ∀ l : List Nat, c ∉ l → repC z c l = l
 | [], _ => rfl
 | k :: r, h => by
  have h1 : ¬ k = c := fun e => h (e ▸ .head _)
  have ih := repC_free z c r fun q => h (.tail _ q)
  unfold repC at ih ⊢
  rw [List.flatMap_cons, if_neg h1, ih]; rfl
theorem repC_append (z : List Nat) (c : Nat) (a b : List Nat) : repC z c (a ++ b) = repC z c a ++ repC z c b := by unfold repC; rw [List.flatMap_append]
theorem repC_join (z : List Nat) (c : Nat) : ∀ parts : List Str, (∀ q ∈ parts, c ∉ q.cps.toList) → repC z c (Str.join ⟨#[c]⟩ parts).cps.toList = (Str.join ⟨z.toArray⟩ parts).cps.toList
 | [], _ => rfl
 | [q], h => repC_free z c _ (h q (List.mem_singleton.mpr rfl))
 | q :: q' :: r, h => by
  have ih := repC_join z c (q' :: r) fun a ha => h a (.tail _ ha)
  show repC z c (q ++ ⟨#[c]⟩ ++ Str.join ⟨#[c]⟩ (q' :: r)).cps.toList = (q ++ ⟨z.toArray⟩ ++ Str.join ⟨z.toArray⟩ (q' :: r)).cps.toList
  simp only [Str.cps_append, Array.toList_append, repC_append]
  rw [ih, repC_free z c _ (h q (.head _))]
  simp [repC]
theorem replace_char (x : Str) (c : Nat) (z : List Nat) : (Txt.replace x ⟨#[c]⟩ ⟨z.toArray⟩).cps.toList = repC z c x.cps.toList := by
 rw [StrLaws.replace_one, ← repC_join z c _ (StrLaws.split_free x c), StrLaws.join_split]
theorem repC_len (z : List Nat) (c : Nat) (hz : z.length ≤ 6) : ∀ l : List Nat, (repC z c l).length ≤ 6 * l.length
 | [] => Nat.le_refl _
 | k :: r => by
  have ih := repC_len z c hz r
  unfold repC at ih ⊢
  rw [List.flatMap_cons, List.length_append, List.length_cons]
  have e : (if k = c then z else [k]).length ≤ 6 := by split <;> first | exact hz | (simp only [List.length_singleton]; omega)
  omega
theorem replace_len (x : Str) (c : Nat) (z : List Nat) (hz : z.length ≤ 6) {n : Nat} (hx : x.length ≤ n) : (Txt.replace x ⟨#[c]⟩ ⟨z.toArray⟩).length ≤ 6 * n := by
 have h := repC_len z c hz x.cps.toList
 rw [← replace_char] at h
 simp only [Array.length_toList] at h
 show (Txt.replace x ⟨#[c]⟩ ⟨z.toArray⟩).cps.size ≤ _
 have hx' : x.cps.size ≤ n := hx
 omega
theorem replace_none (x : Str) (c : Nat) (z : List Nat) (h : (Builtin.Str.occurrences x ⟨#[c]⟩ 0 x.length 1).isEmpty = true) : Txt.replace x ⟨#[c]⟩ ⟨z.toArray⟩ = x := by
 have h2 := StrLaws.found_one x c
 rw [h] at h2
 have h3 : c ∉ x.cps.toList := of_decide_eq_false h2.symm
 have h4 := replace_char x c z
 rw [repC_free z c _ h3] at h4
 exact Str.ext' (Array.ext' h4)
end
section
noncomputable abbrev boundO (id : String) (self : Value) : Obj := { cls := .type "builtin_function_or_method", data := .fields #[.builtin id, self] }
theorem callWith_fields' {M : Model} {A : Around} {E : Value → Shared → Prop} {s : Shared} {id : String} {self : Value} {pos : Pos} {u : Addr} {args : List (Bool × Sem Value)} {Q : Value → Shared → Prop} (hplain : args.any (·.1) = false)
  (h : wpAny M A (evalArgs (.ref u) true args []) (fun x s₁ => s₁.heap.get? u = some (boundO id self) ∧ wpAny M A (call (.ref u) ([] ++ x.pos) x.kw) Q E s₁) E s) : wpAny M A (callWith pos (.ref u) [] args []) Q E s := by
 delta callWith
 refine wpAny_bind (wpAny_holding (wpAny_mono h (fun x s₁ h₁ => wpAny_bind (wpAny_standAt ?_)) fun _ _ x => x))
 obtain ⟨ho, hcall⟩ := h₁
 simp only [hplain, List.any_nil, Bool.or_false]
 refine wpAny_bind (m := keeperOf (.ref u)) ?_
 delta keeperOf
 dsimp only
 refine wpAny_bind (wpAny_load ho ?_)
 simp only [boundO, show (Value.type "builtin_function_or_method" != Value.type "method") = true by decide, show (Value.type "builtin_function_or_method" == Value.type "builtin_function_or_method" || Value.type "builtin_function_or_method" == Value.type "method-wrapper") = true by decide, if_true]
 refine wpAny_pure ?_
 exact wpAny_bind (wpAny_mono hcall (fun r s₂ hr => wpAny_bind (wpAny_holding (wpAny_point (wpAny_pure hr)))) fun _ _ x => x)
theorem callWith_bound' {M : Model} {A : Around} {E : Value → Shared → Prop} {s : Shared} {id : String} {self : Value} {pos : Pos} {u : Addr} {env : Env} {e : PySem.Expr} {rest : List PySem.Expr} {Q : Value → Shared → Prop} (_h0 : s.heap.get? u = some (boundO id self))
  (h : wpAny M A (spliced (backTo pos (starEach (e :: rest) env))) (fun vs s₁ => s₁.heap.get? u = some (boundO id self) ∧ wpAny M A (call (.ref u) vs) Q E s₁) E s)
  (he : starEach (e :: rest) env = (false, eval e env) :: starEach rest env := by rfl) (hplain : (backTo pos (starEach rest env)).any (·.1) = false := by rfl) :
  wpAny M A (callWith pos (.ref u) [] (backTo pos (starEach (e :: rest) env)) []) Q E s := by
 rw [he] at h ⊢
 refine callWith_fields' (id := id) (self := self) (by show (false || (backTo pos (starEach rest env)).any (·.1)) = false; rw [hplain]; rfl) ?_
 exact evalArgs_plain h
theorem if_not' {α : Type} {M : Model} {A : Around} {E : Value → Shared → Prop} {s : Shared} {c : Bool} {a b : Sem α} {Q : α → Shared → Prop} (hc : c = false) (h : wpAny M A b Q E s) : wpAny M A (if c = true then a else b) Q E s := by
 subst hc
 exact h
theorem if_so' {α : Type} {M : Model} {A : Around} {E : Value → Shared → Prop} {s : Shared} {c : Bool} {a b : Sem α} {Q : α → Shared → Prop} (hc : c = true) (h : wpAny M A a Q E s) : wpAny M A (if c = true then a else b) Q E s := by
 subst hc
 exact h
theorem call_bound {prog : Program} {w : World} {A : Around} {E : Value → Shared → Prop} {s : Shared} {id : String} {self : Value} {vs : List Value} {u : Addr} {b : Builtin} {S : Around → (Result → Shared → Prop) → Shared → Prop} {Q : Value → Shared → Prop} (ho : s.heap.get? u = some (boundO id self))
  (chk : ∀ (P : Unit → Shared → Prop) (E' : Value → Shared → Prop), P () s → wpAny (model prog w) A.in1 (checkBoundCall id ⟨self :: vs, []⟩) P E' s) (hq : plainId id = true) (hb : entryFor table id = some b) (g : Meets (b ⟨self :: vs, []⟩) S)
  (h : S A (wants Q E) s) : wpAny (model prog w) A (call (.ref u) vs) Q E s := by
 refine wpAny_call (codeAny_of_tree ?_)
 show wpAny _ A.in1 (callAny (.ref u) ⟨vs, []⟩) _ _ s
 delta callAny
 dsimp only
 refine wpAny_bind (wpAny_load ho ?_)
 simp only [boundO, show (Value.type "builtin_function_or_method" == Value.type "method" || Value.type "builtin_function_or_method" == Value.type "builtin_function_or_method" || Value.type "builtin_function_or_method" == Value.type "method-wrapper") = true by decide, if_true]
 refine if_so' (by decide) ?_
 refine wpAny_bind (chk _ _ ?_)
 refine wpAny_bind (wpAny_pure (wpAny_pure ?_))
 exact ⟨plainId_quiet hq _, codeAny_builtin hb (by rw [Around.under_plainId hq]; exact g _ _ _ _ _ h)⟩
theorem chk_join (t : Tok) (a : Addr) : checkBoundCall "str.join" ⟨[.str ⟨#[]⟩ t, .ref a], []⟩ = pure () := by first | kernel_rfl | rfl
theorem sub_list_module : isSubtype (.type "list") (.type "module") = pure false := by rw [isSubtype_type]; kernel_rfl
theorem sig_append : (Manifest.signature? "list.append").isSome = true := by decide +kernel
theorem chk_append_args (a v : Value) : Bind.checkArgs "list.append" { ((Manifest.signature? "list.append").get sig_append) with full := s!"{Bind.lastOf "list"}.{Bind.lastOf "list.append"}" } ⟨[a, v], []⟩ = pure () := by kernel_rfl
theorem chk_append {M : Model} {A : Around} {E : Value → Shared → Prop} {s : Shared} {a : Addr} {its : Array Value} {n : Nat} {v : Value} (ho : s.heap.get? a = some (listOf its n)) (P : Unit → Shared → Prop) (h : P () s) :
  wpAny M A (checkBoundCall "list.append" ⟨[.ref a, v], []⟩) P E s := by
 have hT : s.TypeIs (.ref a) "list" := ⟨_, ho, rfl⟩
 obtain ⟨sig, hs⟩ : ∃ sig, Manifest.signature? "list.append" = some sig := Option.isSome_iff_exists.mp sig_append
 have hc := chk_append_args (.ref a) v
 rw [show (Manifest.signature? "list.append").get sig_append = sig by simp only [hs, Option.get_some]] at hc
 unfold checkBoundCall
 rw [hs, show builtinKind "list.append" = some .method by decide +kernel]
 dsimp only
 refine if_not' (by decide) ?_
 refine wpAny_bind (wpAny_isInstance hT sub_list_module ?_)
 refine if_not' (by decide +kernel) ?_
 refine wpAny_bind (m := isType (.ref a)) ?_
 unfold isType
 refine wpAny_bind (m := loadHead a) (wpAny_load ho (wpAny_pure ?_))
 refine if_not' rfl ?_
 refine wpAny_bind (wpAny_typeOf hT ?_)
 exact wpAny_of_eq hc h
theorem append_bound {prog : Program} {w : World} {A : Around} {E : Value → Shared → Prop} {s : Shared} {h₀ : Heap} {L : Addr} {m : Str → Option Value} {news news' : List (Addr × Obj)} {u D : Addr} {its : Array Value} {n : Nat} {x : Value} {Q : Value → Shared → Prop}
  (F : Fr h₀ L s.heap m) (N : News h₀ L s.heap news) (hm : (u, boundO "list.append" (.ref D)) ∈ news) (U : Upd D (listOf its n) (listOf (its.push x) (n + 1)) news news') (hsz : its.size ≤ sizeLine)
  (h : ∀ h', Fr h₀ L h' m → News h₀ L h' news' → Q .none { s with heap := h' }) : wpAny (model prog w) A (call (.ref u) [x]) Q E s := by
 obtain ⟨pre, post, rfl, rfl, a, b⟩ := U.split
 have z := N (D, listOf its n) (List.mem_append.mpr (.inr (.head _)))
 refine call_bound (S := fun _ R s => s.heap.get? D = some (listOf its n) ∧ R (.ok (.ret .none)) { s with heap := s.heap.update D (Obj.mapSeq (·.push x)) }) (N.get hm) (fun P E' hp => chk_append z.1 P hp) (by decide +kernel) entry_list_append ?_ ⟨z.1, ?_⟩
 ·refine Meets.of_wp fun prog w A R s h => ?_
  show wpAny _ _ (updateSeq D (·.push x) >>= fun _ => ret .none) _ _ s
  refine wpAny_bind ?_
  exact wpAny_updateSeq h.1 rfl (wpAny_pure ⟨.none, rfl, h.2⟩)
 ·have hs : Heap.SameBut D s.heap (s.heap.update D (Obj.mapSeq (·.push x))) := Heap.SameBut.update ..
  have ge : (s.heap.update D (Obj.mapSeq (·.push x))).get? D = some (listOf (its.push x) (n + 1)) := by
   rw [Heap.get?_update_self _ z.1 (by rw [Obj.mapSeq_push_plain]; rfl), Obj.mapSeq_push_plain]
  exact h _ (F.change hs z.2.1 z.2.2) (news_set N a b hs ge)
open StrLaws Builtin.Str in
theorem join_bound {prog : Program} {w : World} {A : Around} {E : Value → Shared → Prop} {s : Shared} {u D : Addr} {vs : List Value} {ys : List Str} {t : Tok} {Q : Value → Shared → Prop} (ho : s.heap.get? u = some (boundO "str.join" (.str ⟨#[]⟩ t))) (hl : s.heap.IsList D vs.toArray) (hs : StrsAre vs ys) (hok : JoinOk ⟨#[]⟩ ys = true)
  (hq : ∀ t' k, Q (.str (Txt.join ⟨#[]⟩ ys) t') { s with toks := k }) : wpAny (model prog w) A (call (.ref u) [.ref D]) Q E s := by
 obtain ⟨l, e1, e2⟩ : ∃ l : List (Str × Tok), strValues l = vs ∧ l.map (·.1) = ys := by
  clear hl hok hq
  induction hs with
  | nil => exact ⟨[], rfl, rfl⟩
  | cons x t _ ih => obtain ⟨l, rfl, rfl⟩ := ih; exact ⟨(x, t) :: l, rfl, rfl⟩
 subst e1 e2
 unfold JoinOk at hok
 rw [Bool.not_eq_true'] at hok
 exact call_bound ho (fun P E' hp => wpAny_of_eq (chk_join t D) hp) (by decide +kernel) F.entry_str_join (meets_str_join_list ⟨#[]⟩ t D l hok) ⟨hl, post_join l ⟨joinFit_length hok, hq⟩⟩
theorem pop_push {prog : Program} {w : World} {A : Around} {E : Value → Shared → Prop} {s : Shared} {h₀ : Heap} {L : Addr} {m : Str → Option Value} {news news' : List (Addr × Obj)} {D : Addr} {its : Array Value} {n : Nat} {y : Value} {Q : Value → Shared → Prop}
  (F : Fr h₀ L s.heap m) (N : News h₀ L s.heap news) (U : Upd D (listOf (its.push y) n) (listOf its (n + 1)) news news') (hsz : (its.push y).size ≤ sizeLine)
  (h : ∀ h', Fr h₀ L h' m → News h₀ L h' news' → Q y { s with heap := h' }) : wpAny (model prog w) A (call (.builtin "list.pop") [.ref D]) Q E s := by
 have e : PySem.W.kl_last (its.push y).toList = some (its.toList, y) := by rw [Array.toList_push]; exact PySem.W.kpa_last y its.toList
 exact PySem.W.kl_pop F N e (by rw [Array.toArray_toList]; exact U) (by rw [Array.length_toList]; exact hsz) h
theorem truthy_pos {prog : Program} {w : World} {A : Around} {E : Value → Shared → Prop} {s : Shared} {l : Addr} {items : Array Value} {Q : Bool → Shared → Prop} (hl : s.heap.IsList l items) (hp : 0 < items.size) (hz : items.size ≤ 1000) (h : Q true { s with toks := s.toks + 1 + 1 }) :
  wpAny (model prog w) A (truthy (.ref l)) Q E s := by
 refine wpAny_truthy_list hl (by omega) ?_
 have : items.isEmpty = false := by unfold Array.isEmpty; exact decide_eq_false (by omega)
 rw [this]; exact h
end
section
theorem del_all {prog : Program} {w : World} {A : Around} {E : Value → Shared → Prop} {h₀ h : Heap} {L : Addr} {m : Str → Option Value} {news : List (Addr × Obj)} {g : Array GenState} {d : Drawn} {tk : Nat} {os : OsState} {D : Addr} {items : Array Value} {n : Nat} {news' : List (Addr × Obj)} {Q : Unit → Shared → Prop}
  (F : Fr h₀ L h m) (N : News h₀ L h news) (U : Upd D (listOf items n) (listOf #[] (n + 1)) news news') (hsz : items.size ≤ sizeLine) (hpos : 0 < items.size)
  (hQ : ∀ h', Fr h₀ L h' m → News h₀ L h' news' → Q () ⟨h', g, d, tk, os⟩) :
  wpAny (model prog w) A (delItem (.ref D) (.ref h.objs.size)) Q E ⟨h.push { cls := .type "slice", data := .fields #[.none, .none, .none] }, g, d, tk, os⟩ := by
 obtain ⟨pre, post, rfl, rfl, a, b⟩ := U.split
 have F1 := F.push { cls := .type "slice", data := .fields #[.none, .none, .none] }
 have N1 := News.pushKeep N { cls := .type "slice", data := .fields #[.none, .none, .none] }
 have z := N1 (D, listOf items n) (List.mem_append.mpr (.inr (.head _)))
 have hs : (h.push { cls := .type "slice", data := .fields #[.none, .none, .none] }).get? h.objs.size = some { cls := .type "slice", data := .fields #[.none, .none, .none] } := Heap.get?_push_size _ rfl
 generalize h.push { cls := .type "slice", data := .fields #[.none, .none, .none] } = H at F1 N1 z hs
 generalize h.objs.size = sl at hs
 have hT : Shared.TypeIs ⟨H, g, d, tk, os⟩ (.ref D) "list" := ⟨_, z.1, rfl⟩
 have hTs : Shared.TypeIs ⟨H, g, d, tk, os⟩ (.ref sl) "slice" := ⟨_, hs, rfl⟩
 refine wpAny_delItem_slot hT (by decide) PySem.F.slot_list_delitem (wpAny_call_entry PySem.F.slot_list_delitem hT PySem.F.entry_list_delitem ?_ (PySem.F.args_list_delitem_2 _ _))
 show wpAny _ _ (Builtin.List.listSubscript? (.ref sl) >>= _) _ _ _
 refine wpAny_bind ?_
 unfold Builtin.List.listSubscript?
 refine wpAny_bind (wpAny_specialOf hTs slice_no_index ?_)
 simp only [Option.isNone_none, if_true]
 refine wpAny_pure ?_
 show wpAny _ _ (typeOf (.ref sl) >>= _) _ _ _
 refine wpAny_bind (wpAny_typeOf hTs ?_)
 rw [if_neg (by decide)]
 rw [listSliceParts_eq]
 refine wpAny_bind (wpAny_bind (wpAny_field hs rfl (x := .none) rfl (wpAny_bind (wpAny_listPart .none ?_))))
 rw [if_neg (by exact Bool.false_ne_true)]
 refine wpAny_bind (wpAny_field hs rfl (x := .none) rfl (wpAny_bind (wpAny_listPart .none ?_)))
 refine wpAny_bind (wpAny_field hs rfl (x := .none) rfl (wpAny_bind (wpAny_listPart .none (wpAny_pure ?_))))
 refine wpAny_bind (m := Builtin.List.listItems (.ref D)) ?_
 unfold Builtin.List.listItems
 refine wpAny_bind (wpAny_seqItems z.1 rfl (wpAny_pure ?_))
 refine wpAny_bind (wpAny_of_eq (sliceIndices_raw none none none items.size (by simp)) ?_)
 dsimp only [sliceBounds]
 refine wpAny_bind (wpAny_rule ?_)
 have hf : ∀ (f : Array Value → Array Value), f items = #[] → (H.update D (Obj.mapSeq f)).get? D = some (listOf #[] (n + 1)) := by
  intro f e
  have e2 : Obj.mapSeq f (listOf items n) = listOf #[] (n + 1) := by simp [Obj.mapSeq, e]; omega
  rw [Heap.get?_update_self _ z.1 (by rw [e2]; rfl), e2]
 have fin : ∀ (f : Array Value → Array Value), f items = #[] → Q () ⟨H.update D (Obj.mapSeq f), g, d, tk, os⟩ := by
  intro f e
  have sb : Heap.SameBut D H (H.update D (Obj.mapSeq f)) := Heap.SameBut.update ..
  exact hQ _ (F1.change sb z.2.1 z.2.2) (news_set N1 a b sb (hf f e))
 have hg : ∀ (f : Value × Nat → Option Value), (∀ x k, k < items.size → f (x, k) = none) → (List.filterMap f items.toList.zipIdx).toArray = #[] := by
  intro f hf'
  rw [List.filterMap_eq_nil_iff.mpr]
  rintro ⟨x, k⟩ hx
  have hk := List.snd_lt_of_mem_zipIdx hx
  exact hf' x k (by simpa using hk)
 refine wpAny_bind (wpAny_updateSeq z.1 rfl ?_ (_hz' := ?_))
 ·refine wpAny_bind (wpAny_letGo (wpAny_pure ⟨.none, rfl, fin _ ?_⟩))
  refine hg _ fun x k hk => if_pos ?_
  show (if (1 : Int) > 0 then decide ((0 : Int) ≤ (k : Int)) && decide ((k : Int) < (items.size : Int)) && (((k : Int) - 0) % 1 == 0) else _) = true
  simp <;> omega
 ·refine Nat.le_trans (Nat.le_of_eq (congrArg Array.size (hg _ fun x k hk => if_pos ?_))) (Nat.zero_le _)
  show (if (1 : Int) > 0 then decide ((0 : Int) ≤ (k : Int)) && decide ((k : Int) < (items.size : Int)) && (((k : Int) - 0) % 1 == 0) else _) = true
  simp <;> omega
end
section
theorem data_spec (hfill : PR = PR) (B : Below A₀ base outer h₀) (F : Fr h₀ L s.heap m) (X : (K0.heap_1 w.params).In h₀) (T : Top p loose mean mg mb h₀) (hk : cs.kind = .function) (hd : dp + 3 < recursionLimit) (hu : un + 30 < cLine)
  (W WD aW aD aDecl aNs aMap aPres : Addr) (tk : Nat → Tok) (seen done : Bool) (ig : Tok) (x : Str) (t : Tok) (rest : List (Addr × Obj)) (ds : Array Value) (dn we : Nat)
  (N : News h₀ L s.heap ((W, instObj 150 WD) :: (WD, dictOf (wEs w.params tk aW aD aDecl aNs aMap aPres seen done ig) we) :: (aD, listOf ds dn) :: rest))
  (hsz : ds.size ≤ 1000) (hne : ∀ q ∈ rest, q.1 ≠ aD) (hne1 : W ≠ aD) (hne2 : WD ≠ aD)
  (hret : ∀ h' tk' dn', Fr h₀ L h' m → News h₀ L h' ((W, instObj 150 WD) :: (WD, dictOf (wEs w.params tk aW aD aDecl aNs aMap aPres seen done ig) we) :: (aD, listOf (ds.push (Value.str x t)) dn') :: rest) → Q .none { s with heap := h', toks := tk' }) :
  wpAny (model Challenge.rw_to0089_01.prog w) (ktrTop dp un gd cn cs L a ccd cl outer) (call (.ref 97) [.ref W, .str x t]) Q E s := by
 revert X; k_fill; intro X; refine wpAny_call ?_; first | k_dflt (fail "my.enter") | fail
 k_steps
 exact hret _ _ _ (by k_asm) (by k_asm)
end
section
open PySem.Builtin in
section
variable {M : Model} {A : Around} {R : GenEnd} {Y : Protocol} {n : Nat} {s₀ : Shared} {c : Code} {fs : List Frame} {s : Shared} {env : Env}
 {K : Flow → Sem Fin} {H : Value → Sem Fin} {gd : Bool → Bool} {lv : List Value → List Value}
theorem seg_For {target iter : PySem.Expr} {body orelse : List Stmt} {pos : Pos}
  (h : wpAny M (A.over c fs) (eval iter env) (fun xv s' => wpAny M (A.over c fs) (pyIter xv) (fun it s'' => ∀ p, Seg M A R Y n s₀ (.forLoop target it body orelse env) (M.den (.forLoop target it body orelse env))
   (.ret (fun r => ((match r with | .ok f => (.pure f : Sem Flow) | .error e => .raise e).onRaise fun (x : Value) => do
   if (← field x 1) == Value.none then unsupported "frame.own-activation:exception-without-traceback"
   setFlight x env.frame).wrap K H gd lv) none (gd false) (lv []) c p [] :: fs) s'') (fun x s'' => Seg M A R Y n s₀ c (H x) fs s'') s') (fun x s' => Seg M A R Y n s₀ c (H x) fs s') s)
  (hs : ∀ x, foldedSetIterable iter env x = pure x := by intro _; rfl) :
  Seg M A R Y n s₀ c ((exec (.For target iter body orelse pos) env).wrap K H gd lv) fs s := by
 show Seg M A R Y n s₀ c (.at pos fun _ => (eval iter env >>= fun v => foldedSetIterable iter env v >>= fun x => standAt iter.pos >>= fun _ => holding [x] (pyIter x) >>= fun it => runOwn (.forLoop target it body orelse env) env).wrap K H gd lv) fs s
 refine seg_at ?_
 rw [Sem.bind_eq_wrap', Sem.wrap_wrap]
 refine seg_wrap (wpAny_mono h (fun v s' h' => ?_) fun _ _ x => x)
 show Seg M A R Y n s₀ c ((foldedSetIterable iter env v >>= fun x => standAt iter.pos >>= fun _ => holding [x] (pyIter x) >>= fun it => runOwn (.forLoop target it body orelse env) env).wrap K H gd lv) fs s'
 rw [hs]
 show Seg M A R Y n s₀ c (.at iter.pos fun _ => (holding [v] (pyIter v) >>= fun it => runOwn (.forLoop target it body orelse env) env).wrap K H gd lv) fs s'
 refine seg_at ?_
 rw [Sem.bind_eq_wrap', Sem.wrap_wrap]
 refine seg_wrap (wpAny_holding (wpAny_mono h' (fun it s'' h'' => ?_) fun _ _ x => x))
 exact seg_call h''
theorem seg_If {test : PySem.Expr} {body orelse : List Stmt} {pos : Pos}
  (h : wpAny M (A.over c fs) (isTrue test env (eval test env)) (fun b s' => if b = true then Seg M A R Y n s₀ c ((execs body env).wrap K H gd lv) fs s' else Seg M A R Y n s₀ c ((execs orelse env).wrap K H gd lv) fs s') (fun x s' => Seg M A R Y n s₀ c (H x) fs s') s) :
  Seg M A R Y n s₀ c ((exec (.If test body orelse pos) env).wrap K H gd lv) fs s := by
 show Seg M A R Y n s₀ c (.at pos fun _ => (isTrue test env (eval test env) >>= fun b => if b = true then execs body env else execs orelse env).wrap K H gd lv) fs s
 refine seg_at ?_
 rw [Sem.bind_eq_wrap', Sem.wrap_wrap]
 refine seg_wrap (wpAny_mono h (fun b s' h' => ?_) fun _ _ x => x)
 cases b with
 | true => rw [if_pos rfl] at h'; exact h'
 | false => rw [if_neg Bool.false_ne_true] at h'; exact h'
theorem seg_Expr_YieldFrom {e : PySem.Expr} {ypos pos : Pos}
  (h : wpAny M (A.over c fs) (eval e env) (fun v s' => Stop (∃ T, s'.TypeIs v T ∧ (Value.type T == Value.type "coroutine") = false ∧ wpAny M (A.over c fs) (pyIter v) (fun it s'' => ∀ p, Seg M A R Y n s₀ (.builtin "proto.yield_from" ⟨[it, .bool false, .none], []⟩) (M.den (.builtin "proto.yield_from" ⟨[it, .bool false, .none], []⟩))
   (.ret (fun r => (((match r with | .ok f => (.pure f : Sem Flow) | .error e => .raise e).bind fun f => match f with | .ret v => pure v | _ => unsupported "internal:call-without-return-value").wrap (fun x => (dropValue (.YieldFrom e ypos) pos x).wrap K H gd lv) H gd lv)) none (gd false) (lv []) c p [] :: fs) s'') (fun x s'' => Seg M A R Y n s₀ c (H x) fs s'') s')) (fun x s' => Seg M A R Y n s₀ c (H x) fs s') s)
  (hi : interactive env = false := by rfl) :
  Seg M A R Y n s₀ c ((exec (.Expr (.YieldFrom e ypos) pos) env).wrap K H gd lv) fs s := by
 rw [exec_Expr env _ pos hi rfl]
 show Seg M A R Y n s₀ c (.at pos fun _ => ((eval e env >>= fun v => (standAt ypos >>= fun _ => yieldFrom env v)) >>= fun x =>
  dropValue (.YieldFrom e ypos) pos x).wrap K H gd lv) fs s
 refine seg_at ?_
 rw [Sem.bind_eq_wrap', Sem.bind_eq_wrap', Sem.wrap_wrap, Sem.wrap_wrap]
 refine seg_wrap (wpAny_mono h (fun v s' h' => ?_) fun _ _ x => x)
 obtain ⟨T, hT, hne, h'⟩ := h'
 refine seg_at ?_
 show Seg M A R Y n s₀ c ((yieldFrom env v).wrap _ _ _ _) fs s'
 unfold yieldFrom
 rw [Sem.bind_eq_wrap', Sem.wrap_wrap]
 refine seg_wrap (wpAny_typeOf hT ?_)
 rw [if_neg (by rw [hne]; exact Bool.false_ne_true), Sem.bind_eq_wrap', Sem.wrap_wrap]
 refine seg_wrap (wpAny_holding (wpAny_mono h' (fun it s'' h'' => ?_) fun _ _ x => x))
 refine seg_call (fun p => ?_)
 exact h'' p
end
section
variable {prog : Program} {w : World} {A : Around} {R : GenEnd} {Y : Protocol} {n : Nat} {s₀ : Shared} {fs : List Frame} {s : Shared} {env : Env}
theorem seg_forLoop {target : PySem.Expr} {it : Value} {body orelse : List Stmt}
  (h : wpAny (model prog w) (A.over (.forLoop target it body orelse env) fs) (pyNext it) (fun o s' => match o with
    | none => Seg (model prog w) A R Y n s₀ (.block orelse env) ((model prog w).den (.block orelse env)) fs s'
    | some v => wpAny (model prog w) (A.over (.forLoop target it body orelse env) fs) (assign target env v) (fun _ s'' =>
     Seg (model prog w) A R Y n s₀ (.forLoop target it body orelse env) ((execs body env).wrap (fun f => match f with
      | .next | .cont => .pure (.again (.forLoop target it body orelse env))
      | .brk => .pure (.done .next)
      | .ret v => .pure (.done (.ret v))) (fun e => (do noteFrame e env; theTreesLotGoes e : Sem Unit).wrap (fun _ => .raise e) .raise id id) id id) fs s'') (fun _ _ => False) s')
   (fun _ _ => False) s)
  (ht : ∀ v, letOwnedTupleGo target it v = pure () := by intro _; rfl) :
  Seg (model prog w) A R Y n s₀ (.forLoop target it body orelse env) ((model prog w).den (.forLoop target it body orelse env)) fs s := by
 show Seg _ A R Y n s₀ _ ((forTurn target it body orelse env).onRaise (fun x => do noteFrame x env; theTreesLotGoes x)) fs s
 unfold forTurn
 rw [Sem.onRaise_eq_wrap, Sem.bind_eq_wrap', Sem.wrap_wrap]
 refine seg_at ?_
 rw [Sem.bind_eq_wrap', Sem.wrap_wrap]
 refine seg_wrap (wpAny_pure ?_)
 refine seg_wrap (wpAny_onRaise (wpAny_mono h (fun o s' h' => ?_) fun _ _ x => x.elim))
 cases o with
 | none => exact seg_again rfl h'
 | some v =>
  dsimp only
  rw [ht]
  show Seg (model prog w) A R Y n s₀ _ ((assign target env v >>= fun _ => execs body env >>= fun f => match f with
   | .next => again (.forLoop target it body orelse env)
   | .cont => again (.forLoop target it body orelse env)
   | .brk => pure (.done .next)
   | .ret v => pure (.done (.ret v))).wrap _ _ _ _) fs s'
  rw [Sem.bind_eq_wrap', Sem.wrap_wrap]
  refine seg_wrap (wpAny_mono h' (fun _ s'' h'' => ?_) fun _ _ x => x.elim)
  rw [Sem.bind_eq_wrap', Sem.wrap_wrap]
  rw [Sem.wrap_congr (execs body env) _ _ (K' := fun f => match f with
      | .next | .cont => .pure (.again (.forLoop target it body orelse env))
      | .brk => .pure (.done .next)
      | .ret v => .pure (.done (.ret v))) (H' := (fun e => (do noteFrame e env; theTreesLotGoes e : Sem Unit).wrap (fun _ => .raise e) .raise id id))
    (fun f => by cases f <;> rfl)
    (fun e => by first | exact Sem.bind_eq_wrap _ _ | (show (do noteFrame e env; theTreesLotGoes e : Sem Unit).bind (fun _ => .raise e) = _; rw [Sem.bind_eq_wrap]))]
  exact h''
end
end
section
theorem entry_yf : entryFor table "proto.yield_from" = some Builtin.«proto.yield_from» := entryFor_of_tree (by kernel_rfl)
theorem den_builtin {prog : Program} {w : World} {id : String} {args : Args} {b : Builtin} (hb : entryFor table id = some b) : (model prog w).den (.builtin id args) = b args := by
 show (match entryFor table id with | some b => b args | none => unsupported ((withoutEnding? id "#data").getD id)) = _
 rw [hb]
theorem li_no_close : typeLookup (.type "list_iterator") "close" = pure none := by rw [typeLookup_type, builtinLookup_eq_fast]; kernel_rfl
section
variable {prog : Program} {w : World} {A : Around} {R : GenEnd} {Y : Protocol} {n : Nat} {s₀ : Shared} {fs : List Frame} {s : Shared} {env : Env}
theorem li_special {l it : Addr} {i : Nat} {items : Array Value} {x : Value} {E : Value → Shared → Prop} {Q : Option Value → Shared → Prop} (hit : s.heap.IsListIter it l i) (hl : s.heap.IsList l items) (hx : items[i]? = some x)
  (hQ : ∀ h', h'.IsListIter it l (i + 1) → Heap.SameBut it s.heap h' → Q (some x) { s with heap := h' }) : wpAny (model prog w) A (callSpecial? (.ref it) (Str.ofString "__next__")) Q E s := by
 obtain ⟨o, ho, hc, hd⟩ := id hit
 obtain ⟨ol, hol, _, nl, hdl⟩ := hl
 refine wpAny_callSpecial?_slot (name := Str.ofString "__next__") hit.typeIs slot_listiter_next
  (wpAny_call_entry slot_listiter_next hit.typeIs entry_listiter_next ?_ (args_listiter_next _))
 show wpAny _ _ (field (.ref it) 0 >>= _) _ _ s
 refine wpAny_bind (wpAny_field ho hd (x := .ref l) rfl ?_)
 show wpAny _ _ (if (Value.ref l == Value.none) = true then _ else _) _ _ s
 rw [if_neg (show ¬ ((Value.ref l == Value.none) = true) from Bool.false_ne_true)]
 show wpAny _ _ (field (.ref it) 1 >>= _) _ _ s
 refine wpAny_bind (wpAny_field ho hd (x := .int i 0) rfl ?_)
 show wpAny _ _ (seqItems? (.ref l) >>= _) _ _ s
 refine wpAny_bind (wpAny_seqItems hol hdl ?_)
 simp only [Int.toNat_natCast, hx]
 refine wpAny_bind (wpAny_setField ho hd (by simp) (wpAny_pure ⟨x, rfl, hQ _ ?_ (Heap.SameBut.update ..)⟩))
 exact ⟨_, Heap.get?_update_self _ ho (Obj.isFreed_of_fields (Obj.data_mapFields hd _)), (Obj.cls_mapFields ..).trans hc, by
  rw [Obj.data_mapFields hd]; simp [rawInt]⟩
theorem slept_not {M : Model} {l it : Addr} {i : Nat} {b : Bool} {E : Value → Shared → Prop} {Q : Unit → Shared → Prop} (hit : s.heap.IsListIter it l i) (h : Q () s) : wpAny M A (Builtin.Generator.sleptOver (.ref it) b) Q E s := by
 obtain ⟨o, ho, hc, hd⟩ := hit
 unfold Builtin.Generator.sleptOver
 refine wpAny_bind (wpAny_load ho ?_)
 rw [hc]
 rw [if_pos (show ((Value.type "list_iterator" != Value.type "generator") = true) by decide)]
 exact wpAny_pure h
noncomputable abbrev yfC (I : Addr) : Code := .builtin "proto.yield_from" ⟨[.ref I, .bool false, .none], []⟩
theorem seg_yf_item {I l : Addr} {i : Nat} {items : Array Value} {x : Value} (hit : s.heap.IsListIter I l i) (hl : s.heap.IsList l items) (hx : items[i]? = some x) (hfs : splitAtGen fs = none) (hfg : fs.any Frame.guarded = false)
  (h : ∀ h', h'.IsListIter I l (i + 1) → Heap.SameBut I s.heap h' → ∀ kap : Resume → Shared → Prop, (∀ s'', (s''.heap.IsListIter I l (i + 1)) → Seg (model prog w) A R Y n s'' (yfC I) ((model prog w).den (yfC I)) fs s'' → kap (.send .none) s'') → Y n s₀ x { s with heap := h' } kap) :
  Seg (model prog w) A R Y (n + 1) s₀ (yfC I) ((model prog w).den (yfC I)) fs s := by
 have e : (model prog w).den (yfC I) = Builtin.«proto.yield_from» ⟨[.ref I, .bool false, .none], []⟩ := den_builtin entry_yf
 rw [e]
 delta Builtin.«proto.yield_from»
 dsimp only
 rw [pure_bind]
 simp only [Bool.false_eq_true, if_false, show (Value.none == Value.none) = true from rfl, if_true]
 rw [Sem.bind_eq_wrap']
 refine seg_wrap (wpAny_attempt (wpAny_holding (wpAny_bind (wpAny_rule (wpAny_bind ?_)))))
 refine li_special hit hl hx fun h' hit' hs' => ?_
 refine wpAny_pure ?_
 dsimp only
 have hT : Shared.TypeIs { s with heap := h' } (.ref I) "list_iterator" := hit'.typeIs
 refine seg_bind (wpAny_typeOf hT ?_)
 refine seg_bind (wpAny_of_eq li_no_close ?_)
 refine seg_bind (wpAny_pure ?_)
 refine seg_bind (slept_not hit' ?_)
 show Seg (model prog w) A R Y (n + 1) s₀ (yfC I) (.yield x false [] _) fs { s with heap := h' }
 refine seg_yield hfs rfl hfg (h h' hit' hs' _ fun s'' hit2 hk => ?_)
 refine seg_bind (wpAny_pure ?_)
 refine seg_bind (slept_not hit2 ?_)
 refine seg_bind (wpAny_pure ?_)
 refine seg_again (Code.quiet_builtin _ (by decide +kernel)) ?_
 exact hk
theorem li_special_end {l it : Addr} {i : Nat} {items : Array Value} {E : Value → Shared → Prop} {Q : Option Value → Shared → Prop} (hh : A.handled = none) (hit : s.heap.IsListIter it l i) (hl : s.heap.IsList l items) (hx : items[i]? = none)
  (hE : ∀ h' e o vs, Heap.ExtBut it s.heap h' → h'.get? e = some o → o.cls = .type "StopIteration" → o.data = .fields vs → vs[5]? = some .none → E (.ref e) { s with heap := h' }) : wpAny (model prog w) A (callSpecial? (.ref it) (Str.ofString "__next__")) Q E s := by
 obtain ⟨o, ho, hc, hd⟩ := id hit
 obtain ⟨ol, hol, _, nl, hdl⟩ := hl
 refine wpAny_callSpecial?_slot (name := Str.ofString "__next__") hit.typeIs slot_listiter_next
  (wpAny_call_entry slot_listiter_next hit.typeIs entry_listiter_next ?_ (args_listiter_next _))
 show wpAny _ _ (field (.ref it) 0 >>= _) _ _ s
 refine wpAny_bind (wpAny_field ho hd (x := .ref l) rfl ?_)
 show wpAny _ _ (if (Value.ref l == Value.none) = true then _ else _) _ _ s
 rw [if_neg (show ¬ ((Value.ref l == Value.none) = true) from Bool.false_ne_true)]
 show wpAny _ _ (field (.ref it) 1 >>= _) _ _ s
 refine wpAny_bind (wpAny_field ho hd (x := .int i 0) rfl ?_)
 show wpAny _ _ (seqItems? (.ref l) >>= _) _ _ s
 refine wpAny_bind (wpAny_seqItems hol hdl ?_)
 simp only [Int.toNat_natCast, hx]
 refine wpAny_bind (wpAny_rule (wpAny_bind (wpAny_setField ho hd (by simp) ?_)))
 show wpAny _ _ (newExc (.type "StopIteration") [] >>= _) _ _ _
 refine wpAny_bind ?_
 simp only [newExc, newTuple]
 refine wpAny_bind (wpAny_newObj_type ?_ (by size_fits))
 refine wpAny_bind (m := firstArgMember _ _) (wpAny_of_eq (a := Value.none) (by first | rfl | (simp only [firstArgMember]; rfl)) ?_)
 refine wpAny_newObj_type ?_ (by size_fits)
 simp only [raiseNew]
 refine wpAny_bind (wpAny_handled ?_)
 first | rw [show A.in1.handled = none from hh] | rw [hh]
 refine wpAny_bind (wpAny_pure (wpAny_throw ?_))
 exact hE _ _ _ _ (((Heap.SameBut.update ..).extBut.push _).push _) (Heap.get?_push_size _ rfl) rfl rfl rfl
theorem seg_yf_end {I l : Addr} {i : Nat} {items : Array Value} (hh : (A.over (yfC I) fs).handled = none) (hit : s.heap.IsListIter I l i) (hl : s.heap.IsList l items) (hx : items[i]? = none)
  (h : ∀ h', Heap.ExtBut I s.heap h' → Seg (model prog w) A R Y n s₀ (yfC I) (leafOf (.ok (.ret .none))) fs { s with heap := h' }) :
  Seg (model prog w) A R Y n s₀ (yfC I) ((model prog w).den (yfC I)) fs s := by
 have e : (model prog w).den (yfC I) = Builtin.«proto.yield_from» ⟨[.ref I, .bool false, .none], []⟩ := den_builtin entry_yf
 rw [e]
 delta Builtin.«proto.yield_from»
 dsimp only
 rw [pure_bind]
 simp only [Bool.false_eq_true, if_false, show (Value.none == Value.none) = true from rfl, if_true]
 rw [Sem.bind_eq_wrap']
 refine seg_wrap (wpAny_attempt (wpAny_holding (wpAny_bind (wpAny_rule (wpAny_bind ?_)))))
 refine li_special_end hh hit hl hx fun h' e o vs hx' ho hc hd hv => ?_
 dsimp only
 have hT : Shared.TypeIs { s with heap := h' } (.ref e) "StopIteration" := ⟨o, ho, hc⟩
 refine seg_bind ?_
 unfold Builtin.Generator.endsTheTurnAsAValue Builtin.Generator.isStopAndMetaclass
 refine wpAny_bind (wpAny_bind (wpAny_typeOf hT ?_))
 refine wpAny_bind (wpAny_of_eq isSubtype_stop ?_)
 refine wpAny_bind (wpAny_of_eq (a := Value.type "type") (by first | rfl | kernel_rfl) (wpAny_pure ?_))
 dsimp only
 refine wpAny_ite_split (fun hab => absurd hab Bool.false_ne_true) (fun _ => wpAny_pure ?_)
 rw [if_pos rfl]
 refine seg_bind (wpAny_rule ?_)
 refine seg_bind (wpAny_field ho hd hv ?_)
 exact h h' hx'
end
end
section
def LamTab (pos : Pos) (qual : Str) (ps : Array Value) (rest : List (Addr × Obj)) : Prop :=
 ps = #[] ∨ ∃ c' oc vs t, ps = #[rawInt pos.line, rawInt pos.col, .ref c'] ∧ (c', oc) ∈ rest ∧ oc.data = .fields vs ∧ vs[1]? = some (.str qual t)
section
variable {M : Model} {A : Around} {E : Value → Shared → Prop} {s : Shared} {h₀ : Heap} {L a c P : Addr} {m mg mb : Str → Option Value} {cn : Str} {cs : Scope} {ccd : Value} {cl : List (Str × Addr)} {news rest : List (Addr × Obj)} {g : Obj → List (Addr × Obj)}
 {p : Program} {loose : List Str} {mean : ExcName → Option Value} {params : Arguments} {body : Expr} {scope : Scope} {ps : Array Value} {pos : Pos} {clos : List (Str × Addr)}
theorem lam_any {qual : Str} {Q : Value → Shared → Prop} (hq : (envX cn cs L a ccd cl).qual ++ "<lambda>" = qual) (hdef : defaultsOf params (envX cn cs L a ccd cl) = ([], [])) (F : Fr h₀ L s.heap m) (N : News h₀ L s.heap news) (T : Top p loose mean mg mb h₀) (C : CodeHd h₀ c P) (hcd : ccd = .ref c) (U : UpdF P (tabObj ps) news g)
  (hp : LamTab pos qual ps rest) (hr : ∀ q ∈ rest, q ∈ news)
  (hcl : closureFor scope (envX cn cs L a ccd cl) = pure clos)
  (h : ∀ f c' oc vs t ctv h' tk, Fr h₀ L h' m →
   News h₀ L h' ((f, kla_obj "<lambda>" qual params body scope clos ((mg "__name__").getD .none) c' ctv) :: (c', oc) :: g (tabObj #[rawInt pos.line, rawInt pos.col, .ref c'])) →
   oc.data = .fields vs → vs[1]? = some (.str qual t) → (∀ q ∈ news, q.1 < f) → (@LT.lt Nat _ c' f) → ((∀ q ∈ news, q.1 < c') ∨ (c', oc) ∈ rest) → Q (.ref f) { s with heap := h', toks := tk }) :
  wpAny M A (eval (.Lambda params body scope pos) (envX cn cs L a ccd cl)) Q E s := by
 subst hq
 refine kla_eval hdef ?_
 rcases hp with rfl | ⟨c', oc, vs, t, rfl, hm, hd, hv⟩
 ·refine kla_nest F N T C hcd U trivial rfl hcl fun f c' oc vs t ctv h' tk F' N' hd hv l1 l2 => ?_
  exact h f c' oc vs t ctv h' tk F' (by simpa using N') hd hv (fun q hq => Nat.lt_trans (l1 q hq) l2) l2 (.inl l1)
 ·obtain ⟨pre, post, e1, e2, _, _⟩ := U.split
  have hmem : (P, tabObj #[rawInt pos.line, rawInt pos.col, .ref c']) ∈ news := by rw [e1]; simp
  have hn := hr _ hm
  refine kla_hit F N T C hcd hmem (by show True; trivial) (by show (if ((pos.line : Int) == (pos.line : Int) && (pos.col : Int) == (pos.col : Int)) = true then some (Value.ref c') else codeAmong pos []) = _; rw [beq_self_eq_true, beq_self_eq_true]; rfl) hcl fun f ctv h' tk F' N' l1 => ?_
  refine h f c' oc vs t ctv h' tk F' (fun q hq => ?_) hd hv l1 (l1 _ hn) (.inr hm)
  rw [e2, ← e1] at hq
  rcases List.mem_cons.mp hq with rfl | hq
  ·exact N' _ (.head _)
  rcases List.mem_cons.mp hq with rfl | hq
  ·exact N' _ (.tail _ hn)
  ·exact N' _ (.tail _ hq)
end
end
section
section
variable {prog : Program} {w : World} {A : Around} {E : Value → Shared → Prop} {s : Shared} {I : Addr} {n : Nat} {P : Nat → Value → Prop} {St : Nat → Heap → Prop}
theorem ext_loop {R : Result → Shared → Prop} (W : Walks prog w A.in1 I [I] [I] n P St) (S : Addr) (hSI : S ≠ I) (res : Value) :
  ∀ (k i : Nat) (s : Shared) (acc : Array Value) (c : Nat), n - i = k → i ≤ n → St i s.heap → s.heap.get? S = some (listOf acc c) → acc.size + (n - i) ≤ sizeLine →
  (∀ h' tk acc' c', (∀ b o, b ≠ S → b ≠ I → s.heap.get? b = some o → h'.get? b = some o) → h'.get? S = some (listOf acc' c') → acc'.size = acc.size + (n - i) → R (.ok (.ret res)) { s with heap := h', toks := tk }) →
  codeAny (model prog w) A (.builtin "list.extend.loop" ⟨[.ref S, .ref I, res], []⟩) R s := by
 intro k
 induction k with
 | zero =>
  intro i s acc c hk hi hst hS hz hR
  have hin : i = n := by omega
  subst hin
  refine codeAny_builtin PySem.F.entry_extend_loop ?_
  rw [Around.under_plainId PySem.F.plain_extend_loop _]
  show wpAny _ A.in1 (pyNext (.ref I) >>= _) _ _ s
  refine wpAny_bind (W.done s _ _ hst fun h' tk hm => ?_)
  exact wpAny_pure (hR h' tk acc c (fun b o _ hb e => hm b o (by simpa using hb) e) (hm S _ (by simpa using hSI) hS) (by omega))
 | succ k ih =>
  intro i s acc c hk hi hst hS hz hR
  have hlt : i < n := by omega
  refine codeAny_builtin PySem.F.entry_extend_loop ?_
  rw [Around.under_plainId PySem.F.plain_extend_loop _]
  show wpAny _ A.in1 (pyNext (.ref I) >>= _) _ _ s
  refine wpAny_bind (W.item i s _ _ hlt hst fun v h1 tk1 hP hst' hm => ?_)
  have hS' := hm S _ (by simpa using hSI) hS
  show wpAny _ A.in1 (updateSeq S (·.push v) >>= _) _ _ _
  refine wpAny_bind ?_
  refine wpAny_updateSeq hS' rfl (wpAny_pure ⟨plainId_quiet PySem.F.plain_extend_loop _, ih (i + 1) _ (acc.push v) _ (by omega) hlt (W.frame _ _ _ hst' fun b hb o e => ?_) (Heap.get?_update_self _ hS' rfl) (by rw [Array.size_push]; omega) fun h'' tk'' acc' c' hm'' hS'' hacc' => ?_⟩)
   (by omega) (by show (acc.push v).size ≤ sizeLine + 1; rw [Array.size_push]; omega)
  ·rw [List.mem_singleton.mp hb] at e ⊢
   exact (Heap.get?_update_other _ _ hSI).trans e
  ·refine hR h'' tk'' acc' c' (fun b o hb hbI e => hm'' b o hb hbI ?_) hS'' (by rw [hacc', Array.size_push]; omega)
   exact (Heap.get?_update_other _ _ (Ne.symm hb)).trans (hm b o (by simpa using hbI) e)
theorem ext_str {Q : Value → Shared → Prop} (hh : A.handled = none) (x : Str) (t : Tok) (S : Addr) (vs : Array Value) (c : Nat) (hS : s.heap.get? S = some (listOf vs c)) (hn : vs.size + x.cps.size ≤ sizeLine)
  (hQ : ∀ h' tk acc' c', (∀ b o, b ≠ S → s.heap.get? b = some o → h'.get? b = some o) → h'.get? S = some (listOf acc' c') → acc'.size = vs.size + x.cps.size → Q .none { s with heap := h', toks := tk }) :
  wpAny (model prog w) A (call (.builtin "list.extend") [.ref S, .str x t]) Q E s := by
 have hSI : S ≠ s.heap.objs.size := Nat.ne_of_lt (Heap.lt_size hS)
 have hT : s.TypeIs (.ref S) "list" := ⟨_, hS, rfl⟩
 refine wpAny_call (codeAny_call_builtin PySem.F.slot_list_extend.plain PySem.F.entry_list_extend (PySem.F.slot_list_extend.check _ _ _ _ _ _ _ _ hT (PySem.F.args_list_extend_2 _ _) ?_))
 show wpAny _ A.in1 (Builtin.List.listExtendWith (.ref S) (.str x t) .none) _ _ _
 unfold Builtin.List.listExtendWith
 refine wpAny_bind (wpAny_typeOf (T := "str") (v := .str x t) rfl ?_)
 have h1 : Builtin.List.listSameRef (.ref S) (.str x t) = false := rfl
 have h2 : (Value.type "str" == Value.type "list") = false := by decide
 have h3 : (Value.type "str" == Value.type "tuple") = false := by decide
 simp only [h1, h2, h3, Bool.or_false, Bool.false_eq_true, if_false]
 refine wpAny_bind (wpAny_pyIter_str fun o St W hst => ?_)
 refine wpAny_bind (wpAny_holding ?_)
 unfold Builtin.List.listLengthHint
 refine wpAny_bind (wpAny_specialOf (T := "str") (v := .str x t) rfl PySem.F.str_len ?_)
 wp_delta
 refine wpAny_bind (wpAny_isInstance (T := "str") (v := .str x t) (b := true) rfl (by rw [isSubtype_type]; kernel_rfl) ?_)
 show wpAny _ _ (typeOf (Value.str x t) >>= _) _ _ _
 refine wpAny_bind (wpAny_typeOf (T := "str") (v := .str x t) rfl ?_)
 refine wpAny_pure ?_
 rw [if_neg (by decide)]
 refine wpAny_pure ⟨plainId_quiet PySem.F.plain_extend_loop _, ext_loop (W A.in1 hh) S hSI _ x.cps.size 0 _ vs c rfl (Nat.zero_le _) hst (Heap.get?_push_of_some _ hS) (by omega) fun h' tk acc' c' hm hS' hacc => ?_⟩
 exact hQ h' tk acc' c' (fun b o hb e => hm b o hb (Nat.ne_of_lt (Heap.lt_size e)) (Heap.get?_push_of_some _ e)) hS' (by omega)
end
section
variable {prog : Program} {w : World} {A : Around} {E : Value → Shared → Prop} {s : Shared} {h₀ : Heap} {L D : Addr} {m : Str → Option Value} {news : List (Addr × Obj)} {g : Obj → List (Addr × Obj)} {vs : Array Value} {c : Nat}
theorem ext_str_K {Q : Value → Shared → Prop} (hh : A.handled = none) (F : Fr h₀ L s.heap m) (N : News h₀ L s.heap news) (U : UpdF D (listOf vs c) news g) (x : Str) (t : Tok) (hn : vs.size + x.cps.size ≤ sizeLine)
  (h : ∀ h' tk acc' c', Fr h₀ L h' m → News h₀ L h' (g (listOf acc' c')) → acc'.size = vs.size + x.cps.size → Q .none { s with heap := h', toks := tk }) :
  wpAny (model prog w) A (call (.builtin "list.extend") [.ref D, .str x t]) Q E s := by
 obtain ⟨pre, post, rfl, e2, a, b⟩ := U.split
 have z := N (D, listOf vs c) (List.mem_append.mpr (.inr (.head _)))
 refine ext_str hh x t D vs c z.1 hn fun h' tk acc' c' hk hD hz => h h' tk acc' c' ⟨F.ns.at' fun o e => hk _ o (Ne.symm z.2.1) e, fun b o e => hk b o (fun q => by rw [q, z.2.2] at e; cases e) (F.keep b o e), F.above⟩ ?_ hz
 rw [e2]
 intro q hq
 rcases List.mem_append.mp hq with hq | hq
 ·exact ⟨hk _ _ (a q hq) (N q (List.mem_append_left _ hq)).1, (N q (List.mem_append_left _ hq)).2⟩
 rcases List.mem_cons.mp hq with rfl | hq
 ·exact ⟨hD, z.2⟩
 ·exact ⟨hk _ _ (b q hq) (N q (List.mem_append_right _ (.tail _ hq))).1, (N q (List.mem_append_right _ (.tail _ hq))).2⟩
end
end
section
noncomputable abbrev pcS (x : Str) (k : Nat) : Str := Txt.slice x (some (k : Int)) (some ((k : Int) + 1))
theorem slice_nat (x : Str) {a b : Nat} (hab : a ≤ b) (hb : b ≤ x.length) : Txt.slice x (some (a : Int)) (some (b : Int)) = ⟨((x.cps.toList.drop a).take (b - a)).toArray⟩ := by
 unfold Txt.slice
 rw [StrLaws.sliced_plain x hab hb]
 split
 ·rename_i h
  have hl : (Builtin.Str.strSliceIndices (some (a : Int)) (some (b : Int)) 1 x.length).length = x.length := by simpa using h
  rw [StrLaws.strSliceIndices_plain hab hb] at hl
  simp at hl
  have ha : a = 0 := by omega
  have hbb : b = x.length := by omega
  subst ha hbb
  cases x with | mk c =>
   simp [Str.length]
   rw [show c.size = c.toList.length from rfl, List.take_length]
 ·rfl
theorem pcS_lt (x : Str) {k : Nat} (h : k < x.length) : pcS x k = ⟨#[x.cps[k]'h]⟩ := by
 have e : ((k : Int) + 1) = ((k + 1 : Nat) : Int) := by omega
 unfold pcS
 rw [e, slice_nat x (Nat.le_succ k) h]
 have h' : k < x.cps.toList.length := h
 have : (List.take (k + 1 - k) (List.drop k x.cps.toList)) = [x.cps[k]'h] := by
  rw [show k + 1 - k = 1 by omega, List.drop_eq_getElem_cons h', List.take_succ_cons, List.take_zero]
  rfl
 rw [this]
theorem pcS_end (x : Str) : pcS x x.length = ⟨#[]⟩ := by
 unfold pcS Txt.slice
 have e : Builtin.Str.strSliceIndices (some (x.length : Int)) (some ((x.length : Int) + 1)) 1 x.length = [] := by
  unfold Builtin.Str.strSliceIndices sliceRange
  simp only [show (1 : Int) > 0 by decide, if_true]
  have h1 : ¬ ((x.length : Int) < 0) := by omega
  have h2 : ¬ ((x.length : Int) + 1 < 0) := by omega
  simp only [h1, h2, if_false]
  have e1 : max (0 : Int) (min (x.length : Int) (x.length : Int)) = x.length := by omega
  have e2 : max (0 : Int) (min ((x.length : Int) + 1) (x.length : Int)) = x.length := by omega
  rw [e1, e2]
  simp
 rw [e]
 by_cases h : x.length = 0
 ·simp [h]
  cases x with | mk c => simp [Str.length] at h; simp [h]
 ·simp [Ne.symm h]
theorem pcS_size (x : Str) {k : Nat} (h : k ≤ x.length) : k + (pcS x k).cps.size = min (k + 1) x.length := by
 rcases Nat.lt_or_eq_of_le h with h | h
 ·rw [pcS_lt x h]
  simp
  omega
 ·rw [h, pcS_end]
  simp
theorem pcS_one (x : Str) {k : Nat} (h : k ≤ x.length) : (pcS x k).cps.size ≤ 1 := by
 rcases Nat.lt_or_eq_of_le h with h | h
 ·rw [pcS_lt x h]; simp
 ·rw [h, pcS_end]; simp
end
section
noncomputable def wsC (c : Nat) : Bool := c == 10 || c == 9 || c == 13 || c == 32
noncomputable def nlC (c : Nat) (ln : Int) : Int := if c = 10 then ln + 1 else ln
noncomputable def tokB (acc : List Nat) (l : List Nat) (ln : Int) : List Nat × List Nat × Int :=
 match l with
 | [] => (acc, [], ln)
 | c :: r => if wsC c then (acc, r, nlC c ln) else tokB (acc ++ [c]) r ln
noncomputable def tokA (l : List Nat) (ln : Int) : List Nat × List Nat × Int :=
 match l with
 | [] => ([], [], ln)
 | c :: r => if wsC c then tokA r (nlC c ln) else tokB [c] r ln
theorem str_nil_push (c : Nat) : Str.ofString "" ++ (⟨#[c]⟩ : Str) = ⟨[c].toArray⟩ := by
 rw [show Str.ofString "" = ⟨#[]⟩ by decide]
 show (⟨#[] ++ #[c]⟩ : Str) = _
 simp
theorem str_push (l : List Nat) (c : Nat) : (⟨l.toArray⟩ : Str) ++ (⟨#[c]⟩ : Str) = ⟨(l ++ [c]).toArray⟩ := by
 show (⟨l.toArray ++ #[c]⟩ : Str) = _
 simp
theorem drop_at {x : Str} {k c : Nat} (h : x.cps[k]? = some c) : x.cps.toList.drop k = c :: x.cps.toList.drop (k + 1) := by
 have hlt : k < x.cps.toList.length := by
  rcases Nat.lt_or_ge k x.cps.toList.length with h1 | h1
  ·exact h1
  ·rw [Array.getElem?_eq_none (by simpa using h1)] at h
   cases h
 rw [List.drop_eq_getElem_cons hlt]
 have : x.cps.toList[k] = c := by
  have h2 : x.cps[k]? = some (x.cps[k]'(by simpa using hlt)) := Array.getElem?_eq_getElem _
  rw [h2] at h
  cases h
  rfl
 rw [this]
theorem wsC_mem (c : Nat) : wsC c = decide (c ∈ (Str.ofString "\n\t\x0d ").cps.toList) := by
 rw [show (Str.ofString "\n\t\x0d ").cps.toList = [10, 9, 13, 32] by decide]
 unfold wsC
 simp [Bool.or_assoc]
 rfl
theorem ws_yes {c : Nat} (h : (Builtin.Str.occurrences (Str.ofString "\n\t\x0d ") ⟨#[c]⟩ 0 (Str.ofString "\n\t\x0d ").length 1).isEmpty = false) : wsC c = true := by
 have := StrLaws.found_one (Str.ofString "\n\t\x0d ") c
 rw [h] at this
 rw [wsC_mem, ← this]
 rfl
theorem ws_no {c : Nat} (h : (Builtin.Str.occurrences (Str.ofString "\n\t\x0d ") ⟨#[c]⟩ 0 (Str.ofString "\n\t\x0d ").length 1).isEmpty = true) : wsC c = false := by
 have := StrLaws.found_one (Str.ofString "\n\t\x0d ") c
 rw [h] at this
 rw [wsC_mem, ← this]
 rfl
theorem qt_no {c : Nat} (h : ((⟨#[c]⟩ : Str) == Str.ofString "\"") = true) : c = 34 := by
 have := beq_iff_eq.mp h
 rw [show Str.ofString "\"" = ⟨#[34]⟩ by decide] at this
 simpa using this
theorem bs_no {c : Nat} (h : ((⟨#[c]⟩ : Str) == Str.ofString "\\") = true) : c = 92 := by
 have := beq_iff_eq.mp h
 rw [show Str.ofString "\\" = ⟨#[92]⟩ by decide] at this
 simpa using this
theorem tokB_len : ∀ (l acc : List Nat) (ln : Int), (tokB acc l ln).2.1.length ≤ l.length
 | [], acc, ln => Nat.le_refl _
 | c :: r, acc, ln => by
  unfold tokB
  split
  ·exact Nat.le_succ _
  ·exact Nat.le_trans (tokB_len r (acc ++ [c]) ln) (Nat.le_succ _)
theorem tokA_len : ∀ (l : List Nat) (ln : Int), (tokA l ln).2.1.length ≤ l.length ∧ ((tokA l ln).1 ≠ [] → (tokA l ln).2.1.length < l.length)
 | [], ln => ⟨Nat.le_refl _, fun h => absurd rfl h⟩
 | c :: r, ln => by
  unfold tokA
  split
  ·obtain ⟨a, b⟩ := tokA_len r (nlC c ln)
   exact ⟨Nat.le_trans a (Nat.le_succ _), fun h => Nat.lt_succ_of_lt (b h)⟩
  ·have := tokB_len r [c] ln
   exact ⟨Nat.le_trans this (Nat.le_succ _), fun _ => Nat.lt_succ_of_le this⟩
noncomputable def wordsF : Nat → List Nat → Int → List (List Nat) × Int
 | 0, _, ln => ([], ln)
 | n + 1, l, ln => if (tokA l ln).1 = [] then ([], (tokA l ln).2.2) else ((tokA l ln).1 :: (wordsF n (tokA l ln).2.1 (tokA l ln).2.2).1, (wordsF n (tokA l ln).2.1 (tokA l ln).2.2).2)
noncomputable abbrev wordS (l : List Nat) : Str := ⟨l.toArray⟩
theorem tokB_word : ∀ (l acc : List Nat) (ln : Int), (tokB acc l ln).1.length ≤ acc.length + l.length
 | [], acc, ln => Nat.le_refl _
 | c :: r, acc, ln => by
  unfold tokB
  split
  ·exact Nat.le_add_right _ _
  ·have := tokB_word r (acc ++ [c]) ln
   rw [List.length_append, List.length_singleton] at this
   rw [List.length_cons]
   omega
theorem tokA_word : ∀ (l : List Nat) (ln : Int), (tokA l ln).1.length ≤ l.length
 | [], ln => Nat.le_refl _
 | c :: r, ln => by
  unfold tokA
  split
  ·exact Nat.le_trans (tokA_word r (nlC c ln)) (Nat.le_succ _)
  ·have := tokB_word r [c] ln
   rw [List.length_singleton] at this
   rw [List.length_cons]
   omega
end
section
open LCt LCg
inductive SrcTu (w : World) (A : Around) (h₀ : Heap) (L : Addr) (m : Str → Option Value) (env : Env) (elt : PySem.Expr) (x : Str) (scope : Scope) (cl : List (Str × Addr)) (Fin : Shared → List Value → List (Addr × Obj) → Prop) (xv : Value) (s₁ : Shared) : Prop
 | mk (T : PySem.Addr) (items : Array PySem.Value) (k : Nat) (news : List (PySem.Addr × PySem.Obj)) (h : xv = .ref T ∧ Fr h₀ L s₁.heap m ∧ News h₀ L s₁.heap news ∧ (T, ({ cls := .type "tuple", data := .seq items k } : Obj)) ∈ news ∧ items.size ≤ sizeLine ∧
  ∀ g, CompRest Challenge.rw_to0089_01.prog w A h₀ L m env elt x scope cl { s₁ with heap := g } (fun nw => (T, ({ cls := .type "tuple", data := .seq items k } : Obj)) ∈ nw) (fun i v => items[i]? = some v) (Fin { s₁ with heap := g }) items.size 0 [] news) : SrcTu w A h₀ L m env elt x scope cl Fin xv s₁
section
variable {w : World} {A : Around} {E : Value → Shared → Prop} {s : Shared} {h₀ : Heap} {L : Addr} {m : Str → Option Value} {env : Env}
theorem ListComp_tup {elt iter : PySem.Expr} {x : Str} {px : Pos} {scope : Scope} {cl : List (Str × Addr)} {pos : Pos} {Q : Value → Shared → Prop} (_F₀ : Fr h₀ L s.heap m) (hh : A.handled = none)
  (hclos : closureFor scope env = pure cl) (hcell : ∀ y ∈ scope.names, y.2 ≠ .cell) (hkind : scope.kind = .function)
  (hnames : ∀ y ∈ scope.names, y.2 = .local → scope.names.lookup y.1 = some .local) (hx : scope.names.lookup x = some .local)
  (h : wpAny (model Challenge.rw_to0089_01.prog w) A (eval iter env) (SrcTu w A h₀ L m env elt x scope cl (fun s₂ => FinE h₀ L m s₂ Q)) E s)
  (hs : ∀ x, foldedSetIterable iter env x = pure x := by intro _; rfl) :
  wpAny (model Challenge.rw_to0089_01.prog w) A (eval (.ListComp elt [⟨.Name x px, iter, [], 0⟩] scope pos) env) Q E s := by
 rw [eval_ListComp]
 refine wpAny_comprehension_free (use := none) rfl hs hclos hkind hnames (wpAny_mono h (fun xv s₁ h₁ => ?_) fun _ _ e => e)
 obtain ⟨T, items, k, news, rfl, F, N, hm, hsz, R⟩ := h₁
 have hT := (N _ hm).1
 have hlt : T < s₁.heap.objs.size := Heap.lt_size hT
 have ht : s₁.heap.IsTuple T items := ⟨_, hT, rfl, k, rfl⟩
 refine wpAny_pyIter_tuple ht ?_
 have up : ∀ b o, s₁.heap.get? b = some o → (s₁.heap.push { cls := .type "tuple_iterator", data := .fields #[.ref T, .int 0 0] }).get? b = some o := fun b o e => Heap.get?_push_of_some _ e
 refine block_U (Walks.tuple hh s₁.heap.objs.size T (Nat.ne_of_lt hlt) items) hsz (fun i h st => by obtain ⟨o, e, _⟩ := st.1; exact ⟨o, e⟩) (fun i h h' o nw st e1 e2 _ N' hS => ?_) hcell hkind hx ⟨⟨_, Heap.get?_push_size _ rfl, rfl, rfl⟩, ht.at fun o e => up _ o e⟩ (fun b hb => ?_)
  (F.keeps up) (N.grown up) (Nat.ne_of_lt F.ns.lt) (next_is_new F) (fun p hp => Nat.ne_of_lt (Heap.lt_size (N p hp).1)) hm (R _) ?_
 ·refine ⟨?_, ⟨_, (N' _ hS).1, rfl, k, rfl⟩⟩
  obtain ⟨o', e3, r⟩ := st.1
  rw [e1] at e3
  cases e3
  exact ⟨o, e2, r⟩
 ·show b < (s₁.heap.push _).objs.size
  rw [Heap.size_push]
  rcases List.mem_cons.mp hb with rfl | hb
  ·exact Nat.lt_succ_self _
  ·rw [List.mem_singleton.mp hb]; exact Nat.lt_succ_of_lt hlt
 ·intro D C h tk m' ys news' F' N' o1 hn hC₀ hD₀ hCL hDL hCD offC fin
  refine ⟨m', hn, fun h'' hs'' => fin D h'' tk (F'.change hs'' hCL hC₀) (fun p hp => ?_) o1⟩
  refine ⟨hs''.extBut _ _ ?_ (N' p hp).1, (N' p hp).2⟩
  rcases List.mem_cons.mp hp with rfl | hp
  ·exact Ne.symm hCD
  ·exact offC p hp
theorem comp_tup {elt : PySem.Expr} {x : Str} {scope : Scope} {cl : List (Str × Addr)} {Fin : Shared → List Value → List (Addr × Obj) → Prop} {T : Addr} {items : Array Value} {k : Nat} {news : List (Addr × Obj)} {s₁ : Shared} (R : Nat → List Value → Prop)
  (F : Fr h₀ L s₁.heap m) (N : News h₀ L s₁.heap news) (hm : (T, ({ cls := .type "tuple", data := .seq items k } : Obj)) ∈ news) (hsz : items.size ≤ 100000) (R0 : R 0 [])
  (step : ∀ i ys v I oI C oC D m₂ h tk (E' : Value → Shared → Prop), items[i]? = some v → R i ys → NsObj oC m₂ → m₂ x = some v → Fr h₀ L h m → News h₀ L h ((I, oI) :: (C, oC) :: (D, lst ys) :: news) → Off3 I C D news → ((@Ne Nat I C) ∧ (@Ne Nat I D) ∧ (@Ne Nat C D)) →
   wpAny (model Challenge.rw_to0089_01.prog w) A (eval elt (compEnvC scope cl C env)) (MapEnd h₀ L m { s₁ with heap := h, toks := tk } ((I, oI) :: (C, oC) :: (D, lst ys) :: news) (fun y => R (i + 1) (ys ++ [y]))) E' { s₁ with heap := h, toks := tk })
  (fin : ∀ g ys, R items.size ys → Fin { s₁ with heap := g } ys news) :
  SrcTu w A h₀ L m env elt x scope cl Fin (.ref T) s₁ := by
 refine ⟨T, items, k, news, rfl, F, N, hm, by rw [sizeLine_eq]; omega, fun g => ?_⟩
 refine rest_ind (fun i ys nw => R i ys ∧ nw = news) (fun ys nw hi => ?_) (fun i ys nw v I oI C oC D m₂ h tk E' hi hI hP hoC hx F' N' off ne => ?_) _ 0 [] news (Nat.zero_add _) ⟨R0, rfl⟩
 ·obtain ⟨h1, rfl⟩ := hi
  exact fin g ys h1
 ·obtain ⟨h1, rfl⟩ := hI
  refine wpAny_mono (step i ys v I oI C oC D m₂ h tk E' hP h1 hoC hx F' N' off ne) (fun y s' hc => ?_) fun _ _ e => e
  obtain ⟨h', tk', rfl, F2, N2, r⟩ := hc
  exact ⟨h', tk', nw, rfl, F2, N2, off, hm, r, rfl⟩
end
end
section
open LCt LCg in
theorem comp_test {w : World} {A : Around} {h₀ : Heap} {L : Addr} {m : Str → Option Value} {env : Env} {ct elt : PySem.Expr} {x : Str} {scope : Scope} {cl : List (Str × Addr)} {Fin : Shared → List Value → List (Addr × Obj) → Prop} {ax : Addr} {vs : List Value} {k : Nat} {news : List (Addr × Obj)} {s₁ : Shared} (R : Nat → List Value → Prop)
  (hh : A.handled = none) (F : Fr h₀ L s₁.heap m) (N : News h₀ L s₁.heap news) (hm : (ax, listOf vs.toArray k) ∈ news) (hsz : vs.length ≤ 100000) (R0 : R 0 [])
  (step : ∀ i ys v I oI C oC D m₂ h tk (E' : Value → Shared → Prop), vs[i]? = some v → R i ys → NsObj oC m₂ → m₂ x = some v → Fr h₀ L h m → News h₀ L h ((I, oI) :: (C, oC) :: (D, lst ys) :: news) → Off3 I C D news → ((@Ne Nat I C) ∧ (@Ne Nat I D) ∧ (@Ne Nat C D)) →
   wpAny (model Challenge.rw_to0089_01.prog w) A (isTrue ct (compEnvC scope cl C env) (eval ct (compEnvC scope cl C env))) (fun ok s' => if ok = true then
    wpAny (model Challenge.rw_to0089_01.prog w) A (eval elt (compEnvC scope cl C env)) (MapEnd h₀ L m { s₁ with heap := h, toks := tk } ((I, oI) :: (C, oC) :: (D, lst ys) :: news) (fun y => R (i + 1) (ys ++ [y]))) E' s'
    else MapEnd h₀ L m { s₁ with heap := h, toks := tk } ((I, oI) :: (C, oC) :: (D, lst ys) :: news) (fun _ => R (i + 1) ys) Value.none s') E' { s₁ with heap := h, toks := tk })
  (fin : ∀ g ys, R vs.length ys → Fin { s₁ with heap := g } ys news) :
  CompSrcT Challenge.rw_to0089_01.prog w A h₀ L m env ct elt x scope cl Fin (.ref ax) s₁ := by
 have hz : vs.toArray.size = vs.length := List.size_toArray ..
 refine CompSrcT.ledger hh F N hm (by rw [hz, sizeLine_eq]; omega) fun g => ?_
 refine restT_ind (fun i ys nw => R i ys ∧ nw = news) (fun ys nw hi => ?_) (fun i ys nw v I oI C oC D m₂ h tk E' hi hI hP hoC hx F' N' off ne => ?_) _ 0 [] news (Nat.zero_add _) ⟨R0, rfl⟩
 ·obtain ⟨h1, rfl⟩ := hi
  exact fin g ys (by rwa [hz] at h1)
 ·obtain ⟨h1, rfl⟩ := hI
  have hv : vs[i]? = some v := by simpa using hP
  refine wpAny_mono (step i ys v I oI C oC D m₂ h tk E' hv h1 hoC hx F' N' off ne) (fun ok s' hc => ?_) fun _ _ e => e
  cases ok with
  | true =>
   rw [if_pos rfl] at hc ⊢
   refine wpAny_mono hc (fun y s'' hc => ?_) fun _ _ e => e
   obtain ⟨h', tk', rfl, F2, N2, r⟩ := hc
   exact ⟨h', tk', nw, rfl, F2, N2, off, .inr ⟨_, hm, rfl, _, rfl⟩, r, rfl⟩
  | false =>
   rw [if_neg Bool.false_ne_true] at hc ⊢
   obtain ⟨h', tk', rfl, F2, N2, r⟩ := hc
   exact ⟨h', tk', nw, rfl, F2, N2, off, .inr ⟨_, hm, rfl, _, rfl⟩, r, rfl⟩
end
section
noncomputable def ltI : List Int → List Int → Bool
 | [], [] => false
 | [], _ :: _ => true
 | _ :: _, [] => false
 | a :: x, b :: y => if a = b then ltI x y else decide (a < b)
open PySem.SeqAt AutoSeq1 MeetsSeq MeetsSeq2 MeetsSeq3 in
theorem lt_loop (l b : Addr) (vs us : List Value) (ns ms : List Int) (n n2 : Nat) (hv : IntsAre vs ns) (hu : IntsAre us ms) (k : Nat) :
  ∀ i : Nat, vs.length - i = k → i ≤ vs.length → Meets (Builtin.«list.__eq__.loop» ⟨[.ref l, .ref b, rawInt i, rawInt 0], []⟩)
   (fun A R s => s.heap.get? l = some { cls := .type "list", data := .seq vs.toArray n } ∧ s.heap.get? b = some { cls := .type "list", data := .seq us.toArray n2 } ∧
    R (.ok (.ret (.bool (ltI (ns.drop i) (ms.drop i))))) s) := by
 induction k with
 | zero =>
  intro i hk hle prog w A R s h
  obtain ⟨hp, g, d, tk, os⟩ := s; obtain ⟨hl, hb, h⟩ := h
  fail "my.lw"
  have e0 : ((i : Nat) : Int).toNat = i := Int.toNat_natCast i
  have hnl := hv.length
  have hml := hu.length
  have e1 : vs.toArray[((i : Nat) : Int).toNat]? = none := by rw [e0, List.getElem?_toArray]; exact List.getElem?_eq_none (by omega)
  have d1 : ns.drop i = [] := List.drop_of_length_le (by omega)
  rw [e1]
  rw [d1] at h
  fail "my.lw"
  show R (.ok (.ret (.bool (decide (vs.toArray.size < us.toArray.size))))) _
  have : decide (vs.toArray.size < us.toArray.size) = ltI [] (ms.drop i) := by
   rw [List.size_toArray, List.size_toArray]
   rcases Nat.lt_or_ge i ms.length with hmi | hmi
   ·rw [List.drop_eq_getElem_cons hmi]
    unfold ltI
    exact decide_eq_true (by omega)
   ·rw [List.drop_of_length_le hmi]
    unfold ltI
    exact decide_eq_false (by omega)
  rw [this]
  exact h
 | succ k ih =>
  intro i hk hle prog w A R s h
  obtain ⟨hp, g, d, tk, os⟩ := s; obtain ⟨hl, hb, h⟩ := h
  fail "my.lw"
  have e0 : ((i : Nat) : Int).toNat = i := Int.toNat_natCast i
  have hc : ((i : Int) + 1) = ((i + 1 : Nat) : Int) := by push_cast; rfl
  have hnl := hv.length
  have hml := hu.length
  have hni : i < ns.length := by omega
  have d1 : ns.drop i = ns[i] :: ns.drop (i + 1) := List.drop_eq_getElem_cons hni
  obtain ⟨t1, hv1⟩ := hv.get _ _ (List.getElem?_eq_getElem hni)
  have e1 : vs.toArray[((i : Nat) : Int).toNat]? = some (.int ns[i] t1) := by rw [e0, List.getElem?_toArray]; exact hv1
  rw [e1]
  rw [d1] at h
  rcases Nat.lt_or_ge i ms.length with hmi | hmi
  ·have d2 : ms.drop i = ms[i] :: ms.drop (i + 1) := List.drop_eq_getElem_cons hmi
   obtain ⟨t2, hu1⟩ := hu.get _ _ (List.getElem?_eq_getElem hmi)
   have e2 : us.toArray[((i : Nat) : Int).toNat]? = some (.int ms[i] t2) := by rw [e0, List.getElem?_toArray]; exact hu1
   rw [e2]
   rw [d2] at h
   unfold ltI at h
   refine wpAny_bind ((EqGives.int ns[i] ms[i] t1 t2).at A.in1 _ prog w _ _ ?_)
   by_cases hb' : ns[i] = ms[i]
   ·rw [if_pos hb'] at h
    simp only [hb', beq_self_eq_true, decide_true]
    fail "my.lw"
    rw [hc]
    exact ⟨plainId_quiet plain_eq_loop _, codeAny_builtin entry_eq_loop (by
     rw [Around.under_plainId plain_eq_loop _]
     exact ih (i + 1) (by omega) (by omega) prog w A R _ ⟨hl, hb, h⟩)⟩
   ·rw [if_neg hb'] at h
    have hbf : (ns[i] == ms[i]) = false := by simpa using hb'
    rw [hbf]
    simp only [Bool.false_eq_true, if_false]
    fail "my.lw"
    rw [e1, e2]
    refine wpAny_bind ?_
    refine wpAny_lt_int ?_
    fail "my.lw"
    exact h
  ·have d2 : ms.drop i = [] := List.drop_of_length_le hmi
   have e2 : us.toArray[((i : Nat) : Int).toNat]? = none := by rw [e0, List.getElem?_toArray]; exact List.getElem?_eq_none (by omega)
   rw [e2]
   rw [d2] at h
   fail "my.lw"
   show R (.ok (.ret (.bool (decide (vs.toArray.size < us.toArray.size))))) _
   have : decide (vs.toArray.size < us.toArray.size) = false := by
    rw [List.size_toArray, List.size_toArray]
    exact decide_eq_false (by omega)
   rw [this]
   exact h
open PySem.SeqAt AutoSeq1 MeetsSeq MeetsSeq2 MeetsSeq3 in
theorem lt_at (l b : Addr) (vs us : List Value) (ns ms : List Int) (n n2 : Nat) (hv : IntsAre vs ns) (hu : IntsAre us ms) :
  Meets (Builtin.«list.__lt__» ⟨[.ref l, .ref b], []⟩)
   (fun A R s => s.heap.get? l = some { cls := .type "list", data := .seq vs.toArray n } ∧ s.heap.get? b = some { cls := .type "list", data := .seq us.toArray n2 } ∧
    R (.ok (.ret (.bool (ltI ns ms)))) s) := by
 intro prog w A R s h
 obtain ⟨hp, g, d, tk, os⟩ := s; obtain ⟨hl, hb, h⟩ := h
 have f3 := AutoSeq1.sub_list_list
 wp_walk using wpAny_loadPart' hl, wpAny_loadPart' hb
 exact ⟨plainId_quiet plain_eq_loop _, codeAny_builtin entry_eq_loop (by
  rw [Around.under_plainId plain_eq_loop _]
  exact lt_loop l b vs us ns ms n n2 hv hu _ 0 rfl (Nat.zero_le _) prog w A R _ ⟨hl, hb, by simpa using h⟩)⟩
theorem lists_lt {prog : Program} {w : World} {A : Around} {E : Value → Shared → Prop} {s : Shared} {a b : Addr} {vs us : List Value} {ns ms : List Int} {n n2 : Nat} {Q : Bool → Shared → Prop} (hu : A.units < cLine)
  (hl : s.heap.get? a = some (listOf vs.toArray n)) (hb : s.heap.get? b = some (listOf us.toArray n2)) (hv : IntsAre vs ns) (hm : IntsAre us ms) (h : Q (ltI ns ms) s) :
  wpAny (model prog w) A (keyLt' oneType' (.ref a) (.ref b)) Q E s := by
 rw [keyLt'_oneType, oneLt'_eq]
 simp only [if_true]
 have hT : s.TypeIs (.ref a) "list" := ⟨_, hl, rfl⟩
 refine wpAny_bind (wpAny_cRoomFor hu ?_)
 refine wpAny_bind (wpAny_callSpecialIfBound?_slot hT F.slot_list_lt (wpAny_call (codeAny_call_builtin F.slot_list_lt.plain F.entry_list_lt (F.slot_list_lt.check _ _ _ _ _ _ _ _ hT (F.args_list_lt_2 _ _)
  (lt_at a b vs us ns ms n n2 hv hm prog w _ (wants _ _) s ⟨hl, hb, ?_⟩)))))
 exact wpAny_truthy_bool h
end
section
noncomputable def keyS : Value → Str
 | .str x _ => x
 | _ => ⟨#[]⟩
theorem ns_es (P : Params) : ∃ (es : Array DictEntry) (ep : Nat), (K0.heap_1 P).lookup 44 = some ({ cls := .type "dict", data := .dict es ep } : Obj) ∧ (∀ e ∈ es.toList, ∃ x t, e.key = .str x t ∧ e.hash = PySem.PyData.keyHash P x) ∧ (es.toList.map fun e => keyS e.key).Nodup ∧ es.size = 7 := by
 refine ⟨_, _, rfl, ?_, ?_, rfl⟩
 ·exact List.forall_mem_cons.mpr ⟨⟨_, _, rfl, rfl⟩, List.forall_mem_cons.mpr ⟨⟨_, _, rfl, rfl⟩, List.forall_mem_cons.mpr ⟨⟨_, _, rfl, rfl⟩, List.forall_mem_cons.mpr ⟨⟨_, _, rfl, rfl⟩, List.forall_mem_cons.mpr ⟨⟨_, _, rfl, rfl⟩, List.forall_mem_cons.mpr ⟨⟨_, _, rfl, rfl⟩, List.forall_mem_cons.mpr ⟨⟨_, _, rfl, rfl⟩, List.forall_mem_nil _⟩⟩⟩⟩⟩⟩⟩
 ·simp only [List.map_cons, List.map_nil, keyS]
  decide +kernel
section
variable {w : World} {A : Around} {E : Value → Shared → Prop} {s : Shared} {h₀ : Heap} {L : Addr} {m : Str → Option Value} {news : List (Addr × Obj)}
theorem pairs_of {es : List DictEntry} (h : ∀ e ∈ es, ∃ x t, e.key = .str x t ∧ e.hash = PySem.PyData.keyHash w.params x) : Pairs (strKind Challenge.rw_to0089_01.prog w) es (es.map fun e => (keyS e.key, e.val)) := by
 induction es with
 | nil => exact .nil
 | cons e es ih =>
  obtain ⟨x, t, hk, hh⟩ := h e (List.mem_cons_self ..)
  refine .cons ?_ rfl (ih fun e he => h e (List.mem_cons_of_mem _ he))
  show (strKind _ w).is (keyS e.key) e.key = true
  rw [hk]
  exact strKind_is _ _ _ _
theorem nsmap (X : (K0.heap_1 w.params).In h₀) : ∃ kvs ep, kvs.length = 7 ∧ ∀ h : Heap, (∀ b o, h₀.get? b = some o → h.get? b = some o) → h.DictAt (strKind Challenge.rw_to0089_01.prog w) 44 kvs ep := by
 obtain ⟨es, ep, hl, hk, hn, hsz⟩ := ns_es w.params
 refine ⟨es.toList.map fun e => (keyS e.key, e.val), ep, by simpa using hsz, fun h hh => ⟨_, es, hh _ _ (X _ _ hl), ⟨rfl, rfl, rfl⟩, rfl, fun e he => ?_, pairs_of hk, ?_⟩⟩
 ·obtain ⟨x, t, h1, h2⟩ := hk e (by simpa using he)
  exact ⟨x, by rw [h1]; exact strKind_is _ _ _ _, h2⟩
 ·rw [List.map_map]
  exact hn
theorem ns_method {pl : Sem Bool} {Q : Value × List Value → Shared → Prop} (F : Fr h₀ L s.heap m) (X : (K0.heap_1 w.params).In h₀) (h : Q (.builtin "dict.items", [.ref 44]) s) : wpAny (model Challenge.rw_to0089_01.prog w) A (getMethod (.ref 44) "items" pl) Q E s := by
 obtain ⟨kvs, ep, _, hD⟩ := nsmap X
 have hD' := (hD _ F.keep).dictOf
 exact getMethod_builtin hD'.typeIs PySem.F.plainAttrs_dict PySem.F.slot_dict_items PySem.F.type_dict_items hD'.mapOf.noDict h
noncomputable abbrev viewO : Obj := { cls := .type "dict_items", data := .fields #[.ref 44] }
theorem ns_items {Q : Value → Shared → Prop} (F : Fr h₀ L s.heap m) (N : News h₀ L s.heap news) (X : (K0.heap_1 w.params).In h₀)
  (h : ∀ (D : Addr) h', Fr h₀ L h' m → News h₀ L h' ((D, viewO) :: news) → (∀ q ∈ news, q.1 < D) → Q (.ref D) { s with heap := h' }) : wpAny (model Challenge.rw_to0089_01.prog w) A (call (.builtin "dict.items") [.ref 44]) Q E s := by
 obtain ⟨kvs, ep, _, hD⟩ := nsmap X
 have hD' := (hD _ F.keep).dictOf
 exact call_meetsIn PySem.F.slot_dict_items hD'.typeIs PySem.F.entry_dict_items (PySem.F.args_dict_items_1 _) (meets_dict_items (strKind Challenge.rw_to0089_01.prog w) 44 rfl) ⟨⟨kvs, hD'⟩, h _ _ (F.push _) (News.push F N _) fun q hq => Heap.lt_size (N q hq).1⟩
theorem ns_list {r : Addr} {Q : Value → Shared → Prop} (hh : A.handled = none) (F : Fr h₀ L s.heap m) (N : News h₀ L s.heap news) (X : (K0.heap_1 w.params).In h₀) (hr : (r, viewO) ∈ news)
  (h : ∀ (D : Addr) h' tk acc c, acc.size ≤ 10 → Fr h₀ L h' m → News h₀ L h' ((D, listOf acc c) :: news) → (∀ q ∈ news, q.1 < D) → Q (.ref D) { s with heap := h', toks := tk }) : wpAny (model Challenge.rw_to0089_01.prog w) A (call (.type "list") [.ref r]) Q E s := by
 obtain ⟨kvs, ep, hlen, hD⟩ := nsmap X
 refine kdx_call (knd := strKind Challenge.rw_to0089_01.prog w) (kvs := kvs) (ep := ep) hh ⟨_, (N _ hr).1, rfl, rfl⟩ (hD _ F.keep) (by rw [hlen, sizeLine_eq]; omega) fun h' tk acc c as hk hS hl hG hacc => ?_
 have hsz : acc.size ≤ 10 := by rw [← Array.length_toList, hacc, List.length_map, hl, hlen]; omega
 refine h _ h' tk acc c hsz (F.keeps hk) (fun q hq => ?_) (fun q hq => Heap.lt_size (N q hq).1)
 rcases List.mem_cons.mp hq with rfl | hq
 ·exact ⟨hS, kdx_fresh F (Nat.le_refl _)⟩
 ·exact ⟨hk _ _ (N q hq).1, (N q hq).2⟩
end
end
section
open Builtin Builtin.ObjectAttr
theorem la_lookup : typeLookup (.type "list") (Str.ofString "append") = pure (some (.builtin "list.append")) := by rw [typeLookup_type, builtinLookup_eq_fast]; kernel_rfl
theorem la_type : typeOf (.builtin "list.append") = pure (.type "method_descriptor") := by show builtinType _ = _; rw [builtinType_eq_fast]; kernel_rfl
theorem la_get : specialOf (.builtin "list.append") "__get__" = pure (some (.builtin "method_descriptor.__get__")) := by unfold specialOf; rw [la_type]; show typeLookup _ _ = _; rw [typeLookup_type, builtinLookup_eq_fast]; kernel_rfl
theorem la_set : specialOf (.builtin "list.append") "__set__" = pure none := by unfold specialOf; rw [la_type]; show typeLookup _ _ = _; rw [typeLookup_type, builtinLookup_eq_fast]; kernel_rfl
theorem la_delete : specialOf (.builtin "list.append") "__delete__" = pure none := by unfold specialOf; rw [la_type]; show typeLookup _ _ = _; rw [typeLookup_type, builtinLookup_eq_fast]; kernel_rfl
theorem la_slot_get : Slot "method_descriptor" "__get__" "method_descriptor.__get__" :=
 .of (owner := "method_descriptor") (n := "__get__") (by rw [typeLookup_type, builtinLookup_eq_fast]; kernel_rfl) (by decide +kernel) (by decide +kernel) (by decide +kernel)
  (by first | exact .inl (by decide +kernel) | exact .inr (by decide +kernel)) (by rw [isSubtype_type]; kernel_rfl)
theorem la_entry_get : entryFor table "method_descriptor.__get__" = some Builtin.«method_descriptor.__get__» := entryFor_of_tree (by kernel_rfl)
theorem la_args_get (a b c : Value) : argsOk "method_descriptor.__get__" ⟨[a, b, c], []⟩ := by unfold argsOk; kernel_rfl
theorem la_sub : isSubtype (.type "list") (.type "list") = pure true := by rw [isSubtype_type]; kernel_rfl
theorem la_told : Manifest.toldItsClass.contains "list.append" = false := by decide +kernel
theorem la_bind {M : Model} {A : Around} {E : Value → Shared → Prop} {s : Shared} {D : Addr} {P : Fin → Shared → Prop} (hT : s.TypeIs (.ref D) "list") (h : P (.done (.ret (.ref s.heap.objs.size))) { s with heap := s.heap.push (boundO "list.append" (.ref D)) }) :
  wpAny M A (Builtin.«method_descriptor.__get__» ⟨[.builtin "list.append", .ref D, .type "list"], []⟩) P E s := by
 unfold Builtin.«method_descriptor.__get__»
 refine wpAny_bind (wpAny_of_eq (a := (.builtin "list.append", some (.ref D), some (.type "list"))) (by first | rfl | kernel_rfl) ?_)
 dsimp only
 refine if_not' la_told ?_
 show wpAny M A (((kfb_private% "checkInstance") (.builtin "list.append") (.ref D)) >>= fun _ => newFields "builtin_function_or_method" [.builtin "list.append", .ref D] >>= ret) P E s
 have e : (kfb_private% "checkInstance") (.builtin "list.append") (.ref D) = (do
  let (name, cls) ← (kfb_private% "nameAndClass") (.builtin "list.append")
  if !(← isInstance (.ref D) cls) then
   rule "descr.get.wrong-instance"
   raiseError "TypeError" s!"descriptor '{name.toString}' for '{← typeName cls}' objects doesn't apply to a '{← typeNameOf (.ref D)}' object") := rfl
 rw [e]
 refine wpAny_bind (wpAny_bind (wpAny_of_eq (a := (Str.ofString "append", .type "list")) (by first | rfl | kernel_rfl) ?_))
 dsimp only
 refine wpAny_bind (wpAny_isInstance hT la_sub ?_)
 refine if_not' rfl ?_
 refine wpAny_pure ?_
 exact wpAny_bind (wpAny_newObj_type (wpAny_pure h))
theorem la_name : (["__module__", "__name__", "__qualname__", "__doc__", "__annotations__"] : List Str).contains (Str.ofString "append") = false := by decide +kernel
theorem la_meets (a : Addr) (xs : Array Value) (k : Nat) (u : Tok) :
  Meets (Builtin.«object.__getattribute__» ⟨[.ref a, .str (Str.ofString "append") u], []⟩) (fun A R s => s.heap.get? a = some (listOf xs k) ∧ R (.ok (.ret (.ref s.heap.objs.size))) { s with heap := s.heap.push (boundO "list.append" (.ref a)) }) :=
 Meets.of_wp fun prog w A R s hs => by
  obtain ⟨hp, g, d, tk, os⟩ := s
  obtain ⟨hx, hs⟩ := hs
  have hT : (⟨hp, g, d, tk, os⟩ : Shared).TypeIs (.ref a) "list" := ⟨_, hx, rfl⟩
  have f1 := la_lookup
  have f2 := la_get
  have f3 := la_set
  have f4 := la_delete
  have f5 := la_type
  unfold Builtin.«object.__getattribute__»
  repeat (any_goals (first | assumption | wp_step))
  refine codeAny_call_builtin la_slot_get.plain la_entry_get (la_slot_get.check _ _ _ _ _ _ _ _ la_type (la_args_get _ _ _) ?_)
  exact la_bind hT (wpAny_pure ⟨_, rfl, hs⟩)
theorem append_attr {prog : Program} {w : World} {A : Around} {E : Value → Shared → Prop} {s : Shared} {h₀ : Heap} {L : Addr} {m : Str → Option Value} {news : List (Addr × Obj)} {D : Addr} {xs : Array Value} {k : Nat} {Q : Value → Shared → Prop}
  (F : Fr h₀ L s.heap m) (N : News h₀ L s.heap news) (hm : (D, listOf xs k) ∈ news)
  (h : ∀ x h', Fr h₀ L h' m → News h₀ L h' ((x, boundO "list.append" (.ref D)) :: news) → (∀ p ∈ news, p.1 < x) → Q (.ref x) { s with heap := h', toks := s.toks + 1 }) :
  wpAny (model prog w) A (getAttr (.ref D) (Str.ofString "append") true) Q E s := by
 have hx := (N _ hm).1
 replace h := h _ _ (F.push (boundO "list.append" (.ref D))) (News.push F N _) fun p hp => Heap.lt_size (N p hp).1
 clear F N hm
 obtain ⟨hp, g, d, tk, os⟩ := s
 have hT : ∀ tk', (⟨hp, g, d, tk', os⟩ : Shared).TypeIs (.ref D) "list" := fun _ => ⟨_, hx, rfl⟩
 have f3 := F.slot_list_getattribute.lookup
 have f4 := F.slot_list_getattribute.bind (.ref D)
 unfold getAttr getAttrBy
 repeat (any_goals (first | assumption | exact hT _ | ((with_reducible show wpAny _ _ (call (Value.builtin "list.__getattribute__") _ _) _ _ _); refine call_meets F.slot_list_getattribute (hT _) am_entry_list_getattribute (F.args_list_getattribute_2 _ _) (la_meets D xs k _) ⟨hx, ?_⟩) | wp_step))
 first | exact wpAny_pure h | exact ⟨_, rfl, wpAny_pure h⟩
end
section
theorem carried_strs {vs : List Value} {zs : List Str} (h : StrsAre vs zs) : CarriedAll vs (zs.map PyData.str) := by
 induction h with
 | nil => exact .nil
 | cons _ t _ ih => exact .cons (.str _ t) ih
theorem strs_lay {zs : List Str} (h : ∀ z ∈ zs, PyData.strOk z = true) : PyData.canLayAll0 (zs.map PyData.str) = true ∧ PyData.depthAll (zs.map PyData.str) = 0 := by
 induction zs with
 | nil => exact ⟨rfl, rfl⟩
 | cons z r ih =>
  obtain ⟨a, b⟩ := ih fun y hy => h y (List.mem_cons_of_mem _ hy)
  have h1 := h z (List.mem_cons_self ..)
  simp [PyData.canLayAll0, PyData.canLay0, PyData.depthAll, PyData.depth, a, b, h1]
theorem ne_pairs {prog : Program} {w : World} {A : Around} {E : Value → Shared → Prop} {s : Shared} {T1 T2 a b : Addr} {k1 k2 : Nat} {xs ys : Array Value} {zs : List Str} {i : Int} {t1 t2 : Tok} {Q : Value → Shared → Prop}
  (h1 : s.heap.get? T1 = some { cls := .type "tuple", data := .seq #[.ref a, .int i t1] k1 }) (h2 : s.heap.get? T2 = some { cls := .type "tuple", data := .seq #[.ref b, .int i t2] k2 })
  (ha : s.heap.IsList a xs) (hb : s.heap.IsList b ys) (hx : StrsAre xs.toList zs) (hy : StrsAre ys.toList zs) (hz : ∀ z ∈ zs, PyData.strOk z = true) (hu : A.units + 64 < cLine) (h : Q (.bool false) s) :
  wpAny (model prog w) A (compareOp .NotEq (.ref T1) (.ref T2)) Q E s := by
 obtain ⟨l1, l2⟩ := strs_lay hz
 have hl : (PyData.tuple [.list (zs.map PyData.str), .int i]).canLay0 = true := by simp [PyData.canLay0, PyData.canLayAll0, l1]
 have hsh : SeqAt.shaped (PyData.tuple [.list (zs.map PyData.str), .int i]) = true := by
  simp [SeqAt.shaped, PyData.canLay0, PyData.canLayAll0, PyData.depth, PyData.depthAll, l1, l2]
 refine ne_dataH (da := .tuple [.list (zs.map PyData.str), .int i]) (db := .tuple [.list (zs.map PyData.str), .int i])
  (reads_tuple_at h1 rfl rfl (.cons (reads_newData (by simpa using ha) (carried_strs hx)) (.cons (Reads.int _ _) .nil)))
  (reads_tuple_at h2 rfl rfl (.cons (reads_newData (by simpa using hb) (carried_strs hy)) (.cons (Reads.int _ _) .nil))) hsh hsh hu ?_
 rw [SeqAt.eqv_refl _ hl]
 exact h
theorem ne_pairs_N {prog : Program} {w : World} {A : Around} {E : Value → Shared → Prop} {s : Shared} {h₀ : Heap} {L T1 T2 a b : Addr} {k1 k2 n1 n2 : Nat} {xs ys : Array Value} {zs : List Str} {i : Int} {t1 t2 : Tok} {r : List (Addr × Obj)} {Q : Value → Shared → Prop}
  (N : News h₀ L s.heap ((T2, { cls := .type "tuple", data := .seq #[.ref b, .int i t2] k2 }) :: (b, listOf ys n2) :: (T1, { cls := .type "tuple", data := .seq #[.ref a, .int i t1] k1 }) :: (a, listOf xs n1) :: r))
  (hx : StrsAre xs.toList zs) (hy : StrsAre ys.toList zs) (hz : ∀ z ∈ zs, PyData.strOk z = true) (hu : A.units + 64 < cLine) (h : Q (.bool false) s) :
  wpAny (model prog w) A (compareOp .NotEq (.ref T1) (.ref T2)) Q E s :=
 ne_pairs (k1 := k1) (k2 := k2) (N _ (.tail _ (.tail _ (.head _)))).1 (N _ (.head _)).1 ⟨listOf xs n1, (N _ (.tail _ (.tail _ (.tail _ (.head _))))).1, rfl, _, rfl⟩ ⟨listOf ys n2, (N _ (.tail _ (.head _))).1, rfl, _, rfl⟩ hx hy hz hu h
end
noncomputable section
open Lean in
def iz (s : Syntax) : MacroM Syntax := if s.isIdent then return s else if s.isOfKind `Lean.Parser.Term.hole then dy "u9" #[] else Macro.throwUnsupported
open Lean in
local macro_rules | `(tactic| intro $xs*) => do
 let zs ← xs.raw.mapM iz
 let b ← dy "i1" zs
 if zs.size < 2 then return b
 [2, 3, 4, 6, 8, 16, 24].foldlM (fun r n => do
  if zs.size < n then return r
  dy s!"n{n}" #[mkNullNode (zs.extract 0 n), ← dy (if zs.size = n then "sk" else "ir") #[mkNullNode (zs.extract n zs.size)], r]) (← dy "in" #[zs[0]!, ← dy "ir" #[mkNullNode (zs.extract 1 zs.size)]])
open Lean in
def iy : Nat → Syntax → List Syntax
 | 0, _ => []
 | f + 1, s => if s.isIdent then [s] else if s.isOfKind `Lean.Parser.Tactic.rcasesPat.ignore then [mkIdent `rfl] else s.getArgs.toList.flatMap (iy f)
open Lean in
def ix (p e : Syntax) : MacroM Syntax :=
 let ys := iy 30 p
 if ys.isEmpty || ys.any (fun y => y.getId == `rfl) then dy "rc" #[e, p] else dy "ob" #[e, p, mkNullNode ys.toArray]
open Lean in
local macro_rules
 | `(tactic| obtain $p:rcasesPatMed := $e:term) => ix p e
 | `(tactic| obtain $p:rcasesPatMed : $t:term := $e:term) => do ix p (← dy "ty" #[e, t])
local macro_rules | `(tactic| injections $xs*) => dy "ij" #[Lean.mkNullNode xs.raw]
local macro_rules | `(tactic| rfl) => dy "w5" #[]
section
open PySem.Spec in
noncomputable def b3g (D : List (PyData × PyData)) (k : Int) : Option Str := match lookup (.int k) D with | some (.str y) => some y | _ => none
open PySem.Spec PyProof.V in
theorem b3_get {M : World} {A : Around} {s : Shared} {d : Addr} {D : List (PyData × PyData)} {i : Int} {t : Tok} {Q E : Value → Shared → Prop} (hD : ∀ k v, lookup (.int k) D = some v → ∃ y, v = .str y) (T : IntTab Challenge.rw_to0089_01.prog M s.heap d D)
  (h1 : b3g D i = none → Q .none { s with toks := s.toks + 1 }) (h2 : ∀ y t', b3g D i = some y → Q (.str y t') { s with toks := s.toks + 1 }) :
  wpAny (model Challenge.rw_to0089_01.prog M) A (call (.builtin "dict.get") [.ref d, .int i t]) Q E s := by
 refine call_get1_intTab T fun v hv => ?_
 cases hl : lookup (.int i) D with
 | none =>
  rw [hl] at hv; obtain rfl := Flat.none_inv hv
  exact h1 (by unfold b3g; rw [hl])
 | some dv =>
  rcases hD _ _ hl with ⟨y, rfl⟩
  rw [hl] at hv
  rcases Flat.str_inv hv with ⟨t', rfl⟩
  exact h2 y t' (by unfold b3g; rw [hl])
noncomputable def b3S (D : List (PyData × PyData)) (c : Nat) : Str := (b3g D c).getD (Txt.lower ⟨#[c]⟩)
theorem b3S_some {D : List (PyData × PyData)} {c : Nat} {y : Str} (h : b3g D c = some y) : b3S D c = y := by unfold b3S; rw [h]; rfl
theorem b3S_none {D : List (PyData × PyData)} {c : Nat} (h : b3g D c = none) : b3S D c = Txt.lower ⟨#[c]⟩ := by unfold b3S; rw [h]; rfl
theorem b3_spec (hfill : PR = PR) (B : Below A₀ base outer h₀) (F : Fr h₀ L s.heap m) (X : (K0.heap_1 w.params).In h₀) (T : Top p loose mean mg mb h₀) (hk : cs.kind = .function) (hd : dp + 3 < recursionLimit) (hu : un + 30 < cLine)
   (D : List (PySem.PyData × PySem.PyData)) (hD : ∀ k v, PySem.Spec.lookup (.int k) D = some v → ∃ y, v = .str y) (hT : IntTab Challenge.rw_to0089_01.prog w h₀ 236 D)
   (c : Nat) (t : Tok) (rest : List (Addr × Obj)) (N : News h₀ L s.heap rest)
   (hret : ∀ r h' tk' t', b3S D c = r → Fr h₀ L h' m → News h₀ L h' rest → Q (.str r t') { s with heap := h', toks := tk' }) :
   wpAny (model Challenge.rw_to0089_01.prog w) (ktrTop dp un gd cn cs L a ccd cl outer) (call (.ref 281) [.str ⟨#[c]⟩ t]) Q E s := by
 fail "mk.a"
 case zl =>
  revert hfill B F X T hk hd hu hD hT N hret
  revert w p loose mean mg mb dp un gd cn cs a ccd cl outer A₀ base h₀ L m s Q E D c t rest
  intro w p loose mean mg mb dp un gd cn cs a ccd cl outer A₀ base h₀ L m s Q E D c t rest hfill B F X T hk hd hu hD hT N hret
  revert X; k_fill; intro X; refine wpAny_call ?_; first | k_dflt (fail "my.enter") | fail
  (repeat' first | ((with_reducible show wpAny _ _ (call (Value.builtin "str.lower") _) _ _ _); ((try dsimp only); refine SCL.lower (by show (1 : Nat) ≤ 5592405; decide) ?_; intro _)) | ((with_reducible show wpAny _ _ (call (Value.builtin "dict.get") _) _ _ _); refine b3_get ?kd (TabAt.ofFr (TabAt.ofFr (by assumption) (by assumption)) (by assumption)) ?_ ?_; (case kd => assumption); (case' refine_1 => intro hb3); (case' refine_2 => intro y3 t3 hb3)) | ((with_reducible show wpAny _ _ (getMethod (Value.ref _) _ _) _ _ _); refine getMethod_intTab_get (TabAt.ofFr (TabAt.ofFr (by assumption) (by assumption)) (by assumption)) ?_) | ((with_reducible show wpAny _ _ (call (Value.builtin "ord") _) _ _ _); (refine P.ord_of_char ?_)) | fail "k1")
  all_goals first
    | exact hret _ _ _ _ (b3S_some (by assumption)) (by k_asm) (by fail "my.news")
    | exact hret _ _ _ _ (b3S_none (by assumption)) (by k_asm) (by fail "my.news")
 fail "mk.b"
end
section
noncomputable def prepS (D : List (PySem.PyData × PySem.PyData)) (b1L : List Int) (l : List Nat) : List Str := (l.filter fun c : Nat => !decide ((c : Int) ∈ b1L)).map (b3S D)
theorem prepS_snoc (D : List (PySem.PyData × PySem.PyData)) (b1L : List Int) (l : List Nat) (i c : Nat) (h : l[i]? = some c) : prepS D b1L (l.take (i + 1)) = prepS D b1L (l.take i) ++ (if (c : Int) ∈ b1L then [] else [b3S D c]) := by
 unfold prepS
 rw [List.take_add_one, h, List.filter_append, List.map_append]
 by_cases hb : (c : Int) ∈ b1L
 ·simp [hb]
 ·simp [hb]
theorem prepS_sum (D : List (PySem.PyData × PySem.PyData)) (b1L : List Int) (l : List Nat) (h : ∀ c ∈ l, (b3S D c).length ≤ 20) : ((prepS D b1L l).map (·.length)).sum ≤ 20 * l.length := by
 unfold prepS
 induction l with
 | nil => simp
 | cons c l ih =>
  have h1 := ih fun c hc => h c (List.mem_cons_of_mem _ hc)
  have h2 := h c (List.mem_cons_self ..)
  by_cases hb : (c : Int) ∈ b1L
  ·rw [List.filter_cons_of_neg (by simp [hb]), List.length_cons]; omega
  ·rw [List.filter_cons_of_pos (by simp [hb]), List.map_cons, List.map_cons, List.sum_cons, List.length_cons]; omega
theorem strs_snoc {vs : List Value} {ys : List Str} (h : StrsAre vs ys) (y : Str) (t : Tok) : StrsAre (vs ++ [.str y t]) (ys ++ [y]) := h.append' (.cons y t .nil)
theorem prepared_spec (hfill : PR = PR) (B : Below A₀ base outer h₀) (F : Fr h₀ L s.heap m) (X : (K0.heap_1 w.params).In h₀) (T : Top p loose mean mg mb h₀) (hk : cs.kind = .function) (hd : dp + 8 < recursionLimit) (hu : un + 80 < cLine)
   (oS : Obj) (b1L : List Int) (hS : oS.SetObjOf (intKind Challenge.rw_to0089_01.prog w) (fun k => decide (k ∈ b1L)) 27) (h225 : base.get? 225 = some oS)
   (D : List (PySem.PyData × PySem.PyData)) (hD : ∀ k v, PySem.Spec.lookup (.int k) D = some v → ∃ y, v = .str y) (hT : IntTab Challenge.rw_to0089_01.prog w base 236 D)
   (wd : Str) (t : Tok) (news : List (Addr × Obj)) (N : News h₀ L s.heap news) (hwd : wd.cps.size ≤ 2000)
   (hlen : ∀ c ∈ wd.cps.toList, (b3S D c).length ≤ 20)
   (hret : ∀ h' tk' t', Fr h₀ L h' m → News h₀ L h' news → Q (.str (Txt.join (Str.ofString "") (prepS D b1L wd.cps.toList)) t') { s with heap := h', toks := tk' }) :
   wpAny (model Challenge.rw_to0089_01.prog w) (ktrTop dp un gd cn cs L a ccd cl outer) (call (.ref 300) [.str wd t]) Q E s := by
 fail "mk.a"
 case zl =>
  revert hfill B F X T hk hd hu hS h225 hD hT N hwd hlen hret
  revert w p loose mean mg mb dp un gd cn cs a ccd cl outer A₀ base h₀ L m s Q E oS b1L D wd t news
  intro w p loose mean mg mb dp un gd cn cs a ccd cl outer A₀ base h₀ L m s Q E oS b1L D wd t news hfill B F X T hk hd hu hS h225 hD hT N hwd hlen hret
  revert X; k_fill; intro X; refine wpAny_call ?_; first | k_dflt (fail "my.enter") | fail
  (repeat' first | ((with_reducible show SrcStr ..); (refine stop_of ?_)) | (fail "g3"; k_dflt (refine ListComp_str (by k_asm) (by rfl) (by rfl) (by decide) (by rfl) (by decide) (by rfl) ?_)) | fail "k1")
  unfold Stop
  have B0 := (by assumption : Below (ktrTop dp un gd cn cs L a ccd cl outer) base _ _)
  have h225' := B0.stays _ _ h225
  have hT' := TabAt.keep hT B0.stays
  k_dflt (refine' comp_str (fun i ys => StrsAre ys (prepS D b1L (wd.cps.toList.take i))) ?F ?N ?z .nil ?step ?fin)
  case F => k_asm
  case N => k_asm
  case z => omega
  case step =>
    intro i ys c tc I oI C oC DD m₂ h tk E' hc hR hoC hx F4 N4 off ne
    (repeat' first | ((with_reducible show wpAny _ _ (call (Value.ref 235) _) _ _ _); refine stop_of ?_) | fail "k1")
    unfold Stop
    k_dflt (refine' b1_spec rfl ?k1 ?k2 ?k3 ?k4 ?k5 ?k6 ?k7 oS b1L hS h225' c _ _ ?hN (fun h2 tk2 F2 N2 => ?_); (case k1 | k2 | k3 | k4 | hN => k_asm); (case k5 => rfl); (case k6 => first | ktr_room | k_room); (case k7 => ktr_units))
    injections h2 tk2 F2 N2
    (repeat' first | ((with_reducible show wpAny _ _ (call (Value.ref 281) _) _ _ _); refine stop_of ?_) | ((with_reducible show MapEnd ..); (refine stop_of ?_)) | fail "k1")
    ·unfold Stop
     refine MapEnd.intro (by k_asm) (news_sub (by k_asm) (by fail "my.subs")) ?_
     have hb : (c : Int) ∈ b1L := by first | assumption | (simp_all)
     rw [prepS_snoc D b1L _ i c (by rw [Array.getElem?_toList]; exact hc), if_pos hb, List.append_nil]
     exact hR
    ·unfold Stop
     k_dflt (refine' b3_spec rfl ?j1 ?j2 ?j3 ?j4 ?j5 ?j6 ?j7 D hD hT' c _ _ ?hN2 (fun r h3 tk3 t3 hr F3 N3 => ?_); (case j1 | j2 | j3 | j4 | hN2 => k_asm); (case j5 => rfl); (case j6 => first | ktr_room | k_room); (case j7 => ktr_units))
     injections r h3 tk3 t3 hr F3 N3
     fail "g20"
     unfold Stop
     refine MapEnd.intro (by k_asm) (news_sub (by k_asm) (by fail "my.subs")) ?_
     have hb : ¬ (c : Int) ∈ b1L := by first | assumption | (simp_all)
     rw [prepS_snoc D b1L _ i c (by rw [Array.getElem?_toList]; exact hc), if_neg hb, hr]
     exact strs_snoc hR _ _
  case fin =>
    intro g ys hR
    rw [← Array.length_toList, List.take_length] at hR
    unfold LCg.FinE
    intro DD h4 tk4 F4 N4 o1
    (repeat' first | ((with_reducible show wpAny _ _ (call (Value.builtin "str.join") _) _ _ _); (refine stop_of ?_)) | fail "k1")
    unfold Stop
    refine join_list (items := ys.toArray) (ys := prepS D b1L wd.cps.toList) ⟨_, (N4 _ (.head _)).1, rfl, _, rfl⟩ (by simpa using hR) ?_ (fun t' k => ?_)
    injections t' k
    ·have := prepS_sum D b1L wd.cps.toList hlen
     rw [Array.length_toList] at this
     show _ + _ * 0 ≤ 16777216
     omega
    ·k_steps
     exact hret _ _ _ (by k_asm) (news_sub (by k_asm) (by fail "my.subs"))
 fail "mk.b"
end
section
def CutEnd (P : Prop) : Prop := P
theorem CutEnd.mk' {P : Prop} (h : P) : CutEnd P := h
noncomputable abbrev updM (m : Str → Option Value) (x : Str) (v : Value) : Str → Option Value := fun y => if y = x then some v else m y
theorem fr_same {g h : Heap} {L : Addr} {mm : Str → Option Value} {x : Str} {v : Value} (F : Fr g L h mm) (hm : mm x = some v) : Fr g L h (updM mm x v) := by
 have e : updM mm x v = mm := by funext y; show (if y = x then some v else mm y) = mm y; split; (rename_i q; subst q; exact hm.symm); rfl
 rw [e]; exact F
theorem fr_none {g h : Heap} {L : Addr} {mm : Str → Option Value} {x : Str} {t : Tok} {c : Nat} {z : List Nat} (F : Fr g L h mm) (hm : mm (Str.ofString "text") = some (.str x t)) (ho : (Builtin.Str.occurrences x ⟨#[c]⟩ 0 x.length 1).isEmpty = true) :
  Fr g L h (updM mm (Str.ofString "text") (.str (Txt.replace x ⟨#[c]⟩ ⟨z.toArray⟩) t)) := by
 rw [replace_none x c z ho]; exact fr_same F hm
theorem cut_rep {M : Model} {A : Around} {st : Stmt} {rest : List Stmt} {env : Env} {x : Str} {t : Tok} {g : Heap} {mm : Str → Option Value} {news : List (Addr × Obj)} {Q : Flow → Shared → Prop} (c : Nat) (z : List Nat) (n : Nat)
  (F : Fr g L s.heap mm) (N : News g L s.heap news) (hm : mm (Str.ofString "text") = some (.str x t)) (hx : x.length ≤ n) (hz : z.length ≤ 6) (hs : 0 < s.toks)
  (h1 : Fr g L s.heap mm → News g L s.heap news → 0 < s.toks → wpAny M A (exec st env) (fun f s' => s.toks ≤ s'.toks → CutEnd (f = .next ∧ ∃ h' tk' t', s' = { s with heap := h', toks := tk' } ∧ 0 < tk' ∧ Fr g L h' (updM mm (Str.ofString "text") (.str (Txt.replace x ⟨#[c]⟩ ⟨z.toArray⟩) t')) ∧ News g L h' news)) E s)
  (h2 : ∀ h' tk' t', 0 < tk' → (Txt.replace x ⟨#[c]⟩ ⟨z.toArray⟩).length ≤ 6 * n → Fr g L h' (updM mm (Str.ofString "text") (.str (Txt.replace x ⟨#[c]⟩ ⟨z.toArray⟩) t')) → News g L h' news → wpAny M A (execs rest env) Q E { s with heap := h', toks := tk' }) :
  wpAny M A (execs (st :: rest) env) Q E s := by
 refine wpAny_execs_cons (wpAny_mono (by_toks (h1 F N hs)) (fun f s' z' => ?_) fun _ _ e => e)
 rcases z' with ⟨rfl, h', tk', t', rfl, a1, F', N'⟩
 exact h2 h' tk' t' a1 (replace_len x c z hz hx) F' N'
noncomputable abbrev escS (x : Str) : Str := Txt.replace (Txt.replace (Txt.replace (Txt.replace x ⟨#[38]⟩ ⟨[38, 97, 109, 112, 59].toArray⟩) ⟨#[60]⟩ ⟨[38, 108, 116, 59].toArray⟩) ⟨#[62]⟩ ⟨[38, 103, 116, 59].toArray⟩) ⟨#[13]⟩ ⟨[38, 35, 120, 68, 59].toArray⟩
theorem esc_spec (hfill : PR = PR) (B : Below A₀ base outer h₀) (F : Fr h₀ L s.heap m) (X : (K0.heap_1 w.params).In h₀) (T : Top p loose mean mg mb h₀) (hk : cs.kind = .function) (hd : dp + 3 < recursionLimit) (hu : un + 30 < cLine)
   (x : Str) (t : Tok) (rest : List (Addr × Obj)) (N : News h₀ L s.heap rest) (hx : x.length ≤ 100) (ht : 0 < s.toks)
   (hret : ∀ h' tk' t', Fr h₀ L h' m → News h₀ L h' rest → 0 < tk' → Q (.str (escS x) t') { s with heap := h', toks := tk' }) :
   wpAny (model Challenge.rw_to0089_01.prog w) (ktrTop dp un gd cn cs L a ccd cl outer) (call (.ref 161) [.str x t]) Q E s := by
 fail "mk.a"
 case zl =>
  revert hfill B F X T hk hd hu N hx ht hret
  revert w p loose mean mg mb dp un gd cn cs a ccd cl outer A₀ base h₀ L m s Q E x t rest
  intro w p loose mean mg mb dp un gd cn cs a ccd cl outer A₀ base h₀ L m s Q E x t rest hfill B F X T hk hd hu N hx ht hret
  revert X; k_fill; intro X; refine wpAny_call ?_; first | k_dflt (fail "my.enter") | fail
  (repeat' first | ((with_reducible show CutEnd ..); (k_dflt (refine' CutEnd.mk' ⟨rfl, _, _, _, rfl, ?wl, ?kF, ?kN⟩; (case kN => k_asm); (case wl => omega); (case kF => first | (k_asm; done) | (refine' fr_none ?fa ?fb ?fc; (case fa => k_asm); (case fb => first | exact if_pos rfl | rfl); (case fc => assumption)))))) | ((with_reducible show wpAny _ _ (call (Value.builtin "str.replace") _) _ _ _); (refine by_toks (SC.replaceW ?ka ?kb ?kc ?kd ?ke ?kf ?_); (case ka | kb | kc => ((show @Ne Nat _ _); omega)); (case kd => decide); (case ke => omega); (case kf => decide); intro _ _ hk; (try dsimp only at hk))) | (fail "g19"; ((with_reducible show _ ≤ _ → _); intro hto; (try dsimp only at hto))) | ((with_reducible show wpAny _ _ (execs (Stmt.If (PySem.Expr.Compare (PySem.Expr.Constant (Const.str (Str.ofString "\x0d")) _ _) _ _ _) _ _ _ :: _) _) _ _ _); k_dflt (refine' cut_rep 13 [38, 35, 120, 68, 59] _ ?ca ?cb ?cc ?cd ?ce ?cf (fun F' N' hs' => ?_) (fun h' tk' t' hs' hx' F' N' => ?_); (case ca | cb => k_asm); (case cc => first | exact if_pos rfl | rfl); (case cd => first | assumption | with_unfolding_all assumption); (case ce => decide); (case cf => ((show (0:Nat) < _); omega)); (all_goals (try (revert h' tk' t' hs' hx' F' N'; intro h' tk' t' hs' hx' F' N'))); (all_goals (try (revert F' N' hs'; intro F' N' hs'))))) | ((with_reducible show wpAny _ _ (execs (Stmt.If (PySem.Expr.Compare (PySem.Expr.Constant (Const.str (Str.ofString ">")) _ _) _ _ _) _ _ _ :: _) _) _ _ _); k_dflt (refine' cut_rep 62 [38, 103, 116, 59] _ ?ca ?cb ?cc ?cd ?ce ?cf (fun F' N' hs' => ?_) (fun h' tk' t' hs' hx' F' N' => ?_); (case ca | cb => k_asm); (case cc => first | exact if_pos rfl | rfl); (case cd => first | assumption | with_unfolding_all assumption); (case ce => decide); (case cf => ((show (0:Nat) < _); omega)); (all_goals (try (revert h' tk' t' hs' hx' F' N'; intro h' tk' t' hs' hx' F' N'))); (all_goals (try (revert F' N' hs'; intro F' N' hs'))))) | ((with_reducible show wpAny _ _ (execs (Stmt.If (PySem.Expr.Compare (PySem.Expr.Constant (Const.str (Str.ofString "<")) _ _) _ _ _) _ _ _ :: _) _) _ _ _); k_dflt (refine' cut_rep 60 [38, 108, 116, 59] _ ?ca ?cb ?cc ?cd ?ce ?cf (fun F' N' hs' => ?_) (fun h' tk' t' hs' hx' F' N' => ?_); (case ca | cb => k_asm); (case cc => first | exact if_pos rfl | rfl); (case cd => first | assumption | with_unfolding_all assumption); (case ce => decide); (case cf => ((show (0:Nat) < _); omega)); (all_goals (try (revert h' tk' t' hs' hx' F' N'; intro h' tk' t' hs' hx' F' N'))); (all_goals (try (revert F' N' hs'; intro F' N' hs'))))) | ((with_reducible show wpAny _ _ (execs (Stmt.If (PySem.Expr.Compare (PySem.Expr.Constant (Const.str (Str.ofString "&")) _ _) _ _ _) _ _ _ :: _) _) _ _ _); k_dflt (refine' cut_rep 38 [38, 97, 109, 112, 59] _ ?ca ?cb ?cc ?cd ?ce ?cf (fun F' N' hs' => ?_) (fun h' tk' t' hs' hx' F' N' => ?_); (case ca | cb => k_asm); (case cc => first | exact if_pos rfl | rfl); (case cd => first | assumption | with_unfolding_all assumption); (case ce => decide); (case cf => ((show (0:Nat) < _); omega)); (all_goals (try (revert h' tk' t' hs' hx' F' N'; intro h' tk' t' hs' hx' F' N'))); (all_goals (try (revert F' N' hs'; intro F' N' hs'))))) | (fail "g0"; (with_reducible refine toks_gen (by omega) ?_); intro tk htk) | (fail "g0"; refine toks_cons ?_) | fail "k1")
  exact hret _ _ _ (by k_asm) (by fail "my.news") (by omega)
 fail "mk.b"
end
section
noncomputable abbrev textS (n : Int) : Str := Txt.mul (Txt.item (Str.ofString "&<>\x0d") ((n.fdiv 60).fmod 4)) (1 + (n.fdiv 240).fmod 3)
theorem text_spec (hfill : PR = PR) (B : Below A₀ base outer h₀) (F : Fr h₀ L s.heap m) (X : (K0.heap_1 w.params).In h₀) (T : Top p loose mean mg mb h₀) (hk : cs.kind = .function) (hd : dp + 3 < recursionLimit) (hu : un + 30 < cLine)
   (n : Int) (hn : 0 ≤ n ∧ n < 1000000) (f1 : 0 ≤ (n.fdiv 60).fmod 4 ∧ (n.fdiv 60).fmod 4 < 4) (f2 : 0 ≤ (n.fdiv 240).fmod 3 ∧ (n.fdiv 240).fmod 3 < 3) (t : Tok) (rest : List (Addr × Obj)) (N : News h₀ L s.heap rest)
   (hret : ∀ h' tk' t', Fr h₀ L h' m → News h₀ L h' rest → Q (.str (textS n) t') { s with heap := h', toks := tk' }) :
   wpAny (model Challenge.rw_to0089_01.prog w) (ktrTop dp un gd cn cs L a ccd cl outer) (call (.ref 319) [.int n t]) Q E s := by
 fail "mk.a"
 case zl =>
  revert hfill B F X T hk hd hu hn f1 f2 N hret
  revert w p loose mean mg mb dp un gd cn cs a ccd cl outer A₀ base h₀ L m s Q E n t rest
  intro w p loose mean mg mb dp un gd cn cs a ccd cl outer A₀ base h₀ L m s Q E n t rest hfill B F X T hk hd hu hn f1 f2 N hret
  revert X; k_fill; intro X; refine wpAny_call ?_; first | k_dflt (fail "my.enter") | fail
  k_steps
  exact hret _ _ _ (by k_asm) (by fail "my.news")
 fail "mk.b"
end
section
noncomputable abbrev letS (k : Int) : Str := Txt.item (Str.ofString "abcdef") k
noncomputable abbrev firstsN : List Int := [119808, 119860, 119912, 120016, 120172, 120224, 120276, 120328, 120380, 120432]
noncomputable def nameS (k n : Int) : Str :=
 if (n.fdiv 720).fmod 4 = 1 then Txt.upper (letS k) else if (n.fdiv 720).fmod 4 = 2 then Txt.item (Str.ofString "\xad\u034f\u1806\u180b\u180c\u180d\u200b\u200c\u200d\u2060\ufeff") ((n.fdiv 2880).fmod 11) ++ letS k
 else if (n.fdiv 720).fmod 4 = 3 then ⟨#[(firstsN.getD ((n.fdiv 2880).fmod 10).toNat 0 + [97, 98, 99, 100, 101, 102].getD k.toNat 0 - 97).toNat]⟩ else letS k
theorem firsts_bound : ∀ i : Nat, i < 10 → 119808 ≤ firstsN.getD i 0 ∧ firstsN.getD i 0 ≤ 120432 := by decide
theorem lets_bound : ∀ i : Nat, i < 6 → (97 : Int) ≤ [97, 98, 99, 100, 101, 102].getD i 0 ∧ [97, 98, 99, 100, 101, 102].getD i 0 ≤ (102 : Int) := by decide
theorem name_spec (hfill : PR = PR) (B : Below A₀ base outer h₀) (F : Fr h₀ L s.heap m) (X : (K0.heap_1 w.params).In h₀) (T : Top p loose mean mg mb h₀) (hk : cs.kind = .function) (hd : dp + 3 < recursionLimit) (hu : un + 30 < cLine)
   (n : Int) (hn : 0 ≤ n ∧ n < 1000000) (f1 : 0 ≤ (n.fdiv 720).fmod 4 ∧ (n.fdiv 720).fmod 4 < 4) (f2 : 0 ≤ (n.fdiv 2880).fmod 11 ∧ (n.fdiv 2880).fmod 11 < 11) (f3 : 0 ≤ (n.fdiv 2880).fmod 10 ∧ (n.fdiv 2880).fmod 10 < 10) (k : Int) (hk0 : 0 ≤ k ∧ k < 6) (t t2 : Tok) (rest : List (Addr × Obj)) (N : News h₀ L s.heap rest)
   (hlen : (Txt.item (Str.ofString "abcdef") k).length = 1)
   (hret : ∀ h' tk' t', Fr h₀ L h' m → News h₀ L h' rest → Q (.str (nameS k n) t') { s with heap := h', toks := tk' }) :
   wpAny (model Challenge.rw_to0089_01.prog w) (ktrTop dp un gd cn cs L a ccd cl outer) (call (.ref 326) [.str (Txt.item (Str.ofString "abcdef") k) t, .int n t2]) Q E s := by
 fail "mk.a"
 case zl =>
  revert hfill B F X T hk hd hu hn f1 f2 f3 hk0 N hlen hret
  revert w p loose mean mg mb dp un gd cn cs a ccd cl outer A₀ base h₀ L m s Q E n k t t2 rest
  intro w p loose mean mg mb dp un gd cn cs a ccd cl outer A₀ base h₀ L m s Q E n k t t2 rest hfill B F X T hk hd hu hn f1 f2 f3 hk0 N hlen hret
  revert X; k_fill; intro X; refine wpAny_call ?_; first | k_dflt (fail "my.enter") | fail
  have q1 : 119808 ≤ [119808, 119860, 119912, 120016, 120172, 120224, 120276, 120328, 120380, 120432].getD ((n.fdiv 2880).fmod 10).toNat (0 : Int) ∧ [119808, 119860, 119912, 120016, 120172, 120224, 120276, 120328, 120380, 120432].getD ((n.fdiv 2880).fmod 10).toNat (0 : Int) ≤ 120432 := firsts_bound _ (by omega)
  have q2 : (97 : Int) ≤ [97, 98, 99, 100, 101, 102].getD k.toNat 0 ∧ [97, 98, 99, 100, 101, 102].getD k.toNat 0 ≤ (102 : Int) := lets_bound _ (by omega)
  (repeat' first | ((with_reducible show wpAny _ _ (call (Value.builtin "chr") _) _ _ _); (refine chr_of_range ?kc1 ?kc2 ?_; (case kc1 | kc2 => omega))) | fail "k1")
  · rw [show Txt.upper (Txt.item (Str.ofString "abcdef") k) = nameS k n by unfold nameS; rw [if_pos (by assumption)]]
    exact hret _ _ _ (by k_asm) (by fail "my.news")
  · rw [show _ ++ _ = nameS k n by unfold nameS; rw [if_neg (by assumption), if_pos (by assumption)]]
    exact hret _ _ _ (by k_asm) (by fail "my.news")
  · rw [show Str.mk _ = nameS k n by unfold nameS; rw [if_neg (by assumption), if_neg (by assumption), if_pos (by assumption)]]
    exact hret _ _ _ (by k_asm) (by fail "my.news")
  · rw [show Txt.item (Str.ofString "abcdef") k = nameS k n by unfold nameS; rw [if_neg (by assumption), if_neg (by assumption), if_neg (by assumption)]]
    exact hret _ _ _ (by k_asm) (by fail "my.news")
 fail "mk.b"
end
section
theorem flush_spec (hfill : PR = PR) (B : Below A₀ base outer h₀) (F : Fr h₀ L s.heap m) (X : (K0.heap_1 w.params).In h₀) (T : Top p loose mean mg mb h₀) (hk : cs.kind = .function) (hd : dp + 6 < recursionLimit) (hu : un + 60 < cLine)
   (W WD aW aD aDecl aNs aMap aPres aP : Addr) (tk : Nat → Tok) (done : Bool) (ig : Tok) (rest : List (Addr × Obj)) (ds ps : Array Value) (dn pn we : Nat)
   (ys : List Str) (hds : StrsAre ds.toList ys) (hok : JoinOk (Str.ofString "") ys = true) (hy : (Txt.join (Str.ofString "") ys).length ≤ 100) (hy0 : 0 < (Txt.join (Str.ofString "") ys).length)
   (N : News h₀ L s.heap ((W, instObj 150 WD) :: (WD, dictOf (wEs w.params tk aW aD aDecl aNs aMap aPres true done ig) we) :: (aD, listOf ds dn) :: (aW, boundO "list.append" (.ref aP)) :: (aP, listOf ps pn) :: rest))
   (hsz : ds.size ≤ 1000) (hpos : 0 < ds.size) (hsz2 : ps.size ≤ 1000) (hinc : Inc [aP, aW, WD, W, aD]) (hap : Apart [aD, aP] rest) (ht : 0 < s.toks)
   (hret : ∀ h' tk' dn' pn' t', Fr h₀ L h' m → News h₀ L h' ((W, instObj 150 WD) :: (WD, dictOf (wEs w.params tk aW aD aDecl aNs aMap aPres true done ig) we) :: (aD, listOf #[] dn') :: (aW, boundO "list.append" (.ref aP)) :: (aP, listOf (ps.push (Value.str (escS (Txt.join (Str.ofString "") ys)) t')) pn') :: rest) → Q .none { s with heap := h', toks := tk' }) :
   wpAny (model Challenge.rw_to0089_01.prog w) (ktrTop dp un gd cn cs L a ccd cl outer) (call (.ref 106) [.ref W]) Q E s := by
 fail "mk.a"
 case zl =>
  revert hfill B F X T hk hd hu hds hok hy hy0 N hsz hpos hsz2 hinc hap ht hret
  revert w p loose mean mg mb dp un gd cn cs a ccd cl outer A₀ base h₀ L m s Q E W WD aW aD aDecl aNs aMap aPres aP tk done ig rest ds ps dn pn we ys
  intro w p loose mean mg mb dp un gd cn cs a ccd cl outer A₀ base h₀ L m s Q E W WD aW aD aDecl aNs aMap aPres aP tk done ig rest ds ps dn pn we ys hfill B F X T hk hd hu hds hok hy hy0 N hsz hpos hsz2 hinc hap ht hret
  simp only [Inc, Apart, and_true] at hinc hap
  obtain ⟨i1, i2, i3, i4⟩ := hinc
  obtain ⟨j1, j2⟩ := hap
  revert X; k_fill; intro X; refine wpAny_call ?_; first | k_dflt (fail "my.enter") | fail
  (repeat' first | ((with_reducible show wpAny _ _ (delItem (Value.ref _) (Value.ref _)) _ _ _); (k_dflt (refine' del_all ?dF ?dN ?dU ?dz ?dp ?_; (case dF | dN => k_asm); (case dU => k_upd); (case dz => size_fits); (case dp => assumption); intro h' F' N'))) | (fail "g14"; k_dflt (refine' append_bound ?h0 ?hl ?hm ?hu ?hz ?_; (case h0 | hl => k_asm); (case hm => k_mem); (case hu => k_upd); (case hz => size_fits); intro h' F' N')) | ((with_reducible show wpAny _ _ (call (Value.ref 98) [Value.ref _]) _ _ _); k_dflt (refine' join_bound ?h0 ?hl ?hs ?ho ?_; (case h0 => exact Fr.keep (by k_asm) _ _ ((by assumption : Frag.In _ _) _ _ (by k_is))); (case hl => is_list); (case hs | ho => assumption); intro t' k)) | ((with_reducible show And _ _); ((with_reducible show (Heap.get? _ _ = some (boundO _ _)) ∧ _); k_dflt (refine ⟨by first | exact Fr.keep (by k_asm) _ _ ((by assumption : Frag.In _ _) _ _ (by k_is)) | exact News.get (by k_asm) (by k_mem), ?_⟩); (try dsimp only [List.nil_append, List.cons_append]))) | (fail "g2"; k_dflt (refine' callWith_bound' ?h0 ?_; (case h0 => first | exact Fr.keep (by k_asm) _ _ ((by assumption : Frag.In _ _) _ _ (by k_is)) | exact News.get (by k_asm) (by k_mem)))) | ((with_reducible show wpAny _ _ (call (Value.ref 161) _) _ _ _); k_dflt (refine' esc_spec rfl ?k1 ?k2 ?k3 ?k4 ?k5 ?k6 ?k7 _ _ _ ?k8 ?k9 ?kt ?_; (case k1 | k2 | k3 | k4 => k_asm); (case k5 => rfl); (case k6 => first | ktr_room | k_room); (case k7 => ktr_units); (case k8 => k_asm); (case k9 => assumption); (case kt => first | exact Nat.succ_pos _ | assumption | ((dsimp only); omega)); intro h' tk' t' F' N' ht')) | (fail "g19"; ((with_reducible show _ ≤ _ → _); intro hto; (try dsimp only at hto))) | (fail "g0"; (with_reducible refine toks_gen (by omega) ?_); intro tk htk) | (fail "g0"; refine toks_cons ?_) | fail "k1")
  all_goals first | exact hret _ _ _ _ _ (by k_asm) (by fail "my.news") | (exfalso; omega)
 fail "mk.b"
end
section
noncomputable abbrev genO (g : Nat) (nm qn : Value) : Obj := { cls := .type "generator", data := .fields #[.int g 0, nm, qn] }
section
variable {prog : Program} {w : World} {A : Around} {s : Shared} {K : Frag} {L : Addr} {h₀ : Heap} {m mg mb : Str → Option Value} {news : List (Addr × Obj)} {p : Program} {loose : List Str} {mean : ExcName → Option Value}
theorem code_gen {R : Result → Shared → Prop} {name qual : Str} {params : Arguments} {body : List Stmt} {scope : Scope} {dV kV doc pm cdv ct oc : Value} {an od : Option Addr} {osl : Array (Option Value)} {f : Addr} {args : Args} {binds : List (Str × Value)}
  (F : Fr h₀ L s.heap m) (X₀ : K.In h₀) (N : News h₀ L s.heap news) (T : Top p loose mean mg mb h₀)
  (ho : K.lookup f = some ⟨oc, od, .func (fnX name qual params body scope [] dV kV doc pm an cdv ct), osl⟩) (hcd : codeIn K cdv qual = true) (hroom : A.depth < recursionLimit)
  (hbind : BindsTo s (fnX name qual params body scope [] dV kV doc pm an cdv ct) args binds) (hloc : ∀ y ∈ binds, scope.names.lookup y.1 = some .local)
  (h : ∀ Lg G h' tk nm qn, Fr h₀ L h' m → News h₀ L h' ((G, genO s.gens.size nm qn) :: news) → Fr h₀ Lg h' (fun y => binds.reverse.lookup y) → News h₀ Lg h' news → (∀ q ∈ news, @LT.lt Nat _ q.1 Lg) → @LT.lt Nat _ L Lg → @LT.lt Nat _ Lg G →
   R (.ok (.ret (.ref G))) { s with heap := h', toks := tk, gens := s.gens.push (.fresh (.func body (envX qual scope Lg f cdv []))) })
  (hco : scope.isCoroutine = false) (hgen : scope.isGenerator = true) (hk : scope.kind = .function) (hcell : ∀ x ∈ scope.names, x.2 ≠ .cell) : codeAny (model prog w) A (.call (.ref f) args) R s := by
 refine codeAny_call_generator hroom ((X₀.keeps F.keep) _ _ ho) rfl hco hgen rfl (codeRec_of (X₀.keeps F.keep) hcd) (hbind _ _ _ _ ?_)
 refine wpAny_newFunctionEnv hcell hloc (fun h1 hns hsb => ⟨(T.nolimit.keeps F.keep).fresh _ hsb, ?_⟩) hk
 have hk1 : ∀ b o, s.heap.get? b = some o → h1.get? b = some o := fun b o e => hsb.extBut b o (Nat.ne_of_lt (Heap.lt_size e)) (Heap.get?_push_of_some _ e)
 have hz : h1.objs.size = s.heap.objs.size + 1 := by rw [hsb.1, Heap.size_push]
 have hL := F.ns.lt
 have hab : h₀.objs.size ≤ s.heap.objs.size := Nat.le_of_lt (Nat.lt_of_le_of_lt F.above hL)
 have F1 : Fr h₀ L h1 m := ⟨F.ns.at' fun o e => hk1 _ o e, fun b o e => hk1 b o (F.keep b o e), F.above⟩
 have N1 : News h₀ L h1 news := fun q hq => ⟨hk1 _ _ (N q hq).1, (N q hq).2⟩
 have F2 : Fr h₀ s.heap.objs.size h1 (fun y => binds.reverse.lookup y) := ⟨hns, fun b o e => hk1 b o (F.keep b o e), hab⟩
 have N2 : News h₀ s.heap.objs.size h1 news := fun q hq => ⟨hk1 _ _ (N q hq).1, Nat.ne_of_lt (Heap.lt_size (N q hq).1), (N q hq).2.2⟩
 refine h s.heap.objs.size h1.objs.size _ _ _ _ (F1.push _) (News.push F1 N1 _) (F2.push _) (fun q hq => (News.push F2 N2 _) q (.tail _ hq)) (fun q hq => Heap.lt_size (N q hq).1) hL ?_
 show @LT.lt Nat _ s.heap.objs.size h1.objs.size
 omega
end
def GP (Lg : Addr) (n : Nat) (s₀ s₁ : Shared) : Prop := n = 0 ∧ ∃ h' tk, s₁ = { s₀ with heap := h', toks := tk } ∧ ∀ b o, @LT.lt Nat _ b Lg → s₀.heap.get? b = some o → h'.get? b = some o
def GY (h₀ : Heap) (Lg tup : Addr) (nw : List (Addr × Obj)) : Protocol := fun k s₀ v s' kap => v = .ref tup ∧ ∃ D J oD oJ m', (∃ h' tk, s' = { s₀ with heap := h', toks := tk }) ∧ (∀ b o, @Ne Nat b Lg → s₀.heap.get? b = some o → s'.heap.get? b = some o) ∧
 Fr h₀ Lg s'.heap m' ∧ News h₀ Lg s'.heap ((J, oJ) :: (D, oD) :: nw) ∧ @LT.lt Nat _ Lg D ∧ @LT.lt Nat _ D J ∧ ∀ s'', Fr h₀ Lg s''.heap m' → News h₀ Lg s''.heap ((J, oJ) :: (D, oD) :: nw) → kap (.send .none) s''
def GenOk (w : World) (h₀ : Heap) (Lg tup : Addr) (nw : List (Addr × Obj)) (mG : Str → Option Value) (gs : GenState) : Prop :=
 ∀ (A1 : Around) (s1 : Shared), A1.handled = none → Fr h₀ Lg s1.heap mG → News h₀ Lg s1.heap nw → gs.Goes (model Challenge.rw_to0089_01.prog w) A1 (fun n s₀ r s₁ => r = .ok (.ret .none) ∧ GP Lg n s₀ s₁) (GY h₀ Lg tup nw) 1 (.send .none) s1
theorem rev_step {h₀ h h' : Heap} {L D : Addr} {m : Str → Option Value} {o o' : Obj} {news : List (Addr × Obj)} (F : Fr h₀ L h m) (N : News h₀ L h ((D, o) :: news)) (hs : Heap.SameBut D h h') (ho : h'.get? D = some o') (hne : ∀ q ∈ news, q.1 ≠ D) :
  Fr h₀ L h' m ∧ News h₀ L h' ((D, o') :: news) := by
 have z := N _ (.head _)
 refine ⟨⟨F.ns.at' fun o e => hs.extBut _ o (Ne.symm z.2.1) e, fun b o e => hs.extBut b o (fun q => by rw [q, z.2.2] at e; cases e) (F.keep b o e), F.above⟩, fun q hq => ?_⟩
 rcases List.mem_cons.mp hq with rfl | hq
 ·exact ⟨ho, z.2⟩
 ·exact ⟨hs.extBut _ _ (hne q hq) (N q (.tail _ hq)).1, (N q (.tail _ hq)).2⟩
theorem news_cons {h₀ h : Heap} {L : Addr} {q : Addr × Obj} {news : List (Addr × Obj)} (N : News h₀ L h news) (hq : q ∈ news) : News h₀ L h (q :: news) := fun r hr => by
 rcases List.mem_cons.mp hr with rfl | hr
 ·exact N _ hq
 ·exact N _ hr
theorem fr_name' {h₀ h : Heap} {L : Addr} {m : Str → Option Value} (_F : Fr h₀ L h m) : ∃ m', m' = m := ⟨m, rfl⟩
local macro_rules | `(tactic| walk_at "pyIter ref") => dy "w6" #[]
theorem gen75 (hfill : PR = PR) (B : Below A₀ base outer h₀) (F : Fr h₀ L s.heap m) (X : (K0.heap_1 w.params).In h₀) (T : Top p loose mean mg mb h₀) (hk : cs.kind = .function) (hd : dp + 3 < recursionLimit) (hu : un + 20 < cLine)
   (W aDecl e0 tup : Addr) (n3 k0 : Nat) (es : List Addr) (decl : Array Value) (news nw : List (Addr × Obj)) (hnw : ∀ q ∈ nw, q ∈ news) (hes : es.length ≤ 10) (hdecl : decl = (Value.ref e0 :: es.map Value.ref).toArray)
   (N : News h₀ L s.heap news) (hDe : (aDecl, listOf decl n3) ∈ nw) (hE0 : (e0, listOf #[.ref tup] k0) ∈ nw) (hEs : ∀ e ∈ es, ∃ k, (e, listOf #[] k) ∈ nw)
   {Res : Result → Shared → Prop} (hret : ∀ Lg G h' tk nm qn gs mG, Fr h₀ L h' m → News h₀ L h' ((G, genO s.gens.size nm qn) :: news) → Fr h₀ Lg h' mG → News h₀ Lg h' news → (∀ q ∈ news, @LT.lt Nat _ q.1 Lg) → @LT.lt Nat _ L Lg → @LT.lt Nat _ Lg G →
     GenOk w h₀ Lg tup nw mG gs → (∀ a b c d e f, gs ≠ .suspended a b c d e f) → Res (.ok (.ret (.ref G))) { s with heap := h', toks := tk, gens := s.gens.push gs }) :
   codeAny (model Challenge.rw_to0089_01.prog w) (ktrTop dp un gd cn cs L a ccd cl outer) (.call (.ref 75) ⟨[.ref W, .ref aDecl], []⟩) Res s := by
 fail "mk.a"
 case zl =>
  revert hfill B F X T hk hd hu hnw hes hdecl N hDe hE0 hEs hret
  revert w p loose mean mg mb dp un gd cn cs a ccd cl outer A₀ base h₀ L m s W aDecl e0 tup n3 k0 es decl news nw Res
  intro w p loose mean mg mb dp un gd cn cs a ccd cl outer A₀ base h₀ L m s W aDecl e0 tup n3 k0 es decl news nw Res hfill B F X T hk hd hu hnw hes hdecl N hDe hE0 hEs hret
  revert X
  k_fill
  intro X
  k_dflt (refine' code_gen ?k1 ?k2 ?k3 ?k4 ?k6 ?k7 ?k8 ?k9 ?kB (fun Lg G h' tk nm qn F1 N1 F2 N2 l1 l2 l3 => ?main) ?c2 ?c3 ?c4 ?c5; (case k1 | k2 | k3 | k4 => k_asm); (case k6 | k7 => k_is); (case k8 => first | ktr_room | k_room); (case k9 => first | exact BindsTo.of_eq rfl | exact binds_K (by k_in) rfl (by k_is) rfl rfl rfl | exact kp_binds (by k_in) (fun _ => rfl)); (case c5 => decide); (case kB => exact locs rfl); (case c2 | c3 | c4 => exact rfl))
  injections Lg G h' tk nm qn F1 N1 F2 N2 l1 l2 l3
  refine hret Lg G h' tk nm qn _ _ F1 N1 F2 N2 l1 l2 l3 (fun A1 s1 hh F3 N3 => ⟨rfl, ?_⟩) (fun a b c d e f q => by cases q)
  injections A1 s1 hh F3 N3
  refine seg_func ?_
  refine seg_execs_cons ?_
  refine seg_For ?_
  clear F1 N1 F2 N2 N F hret B
  k_steps
  have hds : decl.size = es.length + 1 := by rw [hdecl]; simp
  refine call_reversed_list (items := decl) ⟨_, (N3 _ hDe).1, rfl, n3, rfl⟩ ?_
  have F4 := F3.push (revObj aDecl ((decl.size : Int) - 1))
  have N4 := News.push F3 N3 (revObj aDecl ((decl.size : Int) - 1))
  have hLD : @LT.lt Nat _ Lg s1.heap.objs.size := F3.ns.lt
  have hDf : ∀ b o, s1.heap.get? b = some o → @Ne Nat b s1.heap.objs.size := fun b o e => Nat.ne_of_lt (Heap.lt_size e)
  have hlow : ∀ b o, @Ne Nat b Lg → s1.heap.get? b = some o → (s1.heap.push (revObj aDecl ((decl.size : Int) - 1))).get? b = some o := fun b o _ e => Heap.get?_push_of_some _ e
  have hDd : (revObj aDecl ((decl.size : Int) - 1)).data = .fields #[.ref aDecl, rawInt (es.length : Nat)] := by
    rw [hds]; show Data.fields #[.ref aDecl, rawInt (((es.length + 1 : Nat) : Int) - 1)] = _
    rw [show (((es.length + 1 : Nat) : Int) - 1) = (es.length : Nat) by omega]
  have hDc : (revObj aDecl ((decl.size : Int) - 1)).cls = .type "list_reverseiterator" := rfl
  refine wpAny_pyIter_revIter ⟨_, (N4 _ (.head _)).1, rfl, rfl⟩ (fun pp => ?_)
  injections pp
  generalize s1.heap.objs.size = D at N4 hLD hDf
  generalize s1.heap.push (revObj aDecl ((decl.size : Int) - 1)) = h2 at F4 N4 hlow ⊢
  generalize revObj aDecl ((decl.size : Int) - 1) = oD at N4 hDd hDc
  have hnD : ∀ q ∈ nw, q.1 ≠ D := fun q hq => Nat.ne_of_lt (Nat.lt_trans (l1 q (hnw q hq)) hLD)
  have hst : ∃ h' tk, ({ s1 with heap := h2 } : Shared) = { s1 with heap := h', toks := tk } := ⟨_, _, rfl⟩
  have hjl : es.length ≤ es.length := Nat.le_refl _
  replace F4 : Fr h₀ Lg ({ s1 with heap := h2 } : Shared).heap _ := F4
  replace N4 : News h₀ Lg ({ s1 with heap := h2 } : Shared).heap _ := N4
  replace hlow : ∀ b o, @Ne Nat b Lg → s1.heap.get? b = some o → ({ s1 with heap := h2 } : Shared).heap.get? b = some o := hlow
  generalize hs2 : ({ s1 with heap := h2 } : Shared) = s2 at F4 N4 hlow hst ⊢
  clear hs2 h2
  obtain ⟨m2, hm2⟩ := fr_name' F4
  rw [← hm2] at F4
  clear hm2
  clear hjl
  generalize hj : es.length = j at hDd
  have hjl : j ≤ es.length := Nat.le_of_eq hj.symm
  clear hj
  induction j generalizing s2 m2 oD with
  | zero =>
    revert hDc N4 hlow hst F4 hDd
    revert oD s2 m2
    intro oD s2 m2
    intro hDc N4 hlow hst F4 hDd
    obtain ⟨hq2, tq2, pz2⟩ := hst
    rcases pz2 with rfl
    have hx : decl[0]? = some (.ref e0) := by rw [hdecl]; simp
    refine seg_forLoop ?_
    refine wpAny_pyNext_rev_item (i := 0) ⟨oD, (N4 _ (.head _)).1, hDc, hDd⟩ ⟨_, (N4 _ (.tail _ hDe)).1, rfl, n3, rfl⟩ hx (fun h5 hit5 hs5 => ?_)
    injections h5 hit5 hs5
    obtain ⟨oD', ho5, hDc', hDd'⟩ := hit5
    obtain ⟨F5, N5⟩ := rev_step F4 N4 hs5 ho5 hnD
    dsimp only
    refine wpAny_assign_Name (wpAny_storeName_local rfl F5.ns (fun h6 hn6 hs6 => ?_) rfl)
    injections h6 hn6 hs6
    have F6 := F5.set hn6 hs6
    have N6 := N5.set hs6
    have hlow6 : ∀ b o, @Ne Nat b Lg → s1.heap.get? b = some o → h6.get? b = some o := fun b o hb e => hs6.extBut b o hb (hs5.extBut b o (hDf b o e) (hlow b o hb e))
    refine seg_execs_cons ?_
    refine seg_If ?_
    have N7 := news_cons N6 (.tail _ hE0)
    clear F3 N3 F4 N4 F5 N5
    k_steps
    refine seg_execs_cons ?_
    refine seg_Expr_YieldFrom ?_
    k_steps
    unfold Stop
    refine ⟨"list", ⟨_, (N7 _ (.head _)).1, rfl⟩, by decide, wpAny_pyIter_list (items := #[.ref tup]) ⟨_, (N7 _ (.head _)).1, rfl, k0, rfl⟩ (fun p2 => ?_)⟩
    injections p2
    have F8 := F6.push ({ cls := .type "list_iterator", data := .fields #[.ref e0, .int 0 0] } : Obj)
    have N8 := News.push F6 N6 ({ cls := .type "list_iterator", data := .fields #[.ref e0, .int 0 0] } : Obj)
    have hLJ : @LT.lt Nat _ Lg h6.objs.size := F6.ns.lt
    have hDJ : @LT.lt Nat _ D h6.objs.size := Heap.lt_size (N6 _ (.head _)).1
    have hnJ : ∀ q ∈ (D, oD') :: nw, q.1 ≠ h6.objs.size := fun q hq => Nat.ne_of_lt (Heap.lt_size (N6 q hq).1)
    refine seg_yf_item (l := e0) (i := 0) (items := #[.ref tup]) ⟨_, (N8 _ (.head _)).1, rfl, rfl⟩ ⟨_, (N8 _ (.tail _ (.tail _ hE0))).1, rfl, k0, rfl⟩ rfl rfl rfl (fun h9 hit9 hs9 kap hkap => ?_)
    injections h9 hit9 hs9 kap hkap
    obtain ⟨oJ, ho9, hJc, hJd⟩ := hit9
    obtain ⟨F9, N9⟩ := rev_step F8 N8 hs9 ho9 hnJ
    have hlow9 : ∀ b o, @Ne Nat b Lg → s1.heap.get? b = some o → h9.get? b = some o := fun b o hb e => hs9.extBut b o (Nat.ne_of_lt (Heap.lt_size (hlow6 b o hb e))) (Heap.get?_push_of_some _ (hlow6 b o hb e))
    refine ⟨rfl, D, h6.objs.size, oD', oJ, _, ⟨_, _, rfl⟩, hlow9, F9, N9, hLD, hDJ, fun s3 F3 N3 => hkap s3 ⟨oJ, (N3 _ (.head _)).1, hJc, hJd⟩ ?_⟩
    clear hkap hs9 ho9 F8 N8 F9 N9 hlow9 N7
    refine seg_yf_end (l := e0) (i := 1) (items := #[.ref tup]) (by unfold Around.over; dsimp only; rw [hh]; rfl) ⟨oJ, (N3 _ (.head _)).1, hJc, hJd⟩ ⟨_, (N3 _ (.tail _ (.tail _ hE0))).1, rfl, k0, rfl⟩ rfl (fun h10 hx10 => ?_)
    injections h10 hx10
    refine seg_leaf (.ok (.ret .none)) ?_
    refine seg_again rfl ?_
    refine seg_forLoop ?_
    have hD10 : h10.get? D = some oD' := hx10 D oD' (Nat.ne_of_lt hDJ) (N3 _ (.tail _ (.head _))).1
    refine wpAny_pyNext_rev_end (by unfold Around.over; dsimp only; rw [hh]; rfl) ⟨oD', hD10, hDc', hDd'⟩ (fun h11 hx11 => ?_)
    injections h11 hx11
    dsimp only
    refine seg_leaf (.ok .next) ?_
    refine seg_end (.ok (.ret .none)) ⟨rfl, rfl, _, _, rfl, fun b o hb e => ?_⟩
    injections b o hb e
    exact hx11 b o (Nat.ne_of_lt (Nat.lt_trans hb hLD)) (hx10 b o (Nat.ne_of_lt (Nat.lt_trans hb hLJ)) e)
  | succ j ih =>
    revert hDc N4 hlow hst F4 hDd
    revert oD s2 m2
    intro oD s2 m2
    intro hDc N4 hlow hst F4 hDd
    obtain ⟨hq2, tq2, pz4⟩ := hst
    rcases pz4 with rfl
    have hx : decl[j + 1]? = some (.ref (es[j]'hjl)) := by rw [hdecl]; simp [show j < es.length from hjl]
    obtain ⟨ke, hke⟩ := hEs (es[j]'hjl) (List.getElem_mem _)
    generalize es[j]'hjl = ej at hx hke
    refine seg_forLoop ?_
    refine wpAny_pyNext_rev_item (i := j + 1) ⟨oD, (N4 _ (.head _)).1, hDc, hDd⟩ ⟨_, (N4 _ (.tail _ hDe)).1, rfl, n3, rfl⟩ hx (fun h5 hit5 hs5 => ?_)
    injections h5 hit5 hs5
    obtain ⟨oD', ho5, hDc', hDd'⟩ := hit5
    obtain ⟨F5, N5⟩ := rev_step F4 N4 hs5 ho5 hnD
    dsimp only
    refine wpAny_assign_Name (wpAny_storeName_local rfl F5.ns (fun h6 hn6 hs6 => ?_) rfl)
    injections h6 hn6 hs6
    have F6 := F5.set hn6 hs6
    have N6 := N5.set hs6
    have hlow6 : ∀ b o, @Ne Nat b Lg → s1.heap.get? b = some o → h6.get? b = some o := fun b o hb e => hs6.extBut b o hb (hs5.extBut b o (hDf b o e) (hlow b o hb e))
    refine seg_execs_cons ?_
    refine seg_If ?_
    have N7 := news_cons N6 (.tail _ hke)
    clear F3 N3 F4 N4 F5 N5
    k_steps
    refine seg_again rfl ?_
    refine ih oD' hDc' _ N6 hlow6 ⟨_, _, rfl⟩ _ F6 ?_ (by omega)
    rw [hDd']
    rw [show (((j + 1 : Nat) : Int) - 1) = (j : Nat) by omega]
 fail "mk.b"
end
section
section
variable {w : World} {A : Around} {E : Value → Shared → Prop} {s : Shared} {env : Env} {target iter : PySem.Expr} {body : List Stmt} {pos : Pos} {Q : Flow → Shared → Prop}
def TurnG (Q : Flow → Shared → Prop) (INV : Nat → Shared → Prop) (n : Nat) (f : Flow) (s₃ : Shared) : Prop :=
 match f with
 | .next | .cont => ∃ k, k < n ∧ INV k s₃
 | .brk => Q .next s₃
 | .ret v => Q (.ret v) s₃
def NextG (w : World) (A : Around) (env : Env) (target : PySem.Expr) (body : List Stmt) (Q : Flow → Shared → Prop) (E : Value → Shared → Prop) (INV : Nat → Shared → Prop) (G : Addr) (n : Nat) (o : Option Value) (s₁ : Shared) : Prop :=
 match o with
 | none => Q .next s₁
 | some v => (∃ g, s₁.heap.IsGen G g) ∧ wpAny (model Challenge.rw_to0089_01.prog w) A (assign target env v) (fun _ s₂ => wpAny (model Challenge.rw_to0089_01.prog w) A (execs body env) (TurnG Q INV n) E s₂) E s₁
def ForG (w : World) (A : Around) (env : Env) (target : PySem.Expr) (body : List Stmt) (Q : Flow → Shared → Prop) (E : Value → Shared → Prop) (xv : Value) (s : Shared) : Prop :=
 ∃ G g n, ∃ INV : Nat → Shared → Prop, xv = .ref G ∧ s.heap.IsGen G g ∧ INV n s ∧ ∀ n s', INV n s' → wpAny (model Challenge.rw_to0089_01.prog w) A (pyNext (.ref G)) (NextG w A env target body Q E INV G n) E s'
theorem letOwned_gen {M : Model} {G g : Addr} {v : Value} {els : List PySem.Expr} {ct : Nat} {px : Pos} {E : Value → Shared → Prop} {Q : Unit → Shared → Prop} (hg : s.heap.IsGen G g) (h : Q () s) : wpAny M A (letOwnedTupleGo (.Tuple els ct px) (.ref G) v) Q E s := by
 rcases hg with ⟨o, nm, qn, ho, hc, hd, hs⟩
 unfold letOwnedTupleGo
 cases v with
 | ref a =>
  refine wpAny_bind (wpAny_load ho ?_)
  rw [hc, hd]
  refine wpAny_ite_split (fun hab => absurd hab ?_) (fun _ => wpAny_pure h)
  rw [show (["enumerate", "zip", "dict_itemiterator", "dict_reverseitemiterator", "odict_iterator", "itertools.zip_longest", "itertools.pairwise"] : List String).contains "generator" = false by decide]
  simp
 | _ => exact wpAny_pure h
theorem for_gen {els : List PySem.Expr} {ct : Nat} {px : Pos} (h : wpAny (model Challenge.rw_to0089_01.prog w) A (eval iter env) (ForG w A env (.Tuple els ct px) body Q E) E s)
  (hs : ∀ x, foldedSetIterable iter env x = pure x := by intros _; rfl)
  (hE : PassesOwn (model Challenge.rw_to0089_01.prog w) A env E := by passes_own) :
  wpAny (model Challenge.rw_to0089_01.prog w) A (exec (.For (.Tuple els ct px) iter body [] pos) env) Q E s := by
 refine wpAny_For (wpAny_mono h (fun xv s₁ h₁ => ?_) fun _ _ e => e) hs
 rcases h₁ with ⟨G, g, n, INV, rfl, hg, hI, turn⟩
 refine wpAny_pyIter_gen hg ?_
 refine codeAny_forLoop_any INV (fun n s' hI => ?_) n hI
 refine wpAny_mono (wpAny_passesOwn hE (turn n s' hI)) (fun o s₂ h₂ => ?_) fun _ _ e => e
 cases o with
 | none => exact wpAny_execs_nil h₂
 | some v =>
  rcases h₂ with ⟨⟨g', hg'⟩, h₂⟩
  refine letOwned_gen hg' ?_
  refine wpAny_mono (wpAny_passesOwn hE h₂) (fun _ s₃ h₃ => ?_) fun _ _ e => e
  refine wpAny_mono (wpAny_passesOwn hE h₃) (fun f s₄ h₄ => ?_) fun _ _ e => e
  cases f <;> exact h₄
end
end
section
noncomputable abbrev xmlS : Str := Str.ofString "http://www.w3.org/XML/1998/namespace"
noncomputable abbrev tupO (xs : Array Value) : Obj := { cls := .type "tuple", data := .seq xs }
theorem set_ask {prog : Program} {w : World} {o : Obj} {S : Str → Bool} {n : Nat} {R : Prop} (_h : o.SetObjOf (strKind prog w) S n) (k : ∀ o', o' = o → R) : R := k _ rfl
theorem q_ask {g h : Heap} {L G d D : Addr} {oG od oD : Obj} {m : Str → Option Value} {news : List (Addr × Obj)} {R : Prop} (_F : Fr g L h m) (_N : News g L h ((G, oG) :: (d, od) :: (D, oD) :: news))
 (k : ∀ g' L' d' D' oD', g' = g → L' = L → d' = d → D' = D → oD' = oD → R) : R := k _ _ _ _ _ rfl rfl rfl rfl rfl
inductive QInv (w : World) (A1 : Around) (s : Shared) (gs : GenState) (g : Heap) (L Lg G tup : Addr) (nm qn : Value) (mL : Str → Option Value) (nw : List (Addr × Obj)) (d : Addr) (rest : List (Addr × Obj)) (s' : Shared) : Prop
 | mk (hh : Heap) (tkk : Nat) (D : Addr) (J : Addr) (oD : Obj) (oJ : Obj) (oL : Obj) (m' : Str → Option Value) (gs' : GenState) (so : Obj) (mc : Str → Option Value) (h : s' = { heap := hh, gens := ((s.gens.push gs).setIfInBounds s.gens.size .running).setIfInBounds s.gens.size gs', drawn := s.drawn, toks := tkk, os := s.os } ∧
  Fr g L hh mc ∧ (∀ y, y ≠ Str.ofString "u" → y ≠ Str.ofString "prefix" → mc y = mL y) ∧ News g L hh ((J, oJ) :: (D, oD) :: (Lg, oL) :: (G, genO s.gens.size nm qn) :: (d, so) :: rest) ∧ Fr g Lg hh m' ∧ so.SetObjOf (strKind Challenge.rw_to0089_01.prog w) (fun k => decide (k = Str.ofString "xml")) 1 ∧
  @LT.lt Nat _ Lg D ∧ @LT.lt Nat _ D J ∧ (∀ s'', Fr g Lg s''.heap m' → News g Lg s''.heap ((J, oJ) :: (D, oD) :: nw) → gs'.Goes (model Challenge.rw_to0089_01.prog w) A1 (fun n s₀ r s₁ => r = .ok (.ret .none) ∧ GP Lg n s₀ s₁) (GY g Lg tup nw) 0 (.send .none) s'')) : QInv w A1 s gs g L Lg G tup nm qn mL nw d rest s'
theorem allLt_mem' {d : Addr} : ∀ {l : List (Addr × Obj)}, AllLt d l → ∀ p ∈ l, p.1 < d
 | [], _, _, h => by cases h
 | q :: r, ⟨a, b⟩, p, h => by
  rcases List.mem_cons.mp h with rfl | h
  ·exact a
  ·exact allLt_mem' b p h
theorem ask_around {w : World} {A : Around} {env : Env} {target : PySem.Expr} {body : List Stmt} {Q : Flow → Shared → Prop} {E : Value → Shared → Prop} {xv : Value} {s : Shared} (k : ∀ A', A' = A → ForG w A' env target body Q E xv s) : ForG w A env target body Q E xv s := k _ rfl
theorem fr_below {g h h' : Heap} {L Lg : Addr} {m : Str → Option Value} (F : Fr g L h m) (hl : @LT.lt Nat _ L Lg) (hlow : ∀ b o, @LT.lt Nat _ b Lg → h.get? b = some o → h'.get? b = some o) : Fr g L h' m :=
 ⟨F.ns.at' fun o e => hlow _ o hl e, fun b o e => hlow b o (Nat.lt_trans (Nat.lt_of_lt_of_le (Heap.lt_size e) F.above) hl) (F.keep b o e), F.above⟩
theorem news_seven {h₀ h : Heap} {L : Addr} {q a b c d e f : Addr × Obj} {r : List (Addr × Obj)} (N : News h₀ L h (q :: a :: b :: c :: d :: e :: f :: r)) : News h₀ L h (q :: r) := fun x hx => by
 rcases List.mem_cons.mp hx with rfl | hx
 ·exact N _ (.head _)
 ·exact N _ (.tail _ (.tail _ (.tail _ (.tail _ (.tail _ (.tail _ (.tail _ hx)))))))
theorem gens_fin (gens : Array GenState) (a b c : GenState) (h : AllBare gens) : AllBare (((((gens.push a).setIfInBounds gens.size b).setIfInBounds gens.size c).setIfInBounds gens.size b).setIfInBounds gens.size .finished) := by
 intros y hy
 rcases Array.mem_iff_getElem.mp hy with ⟨i, hi, rfl⟩
 simp only [Array.size_setIfInBounds, Array.size_push] at hi
 by_cases hig : i = gens.size
 ·subst hig
  rw [Array.getElem_setIfInBounds_self]
  rfl
 ·have e : ∀ (X : Array GenState) (v : GenState) (hi : i < (X.setIfInBounds gens.size v).size), (X.setIfInBounds gens.size v)[i] = X[i]'(by simpa using hi) := fun X v hi => Array.getElem_setIfInBounds_ne _ (Ne.symm hig)
  rw [e, e, e, e, Array.getElem_push_lt (by omega)]
  exact h _ (Array.getElem_mem _)
theorem brace_item {x : Str} (h : (Txt.slice x none (some 1) == Str.ofString "{") = true) : Str.ofString "{" = Txt.item x 0 := by
 have h := beq_iff_eq.mp h
 have hl := Txt.slice_le x none (some 1)
 rw [h] at hl
 have h1 : 1 ≤ x.length := hl
 have e := beq_iff_eq.mp (slice_closes_to (x := x) (j := 1) ⟨by omega, by exact_mod_cast h1⟩)
 rw [← h, e]
 unfold Txt.item Txt.charAt
 have hlt : 0 < x.cps.toList.length := h1
 have hs : seqIndex? 0 x.length = some 0 := by
  unfold seqIndex?
  simp
  omega
 rw [hs]
 simp
 cases hx : x.cps.toList with
 | nil => rw [hx] at hlt; exact absurd hlt (by decide)
 | cons a r =>
  have : x.cps = (a :: r).toArray := by rw [← hx]
  rw [this]
  simp
theorem qname_code (hfill : PR = PR) (B : Below A₀ base outer h₀) (F : Fr h₀ L s.heap m) (X : (K0.heap_1 w.params).In h₀) (T : Top p loose mean mg mb h₀) (hk : cs.kind = .function) (hd : dp + 6 < recursionLimit) (hu : un + 60 < cLine)
   (W WD aW aD aDecl aNs aMap aPres e0 tup : Addr) (tkW : Nat → Tok) (seen done : Bool) (ig : Tok) (news : List (Addr × Obj)) (we n3 k0 : Nat) (es : List Addr) (decl : Array Value) (x : Str) (t t1 t2 : Tok)
   (hx : x.length ≤ 100) (hb : ¬ (Str.ofString "{") = Txt.item x 0) (hes : es.length ≤ 10) (hdecl : decl = (Value.ref e0 :: es.map Value.ref).toArray)
   (N : News h₀ L s.heap news) (hW : (W, instObj 150 WD) ∈ news) (hWD : (WD, dictOf (wEs w.params tkW aW aD aDecl aNs aMap aPres seen done ig) we) ∈ news) (hDe : (aDecl, listOf decl n3) ∈ news)
   (hE0 : (e0, listOf #[.ref tup] k0) ∈ news) (hTup : (tup, tupO #[.str xmlS t1, .str (Str.ofString "xml") t2]) ∈ news) (hEs : ∀ e ∈ es, ∃ k, (e, listOf #[] k) ∈ news)
   {Res : Result → Shared → Prop} (hret : ∀ R h' tk' g' t1 t2 t3, Fr h₀ L h' m → News h₀ L h' ((R, tupO #[.str x t1, .str x t2, .str (Str.ofString "") t3]) :: news) → (∀ q ∈ news, q.1 < R) → (AllBare s.gens → AllBare g') → Res (.ok (.ret (.ref R))) { s with heap := h', toks := tk', gens := g' }) :
   codeAny (model Challenge.rw_to0089_01.prog w) (ktrTop dp un gd cn cs L a ccd cl outer) (.call (.ref 90) ⟨[.ref W, .str x t], []⟩) Res s := by
 fail "mk.a"
 case zl =>
  revert hfill B F X T hk hd hu hx hb hes hdecl N hW hWD hDe hE0 hTup hEs hret
  revert w p loose mean mg mb dp un gd cn cs a ccd cl outer A₀ base h₀ L m s W WD aW aD aDecl aNs aMap aPres e0 tup tkW seen done ig news we n3 k0 es decl x t t1 t2 Res
  intro w p loose mean mg mb dp un gd cn cs a ccd cl outer A₀ base h₀ L m s W WD aW aD aDecl aNs aMap aPres e0 tup tkW seen done ig news we n3 k0 es decl x t t1 t2 Res hfill B F X T hk hd hu hx hb hes hdecl N hW hWD hDe hE0 hTup hEs hret
  have N1 : News h₀ L s.heap ((W, instObj 150 WD) :: (WD, dictOf (wEs w.params tkW aW aD aDecl aNs aMap aPres seen done ig) we) :: (aDecl, listOf decl n3) :: (tup, tupO #[.str xmlS t1, .str (Str.ofString "xml") t2]) :: news) := news_cons (news_cons (news_cons (news_cons N hTup) (.tail _ hDe)) (.tail _ (.tail _ hWD))) (.tail _ (.tail _ (.tail _ hW)))
  revert X
  k_fill
  intro X
  k_dflt (fail "my.enter")
  (repeat' first | (fail "g5"; refine stop_of ?_) | fail "k1")
  · rename (Txt.slice x none (some 1) == _) = true => hbr
    exact absurd (brace_item hbr) hb
  unfold Stop
  refine for_gen ?_
  (repeat' first | ((with_reducible show wpAny _ _ (call (Value.ref 75) _) _ _ _); refine stop_of ?_) | fail "k1")
  unfold Stop
  rename News _ _ _ _ => N5
  k_dflt (refine wpAny_call ?_; refine' gen75 rfl ?k1 ?k2 ?k3 ?k4 ?k5 ?k6 ?k7 W aDecl e0 tup n3 k0 es decl _ ((aDecl, listOf decl n3) :: news) ?nw hes hdecl N5 ?m1 ?m2 ?m3 (fun Lg G h' tk' nm qn gs mG F6 N6 F7 N7 l1 l2 l3 hG hgs => ?_); (case k1 | k2 | k3 | k4 => k_asm); (case k5 => rfl); (case k6 => first | ktr_room | k_room); (case k7 => ktr_units); (case nw => (intro q hq; rcases List.mem_cons.mp hq with rfl | hq; (focus k_mem); fail "my.mem")); (case m1 => exact .head _); (case m2 => exact .tail _ hE0); (case m3 => exact fun e he => let ⟨k, hk'⟩ := hEs e he; ⟨k, .tail _ hk'⟩))
  injections Lg G h' tk' nm qn gs mG F6 N6 F7 N7 l1 l2 l3 hG hgs
  (repeat' first | ((with_reducible show ForG ..); (refine stop_of ?_)) | fail "k1")
  unfold Stop
  dsimp only
  clear hgs
  have hL7 := F7.ns.lt
  obtain ⟨mL, eL⟩ := fr_name' F6
  have hd0 : ∀ q ∈ (aDecl, listOf decl n3) :: news, q.1 < Lg := fun q hq => by
    rcases List.mem_cons.mp hq with rfl | hq
    ·exact l1 (aDecl, listOf decl n3) (by k_mem)
    ·exact l1 q (by fail "my.mem")
  rename Obj.SetObjOf (strKind _ _) _ _ _ => hset
  refine set_ask hset fun so e1 => ?_
  injections so e1
  rw [← e1] at N6 N7 l1 hset
  refine q_ask F6 N6 fun gq Lq dq Dq oq f1 f2 f3 f4 f5 => ?_
  injections gq Lq dq Dq oq f1 f2 f3 f4 f5
  subst f1 f2 f3 f4
  rw [← f5] at N6 N7 l1
  have hnl : h'.NoLimit := (Top.nolimit (by assumption : Top p loose mean mg mb gq)).keeps F6.keep
  generalize hs1 : ({ heap := h', gens := s.gens.push gs, drawn := s.drawn, toks := tk', os := s.os } : Shared) = s1
  refine ask_around fun A' eA => ?_
  injections A' eA
  refine ⟨G, s.gens.size, 1, fun n s' => (n = 1 ∧ s' = s1) ∨ (n = 0 ∧ QInv w A'.in1 s gs gq Lq Lg G tup nm qn mL ((aDecl, listOf decl n3) :: news) dq ((Dq, oq) :: (W, instObj 150 WD) :: (WD, dictOf (wEs w.params tkW aW aD aDecl aNs aMap aPres seen done ig) we) :: (aDecl, listOf decl n3) :: (tup, tupO #[.str xmlS t1, .str (Str.ofString "xml") t2]) :: news) s'), rfl, ?_, .inl ⟨rfl, rfl⟩, ?_⟩
  · rw [← hs1]
    exact ⟨_, nm, qn, (N6 _ (.head _)).1, rfl, rfl, rfl⟩
  subst eA
  intro n s' pz1
  rcases pz1 with ⟨rfl, rfl⟩ | ⟨rfl, hQ⟩
  · subst hs1
    have hLG : ∀ q ∈ (dq, so) :: (Dq, oq) :: (W, instObj 150 WD) :: (WD, dictOf (wEs w.params tkW aW aD aDecl aNs aMap aPres seen done ig) we) :: (aDecl, listOf decl n3) :: (tup, tupO #[.str xmlS t1, .str (Str.ofString "xml") t2]) :: news, q.1 < Lg := l1
    refine wpAny_pyNext_gen (g := s.gens.size) (n := 1) (gs := gs) (P := GP Lg) (Y := GY gq Lg tup ((aDecl, listOf decl n3) :: news)) rfl hnl (by first | ktr_room | k_room) ⟨_, nm, qn, (N6 _ (.head _)).1, rfl, rfl, rfl⟩ (by simp) (hG _ _ rfl F7 (fun q hq => N7 q ?_)) ?_ ?_
    ·rcases List.mem_cons.mp hq with rfl | hq
     ·k_mem
     ·fail "my.mem"
    ·intro v s₁ gs' pz2
     rcases pz2 with ⟨rfl, pz3⟩
     obtain ⟨D, J, oD, oJ, m', pz4⟩ := pz3
     rcases pz4 with ⟨pz6, pz5⟩
     obtain ⟨h9, tk9, pz7⟩ := pz6
     rcases pz7 with rfl
     obtain ⟨hlow, F9, N9, o8, o9, hk9⟩ := pz5
     obtain ⟨oL, es', ep, hoL, hdL, hkL, hmL⟩ := id F9.ns
     have hgl : gq.objs.size ≤ Lq := F6.above
     have F10 : Fr gq Lq h9 mL := ⟨eL ▸ F6.ns.at' fun o e => hlow _ o (Nat.ne_of_lt l2) e, fun b o e => hlow b o (Nat.ne_of_lt (Nat.lt_trans (Nat.lt_of_lt_of_le (Heap.lt_size e) hgl) l2)) (F6.keep b o e), F6.above⟩
     have N10 : News gq Lq h9 ((J, oJ) :: (D, oD) :: (Lg, oL) :: (G, genO s.gens.size nm qn) :: (dq, so) :: (Dq, oq) :: (W, instObj 150 WD) :: (WD, dictOf (wEs w.params tkW aW aD aDecl aNs aMap aPres seen done ig) we) :: (aDecl, listOf decl n3) :: (tup, tupO #[.str xmlS t1, .str (Str.ofString "xml") t2]) :: news) := by
      intro q hq
      rcases List.mem_cons.mp hq with rfl | hq
      ·exact ⟨(N9 _ (.head _)).1, Nat.ne_of_gt (show @LT.lt Nat _ Lq J by omega), (N9 _ (.head _)).2.2⟩
      rcases List.mem_cons.mp hq with rfl | hq
      ·exact ⟨(N9 _ (.tail _ (.head _))).1, Nat.ne_of_gt (show @LT.lt Nat _ Lq D by omega), (N9 _ (.tail _ (.head _))).2.2⟩
      rcases List.mem_cons.mp hq with rfl | hq
      ·refine ⟨hoL, Nat.ne_of_gt l2, ?_⟩
       cases hgL : gq.get? Lg with
       | none => rfl
       | some o => exact absurd (Heap.lt_size hgL) (Nat.not_lt.mpr (Nat.le_trans hgl (Nat.le_of_lt l2)))
      rcases List.mem_cons.mp hq with rfl | hq
      ·exact ⟨hlow _ _ (Nat.ne_of_gt l3) (N6 _ (.head _)).1, (N6 _ (.head _)).2⟩
      ·exact ⟨hlow _ _ (Nat.ne_of_lt (l1 q hq)) (N6 q (.tail _ hq)).1, (N6 q (.tail _ hq)).2⟩
     unfold NextG
     refine ⟨⟨_, _, nm, qn, (N10 _ (.tail _ (.tail _ (.tail _ (.head _))))).1, rfl, rfl, rfl⟩, ?_⟩
     dsimp only [Shared.setGen]
     have hdl : @LT.lt Nat _ dq Lg := l1 _ (.head _)
     have hneq : ∀ q ∈ news, q.1 ≠ dq := by
      rename _ ∧ _ ∧ _ ∧ _ ∧ _ ∧ AllLt dq news => hA0
      exact fun q hq => Nat.ne_of_lt (allLt_mem' hA0.2.2.2.2.2 q hq)
     clear N6 N7 F6 F7 hG hL7 hnl hlow l1 hLG hd0
     rw [eL] at F10
     have hgr := F9.above
     clear F9 N9 hoL
     (repeat' first | ((with_reducible show TurnG ..); (refine stop_of ?_)) | fail "k1")
     unfold Stop
     rename Obj.SetObjOf (strKind _ _) _ _ _ => hset2
     rename News gq Lq _ _ => N11
     rename Fr gq Lq _ _ => F11
     exact ⟨0, by omega, .inr ⟨rfl, _, _, D, J, oD, oJ, oL, m', gs', _, _, rfl, F11, fun y h1 h2 => by simp only [if_neg h1, if_neg h2, eL], N11, ⟨⟨oL, es', ep, (N11 _ (.tail _ (.tail _ (.head _)))).1, hdL, hkL, hmL⟩, F11.keep, hgr⟩, hset2, o8, o9, fun s'' F'' N'' => hk9 s'' F'' N''⟩⟩
    ·intro s₁ pz8
     obtain ⟨h10, pu9⟩ := pz8
     cases h10
  · obtain ⟨hh, tkk, D, J, oD, oJ, oL, m', gs', so', mc, pz11⟩ := hQ
    rcases pz11 with ⟨rfl, pz12⟩
    obtain ⟨F12, hmc, N12, F13, hset2, o8, o9, hk9⟩ := pz12
    have em : mc = fun y => if y = Str.ofString "prefix" then mc (Str.ofString "prefix") else if y = Str.ofString "u" then mc (Str.ofString "u") else mL y := by
     funext y
     by_cases h1 : y = Str.ofString "prefix"
     ·rw [if_pos h1, h1]
     ·rw [if_neg h1]
      by_cases h2 : y = Str.ofString "u"
      ·rw [if_pos h2, h2]
      ·rw [if_neg h2]; exact hmc y h2 h1
    generalize mc (Str.ofString "prefix") = u1 at em
    generalize mc (Str.ofString "u") = u2 at em
    clear hmc
    subst em
    have hnl2 : hh.NoLimit := (Top.nolimit (by assumption : Top p loose mean mg mb gq)).keeps F12.keep
    have N13 : News gq Lg hh ((J, oJ) :: (D, oD) :: (aDecl, listOf decl n3) :: news) := fun q hq => by
     rcases List.mem_cons.mp hq with rfl | hq
     ·exact ⟨(N12 _ (.head _)).1, Nat.ne_of_gt (show @LT.lt Nat _ Lg J by omega), (N12 _ (.head _)).2.2⟩
     rcases List.mem_cons.mp hq with rfl | hq
     ·exact ⟨(N12 _ (.tail _ (.head _))).1, Nat.ne_of_gt o8, (N12 _ (.tail _ (.head _))).2.2⟩
     ·have hq' : q ∈ (J, oJ) :: (D, oD) :: (Lg, oL) :: (G, genO s.gens.size nm qn) :: (dq, so') :: (Dq, oq) :: (W, instObj 150 WD) :: (WD, dictOf (wEs w.params tkW aW aD aDecl aNs aMap aPres seen done ig) we) :: (aDecl, listOf decl n3) :: (tup, tupO #[.str xmlS t1, .str (Str.ofString "xml") t2]) :: news := by
       rcases List.mem_cons.mp hq with rfl | hq
       ·k_mem
       ·fail "my.mem"
      exact ⟨(N12 q hq').1, Nat.ne_of_lt (hd0 q hq), (N12 q hq').2.2⟩
    refine wpAny_pyNext_gen (g := s.gens.size) (n := 0) (gs := gs') (P := GP Lg) (Y := GY gq Lg tup ((aDecl, listOf decl n3) :: news)) rfl hnl2 (by first | ktr_room | k_room) ⟨_, nm, qn, (N12 _ (.tail _ (.tail _ (.tail _ (.head _))))).1, rfl, rfl, rfl⟩ (by simp) (hk9 _ F13 N13) ?_ ?_
    ·intro v s₁ gs2 pz13
     rcases pz13 with ⟨rfl, pz14⟩
     obtain ⟨D2, J2, oD2, oJ2, m2, hst2, hlow2, F2, N2, o2, o3, hk2⟩ := pz14
     exact (hk2 s₁ F2 N2).elim
    ·intro s₁ pz15
     obtain ⟨pu16, h12, tk12, pz17⟩ := pz15
     rcases pz17 with ⟨rfl, pz18⟩
     have hlow := pz18
     clear pz18
     intro h14 hsup
     have hgl : gq.objs.size ≤ Lq := F6.above
     have hlow' : ∀ b o, @LT.lt Nat _ b Lg → hh.get? b = some o → h14.get? b = some o := fun b o hb e => hsup b o (hlow b o hb e)
     have F14 := fr_below F12 l2 hlow'
     have hdl : @LT.lt Nat _ dq Lg := l1 _ (.head _)
     have N14 : News gq Lq h14 ((dq, so') :: (Dq, oq) :: (W, instObj 150 WD) :: (WD, dictOf (wEs w.params tkW aW aD aDecl aNs aMap aPres seen done ig) we) :: (aDecl, listOf decl n3) :: (tup, tupO #[.str xmlS t1, .str (Str.ofString "xml") t2]) :: news) := fun q hq => by
      have hq' := N12 q (.tail _ (.tail _ (.tail _ (.tail _ hq))))
      refine ⟨hlow' _ _ ?_ hq'.1, hq'.2⟩
      rcases List.mem_cons.mp hq with rfl | hq
      ·exact hdl
      ·exact l1 q (.tail _ hq)
     have hneq : ∀ q ∈ news, q.1 ≠ dq := by
      rename _ ∧ _ ∧ _ ∧ _ ∧ _ ∧ AllLt dq news => hA0
      exact fun q hq => Nat.ne_of_lt (allLt_mem' hA0.2.2.2.2.2 q hq)
     unfold NextG
     dsimp only [Shared.setGen]
     clear N6 N7 F6 F7 hG hL7 hnl l1 hd0 N12 F12 N13 F13 hlow hlow' hsup hk9
     rw [eL] at F14
     k_steps
     rename News h₀ L _ _ => N15
     rename _ ∧ _ ∧ _ ∧ _ ∧ _ ∧ _ ∧ AllLt _ news => hA0
     exact hret _ _ _ _ _ _ _ (by k_asm) (news_seven N15) (allLt_mem' hA0.2.2.2.2.2.2) (gens_fin _ _ _ _)
 fail "mk.b"
theorem qname_spec (hfill : PR = PR) (B : Below A₀ base outer h₀) (F : Fr h₀ L s.heap m) (X : (K0.heap_1 w.params).In h₀) (T : Top p loose mean mg mb h₀) (hk : cs.kind = .function) (hd : dp + 6 < recursionLimit) (hu : un + 60 < cLine)
  (W WD aW aD aDecl aNs aMap aPres e0 tup : Addr) (tk : Nat → Tok) (seen done : Bool) (ig : Tok) (news : List (Addr × Obj)) (we n3 k0 : Nat) (es : List Addr) (decl : Array Value) (x : Str) (t t1 t2 : Tok)
  (hx : x.length ≤ 100) (hb : ¬ (Str.ofString "{") = Txt.item x 0) (hes : es.length ≤ 10) (hdecl : decl = (Value.ref e0 :: es.map Value.ref).toArray)
  (N : News h₀ L s.heap news) (hW : (W, instObj 150 WD) ∈ news) (hWD : (WD, dictOf (wEs w.params tk aW aD aDecl aNs aMap aPres seen done ig) we) ∈ news) (hDe : (aDecl, listOf decl n3) ∈ news)
  (hE0 : (e0, listOf #[.ref tup] k0) ∈ news) (hTup : (tup, tupO #[.str xmlS t1, .str (Str.ofString "xml") t2]) ∈ news) (hEs : ∀ e ∈ es, ∃ k, (e, listOf #[] k) ∈ news)
  (hret : ∀ R h' tk' g' t1 t2 t3, Fr h₀ L h' m → News h₀ L h' ((R, tupO #[.str x t1, .str x t2, .str (Str.ofString "") t3]) :: news) → (∀ q ∈ news, q.1 < R) → (AllBare s.gens → AllBare g') → Q (.ref R) { s with heap := h', toks := tk', gens := g' }) :
  wpAny (model Challenge.rw_to0089_01.prog w) (ktrTop dp un gd cn cs L a ccd cl outer) (call (.ref 90) [.ref W, .str x t]) Q E s :=
 wpAny_call (qname_code hfill B F X T hk hd hu W WD aW aD aDecl aNs aMap aPres e0 tup tk seen done ig news we n3 k0 es decl x t t1 t2 hx hb hes hdecl N hW hWD hDe hE0 hTup hEs hret)
end
section
theorem end0_spec (hfill : PR = PR) (B : Below A₀ base outer h₀) (F : Fr h₀ L s.heap m) (X : (K0.heap_1 w.params).In h₀) (T : Top p loose mean mg mb h₀) (hk : cs.kind = .function) (hd : dp + 10 < recursionLimit) (hu : un + 100 < cLine)
   (W WD aW aD aP aDecl aNs aMap aPres e0 tup : Addr) (tk : Nat → Tok) (seen done : Bool) (ig : Tok) (rest : List (Addr × Obj)) (we n3 n4 n5 k0 dn pn : Nat) (es : List Addr) (x : Str) (t t1 t2 : Tok)
   (hx : x.length ≤ 100) (hb : ¬ (Str.ofString "{") = Txt.item x 0) (hes : es.length ≤ 10) (ps nss pres decl : Array Value) (eL : Addr) (nv pv : Value) (hdecl : decl.push (Value.ref eL) = (Value.ref e0 :: es.map Value.ref).toArray)
   (N : News h₀ L s.heap ((W, instObj 150 WD) :: (WD, dictOf (wEs w.params tk aW aD aDecl aNs aMap aPres seen done ig) we) :: (aD, listOf #[] dn) :: (aW, boundO "list.append" (.ref aP)) :: (aP, listOf ps pn) :: (aDecl, listOf (decl.push (.ref eL)) n3) :: (aNs, listOf (nss.push nv) n4) :: (aPres, listOf (pres.push pv) n5) :: rest))
   (hE0 : (e0, listOf #[.ref tup] k0) ∈ rest) (hTup : (tup, tupO #[.str xmlS t1, .str (Str.ofString "xml") t2]) ∈ rest) (hEs : ∀ e ∈ es, ∃ k, (e, listOf #[] k) ∈ rest)
   (hinc : Inc [aP, aW, WD, W, aD, aDecl, aNs, aPres]) (hap : Apart [aP, WD, aDecl, aNs, aPres] rest) (hps : ps.size ≤ 1000) (hnss : nss.size ≤ 1000) (hpres : pres.size ≤ 1000) (hde : decl.size ≤ 1000)
   (hret : ∀ h' tk' g' pn' n3' n4' n5' t', Fr h₀ L h' m → News h₀ L h' ((W, instObj 150 WD) :: (WD, dictOf (wEs w.params tk aW aD aDecl aNs aMap aPres seen (((pres.size : Nat) : Int) == 1) ig) we) :: (aD, listOf #[] dn) :: (aW, boundO "list.append" (.ref aP)) :: (aP, listOf (ps.push (.str (Str.empty ++ Str.ofString "</" ++ x ++ Str.ofString ">") t')) pn') :: (aDecl, listOf decl n3') :: (aNs, listOf nss n4') :: (aPres, listOf pres n5') :: rest) → (AllBare s.gens → AllBare g') → Q .none { s with heap := h', toks := tk', gens := g' })
   :
   wpAny (model Challenge.rw_to0089_01.prog w) (ktrTop dp un gd cn cs L a ccd cl outer) (call (.ref 133) [.ref W, .str x t]) Q E s := by
 fail "mk.a"
 case zl =>
  revert hfill B F X T hk hd hu hx hb hes hdecl N hE0 hTup hEs hinc hap hps hnss hpres hde hret
  revert w p loose mean mg mb dp un gd cn cs a ccd cl outer A₀ base h₀ L m s Q E W WD aW aD aP aDecl aNs aMap aPres e0 tup tk seen done ig rest we n3 n4 n5 k0 dn pn es x t t1 t2 ps nss pres decl eL nv pv
  intro w p loose mean mg mb dp un gd cn cs a ccd cl outer A₀ base h₀ L m s Q E W WD aW aD aP aDecl aNs aMap aPres e0 tup tk seen done ig rest we n3 n4 n5 k0 dn pn es x t t1 t2 ps nss pres decl eL nv pv hfill B F X T hk hd hu hx hb hes hdecl N hE0 hTup hEs hinc hap hps hnss hpres hde hret
  simp only [Inc, Apart, and_true] at hinc hap
  obtain ⟨i1, i2, i3, i4, i5, i6, i7⟩ := hinc
  obtain ⟨j1, j2, j3, j4, j5⟩ := hap
  revert X; k_fill; intro X; refine wpAny_call ?_; first | k_dflt (fail "my.enter") | fail
  (repeat' first | ((with_reducible show wpAny _ _ (call (Value.ref 90) _) _ _ _); k_dflt (refine' qname_spec rfl ?k1 ?k2 ?k3 ?k4 ?k5 ?k6 ?k7 _ _ _ _ _ _ _ _ _ _ _ _ _ _ _ _ _ _ _ _ _ _ _ _ ?hx ?hb ?hes ?hd ?hN ?hW ?hWD ?hDe ?hE ?hT ?hS ?_; (case k1 | k2 | k3 | k4 | hN => k_asm); (case hW | hWD | hDe => k_mem); (case k5 => rfl); (case k6 => first | ktr_room | k_room); (case k7 => ktr_units); (case hx | hb | hd | hes => assumption); (case hE | hT => fail "my.mem"); (case hS => fail "my.mems"); intro R' h' tk' g' t1' t2' t3' F' N' l1 hg'; (try k_lt l1))) | ((with_reducible show wpAny _ _ (setAttr (Value.ref _) _ _) _ _ _); k_dflt (refine' set_dict ?k1 ?k2 ?k3 ?k4 ?k5 ?k6 ?k7 ?k8 ?k9 ?k10 ?k11 ?k12 ?k13 ?_; (case k1 | k2 | k3 => k_asm); (case k4 => k_inst); (case k5 => exact rfl); (case k6 | k7 | k8 | k9 => k_is); (case k10 => exact rfl); (case k11 => first | with_reducible exact wEs_done | exact wEs_seen | exact wEs_done); (case k12 => k_upd); (case k13 => exact Nat.le_of_ble_eq_true rfl); intro h' F' N')) | (fail "g13"; k_dflt (refine' pop_push ?h0 ?hl ?hu ?hz ?_; (case h0 | hl => k_asm); (case hu => k_upd); (case hz => size_fits); intro h' F' N')) | (fail "g14"; k_dflt (refine' append_bound ?h0 ?hl ?hm ?hu ?hz ?_; (case h0 | hl => k_asm); (case hm => k_mem); (case hu => k_upd); (case hz => size_fits); intro h' F' N')) | ((with_reducible show And _ _); ((with_reducible show (Heap.get? _ _ = some (boundO _ _)) ∧ _); k_dflt (refine ⟨by first | exact News.get (by k_asm) (by k_mem) | exact Fr.keep (by k_asm) _ _ ((by assumption : Frag.In _ _) _ _ (by k_is)), ?_⟩); (try dsimp only [List.nil_append, List.cons_append]))) | (fail "g2"; k_dflt (refine' callWith_bound' ?h0 ?_; (case h0 => first | exact News.get (by k_asm) (by k_mem) | exact Fr.keep (by k_asm) _ _ ((by assumption : Frag.In _ _) _ _ (by k_is))))) | ((fail "g7"; dsimp only)) | ((with_reducible show wpAny _ _ (getMethod (Value.ref _) (Str.ofString "_write") _) _ _ _); k_dflt (refine' kmu_own ?k1 ?k2 ?k3 ?k4 ?k5 ?_; (case k1 | k2 => k_asm); (case k3 => k_inst); (case k4 | k5 => k_is); k_whole)) | fail "k1")
  exact hret _ _ _ _ _ _ _ _ (by k_asm) (by fail "my.news") (by assumption)
 fail "mk.b"
end
section
theorem end1_spec (hfill : PR = PR) (B : Below A₀ base outer h₀) (F : Fr h₀ L s.heap m) (X : (K0.heap_1 w.params).In h₀) (T : Top p loose mean mg mb h₀) (hk : cs.kind = .function) (hd : dp + 10 < recursionLimit) (hu : un + 100 < cLine)
   (W WD aW aD aP aDecl aNs aMap aPres e0 tup : Addr) (tk : Nat → Tok) (done : Bool) (ig : Tok) (rest : List (Addr × Obj)) (we n3 n4 n5 k0 dn pn : Nat) (es : List Addr) (x : Str) (t t1 t2 : Tok)
   (hx : x.length ≤ 100) (hb : ¬ (Str.ofString "{") = Txt.item x 0) (hes : es.length ≤ 10) (ds : Array Value) (ys : List Str) (ps nss pres decl : Array Value) (eL : Addr) (nv pv : Value) (hdecl : decl.push (Value.ref eL) = (Value.ref e0 :: es.map Value.ref).toArray)
   (N : News h₀ L s.heap ((W, instObj 150 WD) :: (WD, dictOf (wEs w.params tk aW aD aDecl aNs aMap aPres true done ig) we) :: (aD, listOf ds dn) :: (aW, boundO "list.append" (.ref aP)) :: (aP, listOf ps pn) :: (aDecl, listOf (decl.push (.ref eL)) n3) :: (aNs, listOf (nss.push nv) n4) :: (aPres, listOf (pres.push pv) n5) :: rest))
   (hE0 : (e0, listOf #[.ref tup] k0) ∈ rest) (hTup : (tup, tupO #[.str xmlS t1, .str (Str.ofString "xml") t2]) ∈ rest) (hEs : ∀ e ∈ es, ∃ k, (e, listOf #[] k) ∈ rest)
   (hds : StrsAre ds.toList ys) (hok : JoinOk (Str.ofString "") ys = true) (hy : (Txt.join (Str.ofString "") ys).length ≤ 100) (hy0 : 0 < (Txt.join (Str.ofString "") ys).length) (hsz : ds.size ≤ 1000) (hpos : 0 < ds.size) (ht : 0 < s.toks)
   (hinc : Inc [aP, aW, WD, W, aD, aDecl, aNs, aPres]) (hap : Apart [aD, aP, WD, aDecl, aNs, aPres] rest) (hps : ps.size ≤ 900) (hnss : nss.size ≤ 1000) (hpres : pres.size ≤ 1000) (hde : decl.size ≤ 1000)
   (hret : ∀ h' tk' g' dn' pn' n3' n4' n5' t' t2', Fr h₀ L h' m → News h₀ L h' ((W, instObj 150 WD) :: (WD, dictOf (wEs w.params tk aW aD aDecl aNs aMap aPres true (((pres.size : Nat) : Int) == 1) ig) we) :: (aD, listOf #[] dn') :: (aW, boundO "list.append" (.ref aP)) :: (aP, listOf ((ps.push (.str (escS (Txt.join (Str.ofString "") ys)) t2')).push (.str (Str.empty ++ Str.ofString "</" ++ x ++ Str.ofString ">") t')) pn') :: (aDecl, listOf decl n3') :: (aNs, listOf nss n4') :: (aPres, listOf pres n5') :: rest) → (AllBare s.gens → AllBare g') → Q .none { s with heap := h', toks := tk', gens := g' })
   :
   wpAny (model Challenge.rw_to0089_01.prog w) (ktrTop dp un gd cn cs L a ccd cl outer) (call (.ref 133) [.ref W, .str x t]) Q E s := by
 fail "mk.a"
 case zl =>
  revert hfill B F X T hk hd hu hx hb hes hdecl N hE0 hTup hEs hds hok hy hy0 hsz hpos ht hinc hap hps hnss hpres hde hret
  revert w p loose mean mg mb dp un gd cn cs a ccd cl outer A₀ base h₀ L m s Q E W WD aW aD aP aDecl aNs aMap aPres e0 tup tk done ig rest we n3 n4 n5 k0 dn pn es x t t1 t2 ds ys ps nss pres decl eL nv pv
  intro w p loose mean mg mb dp un gd cn cs a ccd cl outer A₀ base h₀ L m s Q E W WD aW aD aP aDecl aNs aMap aPres e0 tup tk done ig rest we n3 n4 n5 k0 dn pn es x t t1 t2 ds ys ps nss pres decl eL nv pv hfill B F X T hk hd hu hx hb hes hdecl N hE0 hTup hEs hds hok hy hy0 hsz hpos ht hinc hap hps hnss hpres hde hret
  simp only [Inc, Apart, and_true] at hinc hap
  obtain ⟨i1, i2, i3, i4, i5, i6, i7⟩ := hinc
  obtain ⟨j0, j1, j2, j3, j4, j5⟩ := hap
  revert X; k_fill; intro X; refine wpAny_call ?_; first | k_dflt (fail "my.enter") | fail
  have hsz2 : ps.size ≤ 1000 := by omega
  (repeat' first | (fail "g19"; ((with_reducible show _ ≤ _ → _); intro hto; (try dsimp only at hto))) | (fail "g0"; (with_reducible refine toks_gen (by omega) ?_); intro tk htk) | (fail "g0"; refine toks_cons ?_) | ((with_reducible show wpAny _ _ (truthy (Value.ref _)) _ _ _); k_dflt (refine' truthy_pos ?hl ?hp ?hz ?_; (case hl => is_list); (case hp | hz => assumption))) | ((with_reducible show wpAny _ _ (call (Value.ref 106) _) _ _ _); k_dflt (refine' flush_spec rfl ?k1 ?k2 ?k3 ?k4 ?k5 ?k6 ?k7 _ _ _ _ _ _ _ _ _ _ _ _ _ _ _ _ _ _ _ ?hds ?hok ?hy ?hy0 ?hN ?hsz ?hpos ?hsz2 ?hinc ?hap ?ht ?_; (case k1 | k2 | k3 | k4 | hN => k_asm); (case k5 => rfl); (case k6 => first | ktr_room | k_room); (case k7 => ktr_units); (case hds | hok | hy | hy0 | hsz | hpos | hsz2 => assumption); (case hinc => fail "my.inc"); (case hap => fail "my.apart"); (case ht => first | exact Nat.succ_pos _ | assumption | ((dsimp only); omega)); intro h' tk' dn' pn' t' F' N')) | ((with_reducible show wpAny _ _ (call (Value.ref 90) _) _ _ _); k_dflt (refine' qname_spec rfl ?k1 ?k2 ?k3 ?k4 ?k5 ?k6 ?k7 _ _ _ _ _ _ _ _ _ _ _ _ _ _ _ _ _ _ _ _ _ _ _ _ ?hx ?hb ?hes ?hd ?hN ?hW ?hWD ?hDe ?hE ?hT ?hS ?_; (case k1 | k2 | k3 | k4 | hN => k_asm); (case hW | hWD | hDe => k_mem); (case k5 => rfl); (case k6 => first | ktr_room | k_room); (case k7 => ktr_units); (case hx | hb | hd | hes => assumption); (case hE | hT => fail "my.mem"); (case hS => fail "my.mems"); intro R' h' tk' g' t1' t2' t3' F' N' l1 hg'; (try k_lt l1))) | ((with_reducible show wpAny _ _ (setAttr (Value.ref _) _ _) _ _ _); k_dflt (refine' set_dict ?k1 ?k2 ?k3 ?k4 ?k5 ?k6 ?k7 ?k8 ?k9 ?k10 ?k11 ?k12 ?k13 ?_; (case k1 | k2 | k3 => k_asm); (case k4 => k_inst); (case k5 => exact rfl); (case k6 | k7 | k8 | k9 => k_is); (case k10 => exact rfl); (case k11 => first | with_reducible exact wEs_done | exact wEs_seen | exact wEs_done); (case k12 => k_upd); (case k13 => exact Nat.le_of_ble_eq_true rfl); intro h' F' N')) | (fail "g13"; k_dflt (refine' pop_push ?h0 ?hl ?hu ?hz ?_; (case h0 | hl => k_asm); (case hu => k_upd); (case hz => size_fits); intro h' F' N')) | (fail "g14"; k_dflt (refine' append_bound ?h0 ?hl ?hm ?hu ?hz ?_; (case h0 | hl => k_asm); (case hm => k_mem); (case hu => k_upd); (case hz => size_fits); intro h' F' N')) | ((with_reducible show And _ _); ((with_reducible show (Heap.get? _ _ = some (boundO _ _)) ∧ _); k_dflt (refine ⟨by first | exact News.get (by k_asm) (by k_mem) | exact Fr.keep (by k_asm) _ _ ((by assumption : Frag.In _ _) _ _ (by k_is)), ?_⟩); (try dsimp only [List.nil_append, List.cons_append]))) | (fail "g2"; k_dflt (refine' callWith_bound' ?h0 ?_; (case h0 => first | exact News.get (by k_asm) (by k_mem) | exact Fr.keep (by k_asm) _ _ ((by assumption : Frag.In _ _) _ _ (by k_is))))) | ((fail "g7"; dsimp only)) | ((with_reducible show wpAny _ _ (getMethod (Value.ref _) (Str.ofString "_write") _) _ _ _); k_dflt (refine' kmu_own ?k1 ?k2 ?k3 ?k4 ?k5 ?_; (case k1 | k2 => k_asm); (case k3 => k_inst); (case k4 | k5 => k_is); k_whole)) | fail "k1")
  exact hret _ _ _ _ _ _ _ _ _ _ (by k_asm) (by fail "my.news") (by assumption)
 fail "mk.b"
end
section
noncomputable abbrev set0 (led : Bool) : Obj := { cls := .type "set", dict := none, data := .set #[] 0 (.fresh 0 0 led) }
noncomputable abbrev tbl1 (led : Bool) (h : Int) : SetTable := { mask := 7, place := #[SetTable.bits h % 8], dummies := #[], finger := 0, led, moves := 0, plain := false }
noncomputable abbrev set1 (led : Bool) (h : Int) (v : Value) (n : Nat) : Obj := { cls := .type "set", dict := none, data := .set #[(h, v)] n (tbl1 led h) }
theorem layNew_first (led : Bool) (h : Int) (v : Value) : layNew (.fresh 0 0 led) #[] h v = (#[(h, v)], { mask := 7, place := #[SetTable.bits h % 8], dummies := #[], finger := 0, led, moves := 0, plain := true }, false, false) := by rfl
theorem add_first {prog : Program} {w : World} {A : Around} {E : Value → Shared → Prop} {s : Shared} {D : Addr} {led : Bool} {x : Str} {t : Tok} {Q : Bool → Shared → Prop} (ho : s.heap.get? D = some (set0 led))
   (h : ∀ h' n, h'.get? D = some (set1 led ((strKind prog w).hash x) (.str x t) n) → Heap.SameBut D s.heap h' → Q true { s with heap := h', toks := s.toks + 1 }) :
   wpAny (model prog w) A (setAdd D (.str x t)) Q E s := by
 fail "mk.a"
 case zl =>
  revert ho h
  revert prog w A E s D led x t Q
  intro prog w A E s D led x t Q ho h
  unfold setAdd
  refine wpAny_holding ?_
  refine wpAny_bind ((strKind prog w).pyHash (k := x) (strKind_is _ _ _ _) ?_)
  unfold setAddHashed setAddHashedIn
  have hs : ∀ {Q' : (Array (Int × Value) × Nat × SetTable) → Shared → Prop}, Q' (#[], 0, .fresh 0 0 led) { s with toks := s.toks + 1 } → wpAny (model prog w) A (setState D) Q' E { s with toks := s.toks + 1 } := by
    intro Q' hq
    unfold setState
    refine wpAny_bind (wpAny_load ho ?_)
    dsimp only
    exact wpAny_pure hq
  refine wpAny_holding (wpAny_bind (hs ?_))
  dsimp only
  rw [show byScan (.str x t) #[] = true by show (true && decide ((0 : Nat) < 4096) && _) = true; simp]
  simp only [↓reduceIte]
  unfold setAddByScan
  refine wpAny_bind ?_
  refine wpAny_bind (wpAny_rule ?_)
  refine wpAny_bind (m := setScan D (.str x t) _ true #[]) ?_
  refine wpAny_of_eq (a := .absent) (by simp [setScan, setScanStrs]) ?_
  dsimp only
  rw [layNew_first]
  dsimp only
  refine wpAny_bind (wpAny_pure (a := ()) ?_)
  rw [if_pos rfl]
  refine wpAny_bind (wpAny_of_eq (a := false) rfl ?_)
  rw [if_neg (by exact Bool.false_ne_true)]
  refine wpAny_bind (wpAny_storeSet_of (s := { s with toks := s.toks + 1 }) ho rfl ?_ (by show (1 : Nat) ≤ sizeLine; decide))
  rw [if_neg (show ¬ ((!false && (tbl1 led _).tooFull) = true) from Bool.false_ne_true)]
  refine wpAny_pure (wpAny_pure ?_)
  have e2 : ∃ n, Obj.putSet #[((strKind prog w).hash x, Value.str x t)] (tbl1 led ((strKind prog w).hash x)) (set0 led) = set1 led ((strKind prog w).hash x) (.str x t) n := ⟨_, rfl⟩
  obtain ⟨n, e2⟩ := e2
  refine h _ n ?_ (Heap.SameBut.update ..)
  rw [Heap.get?_update_self _ ho (by rw [e2]; rfl), e2]
 fail "mk.b"
theorem room1 (led : Bool) (h : Int) : (tbl1 led h).roomFor 0 = none := by rfl
end
section
open PySem.Spec in
noncomputable abbrev dict1 (P : Params) (x : Str) (t : Tok) (v : Value) (n : Nat) : Obj := dictOf [⟨PyData.keyHash P x, .str x t, v⟩] n
inductive DEnd (P : Params) (h₀ : Heap) (L : Addr) (m : Str → Option Value) (y : Str) (Q : Flow → Shared → Prop) (s₁ : Shared) (ax : Addr) (v : Value) (k : Nat) (I : Addr) (oI : Obj) (C : Addr) (oC : Obj) (D : Addr) (kv vv : Value) (s₂ : Shared) : Prop
 | mk (x' : Str) (t' : Tok) (h' : Heap) (tk : Nat) (g : Array GenState) (news : List (Addr × Obj)) (h : kv = .str x' t' ∧ s₂ = { s₁ with heap := h', toks := tk, gens := g } ∧ Fr h₀ L h' m ∧ News h₀ L h' ((I, oI) :: (C, oC) :: (D, dictOf [] 0) :: news) ∧ (∀ q ∈ news, q.1 ≠ I ∧ q.1 ≠ C ∧ q.1 ≠ D) ∧ (ax, listOf #[v] k) ∈ news ∧
  ∀ h'' tk' n, Fr h₀ L h'' (fun z => if z = y then some (.ref D) else m z) → News h₀ L h'' ((D, dict1 P x' t' vv n) :: news) → Q .next { s₁ with heap := h'', toks := tk', gens := g }) : DEnd P h₀ L m y Q s₁ ax v k I oI C oC D kv vv s₂
open LCg in
inductive DIter (w : World) (A : Around) (h₀ : Heap) (L : Addr) (m : Str → Option Value) (env : Env) (kx vx : PySem.Expr) (x y : Str) (scope : Scope) (cl : List (Str × Addr)) (Q : Flow → Shared → Prop) (xv : Value) (s' : Shared) : Prop
 | mk (ax : Addr) (v : Value) (k : Nat) (news : List (Addr × Obj)) (h : xv = .ref ax ∧ Fr h₀ L s'.heap m ∧ News h₀ L s'.heap news ∧ (ax, listOf #[v] k) ∈ news ∧
  ∀ I oI C oC D m₂ h' tk (E' : Value → Shared → Prop), NsObj oC m₂ → m₂ x = some v → Fr h₀ L h' m → News h₀ L h' ((I, oI) :: (C, oC) :: (D, dictOf [] 0) :: news) → (∀ q ∈ news, q.1 < I) → (@LT.lt Nat _ I D ∧ @LT.lt Nat _ D C) →
   wpAny (model Challenge.rw_to0089_01.prog w) A (eval kx (compEnvC scope cl C env)) (fun kv s2 => wpAny (model Challenge.rw_to0089_01.prog w) A (eval vx (compEnvC scope cl C env)) (fun vv s3 => DEnd w.params h₀ L m y Q s' ax v k I oI C oC D kv vv s3) E' s2) E' { s' with heap := h', toks := tk }) : DIter w A h₀ L m env kx vx x y scope cl Q xv s'
open LCg in
theorem DIter.intro {w : World} {A : Around} {h₀ : Heap} {L : Addr} {m : Str → Option Value} {env : Env} {kx vx : PySem.Expr} {x y : Str} {scope : Scope} {cl : List (Str × Addr)} {Q : Flow → Shared → Prop} {s' : Shared} {ax : Addr} {v : Value} {k : Nat} {news : List (Addr × Obj)}
 (F : Fr h₀ L s'.heap m) (N : News h₀ L s'.heap news) (hm : (ax, listOf #[v] k) ∈ news)
 (R : ∀ I oI C oC D m₂ h' tk (E' : Value → Shared → Prop), NsObj oC m₂ → m₂ x = some v → Fr h₀ L h' m → News h₀ L h' ((I, oI) :: (C, oC) :: (D, dictOf [] 0) :: news) → (∀ q ∈ news, q.1 < I) → (@LT.lt Nat _ I D ∧ @LT.lt Nat _ D C) →
  wpAny (model Challenge.rw_to0089_01.prog w) A (eval kx (compEnvC scope cl C env)) (fun kv s2 => wpAny (model Challenge.rw_to0089_01.prog w) A (eval vx (compEnvC scope cl C env)) (fun vv s3 => DEnd w.params h₀ L m y Q s' ax v k I oI C oC D kv vv s3) E' s2) E' { s' with heap := h', toks := tk }) :
 DIter w A h₀ L m env kx vx x y scope cl Q (.ref ax) s' := ⟨ax, v, k, news, rfl, F, N, hm, R⟩
theorem DEnd.intro {P : Params} {h₀ : Heap} {L : Addr} {m : Str → Option Value} {y : Str} {Q : Flow → Shared → Prop} {s₁ : Shared} {ax : Addr} {v : Value} {k : Nat} {I : Addr} {oI : Obj} {C : Addr} {oC : Obj} {D : Addr} {x' : Str} {t' : Tok} {vv : Value} {h' : Heap} {tk : Nat} {g : Array GenState} {news : List (Addr × Obj)}
 (F : Fr h₀ L h' m) (N : News h₀ L h' ((I, oI) :: (C, oC) :: (D, dictOf [] 0) :: news)) (off : ∀ q ∈ news, q.1 ≠ I ∧ q.1 ≠ C ∧ q.1 ≠ D) (hm : (ax, listOf #[v] k) ∈ news)
 (h : ∀ h'' tk' n, Fr h₀ L h'' (fun z => if z = y then some (.ref D) else m z) → News h₀ L h'' ((D, dict1 P x' t' vv n) :: news) → Q .next { s₁ with heap := h'', toks := tk', gens := g }) :
 DEnd P h₀ L m y Q s₁ ax v k I oI C oC D (.str x' t') vv { s₁ with heap := h', toks := tk, gens := g } := ⟨x', t', h', tk, g, news, rfl, rfl, F, N, off, hm, h⟩
theorem DEnd.intro1 {P : Params} {h₀ : Heap} {L : Addr} {m : Str → Option Value} {y : Str} {Q : Flow → Shared → Prop} {s₁ : Shared} {ax : Addr} {v : Value} {k : Nat} {I : Addr} {oI : Obj} {C : Addr} {oC : Obj} {D : Addr} {x' : Str} {t' : Tok} {vv : Value} {h' : Heap} {tk : Nat} {g : Array GenState} {news : List (Addr × Obj)} {R : Addr} {oR : Obj}
   (F : Fr h₀ L h' m) (N : News h₀ L h' ((R, oR) :: (I, oI) :: (C, oC) :: (D, dictOf [] 0) :: news)) (off : ∀ q ∈ news, q.1 < I) (hID : @LT.lt Nat _ I D) (hDC : @LT.lt Nat _ D C) (hCR : @LT.lt Nat _ C R) (hm : (ax, listOf #[v] k) ∈ news)
   (h : ∀ h'' tk' n, Fr h₀ L h'' (fun z => if z = y then some (.ref D) else m z) → News h₀ L h'' ((D, dict1 P x' t' vv n) :: (R, oR) :: news) → (∀ q ∈ news, q.1 < D) → (∀ q ∈ news, q.1 < R) → @LT.lt Nat _ D R → Q .next { s₁ with heap := h'', toks := tk', gens := g }) :
   DEnd P h₀ L m y Q s₁ ax v k I oI C oC D (.str x' t') vv { s₁ with heap := h', toks := tk, gens := g } := by
 fail "mk.a"
 case zl =>
  revert F N off hID hDC hCR hm h
  revert P h₀ L m y Q s₁ ax v k I oI C oC D x' t' vv h' tk g news R oR
  intro P h₀ L m y Q s₁ ax v k I oI C oC D x' t' vv h' tk g news R oR F N off hID hDC hCR hm h
  have a1 : @LT.lt Nat _ I C := Nat.lt_trans hID hDC
  have a2 : @LT.lt Nat _ D R := Nat.lt_trans hDC hCR
  have a3 : @LT.lt Nat _ I R := Nat.lt_trans hID a2
  refine DEnd.intro (news := (R, oR) :: news) F (fun q hq => ?_) (fun q hq => ?_) (.tail _ hm) fun h'' tk' n F' N' => h h'' tk' n F' N' (fun q hq => Nat.lt_trans (off q hq) hID) (fun q hq => Nat.lt_trans (off q hq) a3) a2
  injections q hq
  injections q hq
  · refine N q ?_
    rcases List.mem_cons.mp hq with rfl | hq
    ·exact .tail _ (.head _)
    rcases List.mem_cons.mp hq with rfl | hq
    ·exact .tail _ (.tail _ (.head _))
    rcases List.mem_cons.mp hq with rfl | hq
    ·exact .tail _ (.tail _ (.tail _ (.head _)))
    rcases List.mem_cons.mp hq with rfl | hq
    ·exact .head _
    ·exact .tail _ (.tail _ (.tail _ (.tail _ hq)))
  · rcases List.mem_cons.mp hq with rfl | hq
    ·exact ⟨Nat.ne_of_gt a3, Nat.ne_of_gt hCR, Nat.ne_of_gt a2⟩
    ·have := off q hq
     exact ⟨Nat.ne_of_lt this, Nat.ne_of_lt (Nat.lt_trans this a1), Nat.ne_of_lt (Nat.lt_trans this hID)⟩
 fail "mk.b"
theorem dset_first {prog : Program} {w : World} {A : Around} {E : Value → Shared → Prop} {s : Shared} {D : Addr} {x : Str} {t : Tok} {v : Value} {k : Nat} {Q : Unit → Shared → Prop} (ho : s.heap.get? D = some (dictOf [] k))
   (h : ∀ h', h'.get? D = some (dict1 w.params x t v (k + 1)) → Heap.SameBut D s.heap h' → Q () { s with heap := h', toks := s.toks + 1 }) :
   wpAny (model prog w) A (dictSet D (.str x t) v) Q E s := by
 fail "mk.a"
 case zl =>
  revert ho h
  revert prog w A E s D x t v k Q
  intro prog w A E s D x t v k Q ho h
  unfold dictSet
  refine wpAny_holding ?_
  refine wpAny_bind ((strKind prog w).pyHash (k := x) (strKind_is _ _ _ _) ?_)
  unfold dictSetHashed
  refine wpAny_holding ?_
  refine wpAny_bind (m := dictFind D _ _) ?_
  unfold dictFind
  refine wpAny_holding (wpAny_bind (wpAny_dictEntries (s := { s with toks := s.toks + 1 }) ho rfl ?_))
  dsimp only
  rw [if_pos (by simp)]
  refine wpAny_of_eq (a := none) (by simp [foundByValue]) ?_
  refine wpAny_bind (wpAny_rule ?_)
  refine wpAny_updateDictKeys (hz := by show (0 : Nat) ≤ _; exact Nat.zero_le _) (s := { s with toks := s.toks + 1 }) ho rfl ?_
  have e2 : ∀ (f : Array DictEntry → Array DictEntry), f #[] = #[⟨PyData.keyHash w.params x, .str x t, v⟩] → Obj.mapDictKeys f (dictOf [] k) = dict1 w.params x t v (k + 1) := by
    intro f e
    simp [Obj.mapDictKeys, e]
  refine h _ ?_ (Heap.SameBut.update ..)
  rw [Heap.get?_update_self _ ho (by rw [e2 _ (by rfl)]; rfl), e2 _ (by rfl)]
 fail "mk.b"
open LCg in
theorem dcomp_one {w : World} {A : Around} {E : Value → Shared → Prop} {s : Shared} {h₀ : Heap} {L : Addr} {m : Str → Option Value} {env : Env} {kx vx iter : PySem.Expr} {x y : Str} {px py : Pos} {scope : Scope} {cl : List (Str × Addr)} {pos spos : Pos} {Q : Flow → Shared → Prop} (_F₀ : Fr h₀ L s.heap m)
   (hLe : env.locals = L)
   (hsw : swapsWith (.DictComp kx vx [⟨.Name x px, iter, [], 0⟩] scope pos) (some (.Name y py)) spos.line env = pure true)
   (hclos : closureFor scope env = pure cl) (hcell : ∀ z ∈ scope.names, z.2 ≠ .cell) (hkind : scope.kind = .function)
   (hnames : ∀ z ∈ scope.names, z.2 = .local → scope.names.lookup z.1 = some .local) (hx : scope.names.lookup x = some .local)
   (hy : env.kindOf y = some .local) (hp : (env.scope.kind == .class || (env.scope.kind == .module && env.locals != env.globals)) = false)
   (hh : A.handled = none)
   (h : wpAny (model Challenge.rw_to0089_01.prog w) A (eval iter env) (DIter w A h₀ L m env kx vx x y scope cl Q) E s)
   (hs : ∀ x, foldedSetIterable iter env x = pure x := by intros _; rfl) :
   wpAny (model Challenge.rw_to0089_01.prog w) A (exec (.Assign [.Name y py] (.DictComp kx vx [⟨.Name x px, iter, [], 0⟩] scope pos) spos) env) Q E s := by
 fail "mk.a"
 case zl =>
  revert _F₀ hLe hsw hclos hcell hkind hnames hx hy hp hh h hs
  revert w A E s h₀ L m env kx vx iter x y px py scope cl pos spos Q
  intro w A E s h₀ L m env kx vx iter x y px py scope cl pos spos Q _F₀ hLe hsw hclos hcell hkind hnames hx hy hp hh h hs
  subst hLe
  rw [exec_Assign_Name_used _ _ _ _ hsw]
  refine wpAny_bind (wpAny_standAt (wpAny_bind ?_))
  show wpAny _ A (do let _ ← comprehension (.DictComp kx vx [⟨.Name x px, iter, [], 0⟩] scope pos) scope env _ newDict false (eval iter env) (some (assign (.Name y py) env))) _ _ s
  refine wpAny_bind (wpAny_mono (wpAny_comprehension_free (use := some (assign (.Name y py) env)) (Q := fun _ s' => Q .next s') rfl hs hclos hkind hnames
    (wpAny_mono h (fun xv s₁ h₁ => ?_) fun _ _ e => e)) (fun _ s' hq => wpAny_pure (wpAny_pure hq)) fun _ _ e => e)
  injections xv s₁ h₁
  obtain ⟨ax, v, k, news, pz2⟩ := h₁
  rcases pz2 with ⟨rfl, pz3⟩
  obtain ⟨F, N, hm, R⟩ := pz3
  have hl : s₁.heap.IsList ax #[v] := ⟨_, (N _ hm).1, rfl, _, rfl⟩
  refine wpAny_pyIter_list hl ?_
  have hlt : ax < s₁.heap.objs.size := Heap.lt_size (N _ hm).1
  have hIn : ∀ q ∈ news, q.1 < s₁.heap.objs.size := fun q hq => Heap.lt_size (N q hq).1
  have hLlt : env.locals < s₁.heap.objs.size := F.ns.lt
  have h₀n : ∀ b, s₁.heap.objs.size ≤ b → h₀.get? b = none := fun b hb => by
    cases e : h₀.get? b with
    | none => rfl
    | some o => exact absurd (Heap.lt_size (F.keep b o e)) (Nat.not_lt.mpr hb)
  generalize hI : s₁.heap.objs.size = I at hlt hIn hLlt h₀n
  have F1 := F.push { cls := .type "list_iterator", data := .fields #[.ref ax, .int 0 0] }
  have N1 := News.pushKeep N { cls := .type "list_iterator", data := .fields #[.ref ax, .int 0 0] }
  have hst : (s₁.heap.push { cls := .type "list_iterator", data := .fields #[.ref ax, .int 0 0] }).IsListIter I ax 0 ∧ (s₁.heap.push { cls := .type "list_iterator", data := .fields #[.ref ax, .int 0 0] }).IsList ax #[v] := ⟨⟨_, hI ▸ Heap.get?_push_size _ rfl, rfl, rfl⟩, hl.push _⟩
  have hD : (s₁.heap.push { cls := .type "list_iterator", data := .fields #[.ref ax, .int 0 0] }).objs.size = I + 1 := by rw [Heap.size_push, hI]
  generalize s₁.heap.push { cls := .type "list_iterator", data := .fields #[.ref ax, .int 0 0] } = H1 at F1 N1 hst hD ⊢
  have W := Walks.list (prog := Challenge.rw_to0089_01.prog) (w := w) (A := A) hh I ax (Nat.ne_of_lt hlt) #[v]
  refine wpAny_newObj_type (wpAny_newFunctionEnv hcell (by intro y hy; simp at hy) (fun h₁ hns₁ hsb₁ => ?_) hkind)
  injections h₁ hns₁ hsb₁
  dsimp only at hns₁ hsb₁ ⊢
  have hCz : (H1.push { cls := .type "dict", dict := none, data := .dict #[] }).objs.size = I + 2 := by rw [Heap.size_push, hD]
  rw [hCz] at hns₁ hsb₁ ⊢
  rw [hD]
  have hDo : (H1.push { cls := .type "dict", dict := none, data := .dict #[] }).get? (I + 1) = some (dictOf [] 0) := hD ▸ Heap.get?_push_size _ rfl
  have F2 := F1.push { cls := .type "dict", dict := none, data := .dict #[] }
  have N2 := News.pushKeep N1 { cls := .type "dict", dict := none, data := .dict #[] }
  have hst2 : (H1.push { cls := .type "dict", dict := none, data := .dict #[] }).IsListIter I ax 0 ∧ (H1.push { cls := .type "dict", dict := none, data := .dict #[] }).IsList ax #[v] := W.frame _ _ _ hst fun b _ o e => Heap.get?_push_of_some _ e
  generalize H1.push { cls := .type "dict", dict := none, data := .dict #[] } = H2 at hsb₁ hCz hDo F2 N2 hst2
  have old : ∀ b o, b ≠ I + 2 → H2.get? b = some o → h₁.get? b = some o := fun b o hb e => hsb₁.extBut b o hb (Heap.get?_push_of_some _ e)
  have hCI : I ≠ I + 2 := by omega
  have hDo1 := old _ _ (by omega) hDo
  have F3 : Fr h₀ env.locals h₁ m := ⟨F2.ns.at' fun o e => old _ o (Nat.ne_of_lt (Nat.lt_of_lt_of_le hLlt (Nat.le_add_right _ _))) e, fun b o e => old b o (fun q => by rw [q, h₀n _ (by omega)] at e; cases e) (F2.keep b o e), F2.above⟩
  have N3 : News h₀ env.locals h₁ news := fun q hq => ⟨old _ _ (Nat.ne_of_lt (Nat.lt_of_lt_of_le (hIn q hq) (Nat.le_add_right _ _))) (N2 q hq).1, (N2 q hq).2⟩
  have hst3 : h₁.IsListIter I ax 0 ∧ h₁.IsList ax #[v] := W.frame _ _ _ hst2 fun b hb o e => old b o (by rcases List.mem_cons.mp hb with rfl | hb; omega; rw [List.mem_singleton.mp hb]; exact Nat.ne_of_lt (Nat.lt_of_lt_of_le hlt (Nat.le_add_right _ _))) e
  have loop : codeAny (model Challenge.rw_to0089_01.prog w) A (.compLoop (.DictComp kx vx [⟨.Name x px, iter, [], 0⟩] scope pos) 0 (.ref I) (.ref (I + 1)) (compEnvC scope cl (I + 2) env))
     (compPost (model Challenge.rw_to0089_01.prog w) A E (some (assign (.Name y py) env)) (fun _ s' => Q .next s') (.ref (I + 1)) (I + 2)) { s₁ with heap := h₁ } := by
    refine codeAny_compLoop_testsD (fun n s' => (n = 2 ∧ s' = { s₁ with heap := h₁ }) ∨ (n = 1 ∧ ∃ x' t' vv h' tk g news' oI oC n' m', s' = { s₁ with heap := h', toks := tk, gens := g } ∧ h'.IsListIter I ax 1 ∧ Fr h₀ env.locals h' m ∧ NsObj oC m' ∧
     News h₀ env.locals h' ((I, oI) :: (I + 2, oC) :: (I + 1, dict1 w.params x' t' vv n') :: news') ∧ (∀ q ∈ news', q.1 ≠ I ∧ q.1 ≠ I + 2 ∧ q.1 ≠ I + 1) ∧ (ax, listOf #[v] k) ∈ news' ∧
     ∀ h'' tk' n, Fr h₀ env.locals h'' (fun z => if z = y then some (.ref (I + 1)) else m z) → News h₀ env.locals h'' ((I + 1, dict1 w.params x' t' vv n) :: news') → Q .next { s₁ with heap := h'', toks := tk', gens := g })) ?_ 2 (.inl ⟨rfl, rfl⟩)
    intro n s' pz4
    rcases pz4 with ⟨rfl, rfl⟩ | ⟨rfl, x', t', vv, h', tk, g, news', oI, oC, n', m', rfl, hit, F', hoC, N', off', hm', fin⟩
    ·refine W.item 0 _ _ _ (by show (0 : Nat) < 1; decide) hst3 fun v' h₂ tk₂ hPv hst₂ hk₂ => ?_
     injections v' h₂ tk₂ hPv hst₂ hk₂
     obtain rfl : v = v' := by simpa using hPv
     refine wpAny_assign_Name (wpAny_storeName_local (lookup_relabel_local hx) (hns₁.at' fun o e => hk₂ _ o (by simp) e) (fun h₃ hn₃ hs₃ => ?_) (by simp [compEnvC, relabel, hkind]))
     injections h₃ hn₃ hs₃
     refine wpAny_tests_nil ?_
     simp only [if_true]
     have hst₃ := W.frame 1 h₂ h₃ hst₂ fun b hb o e => hs₃.extBut b o (by rcases List.mem_cons.mp hb with rfl | hb; exact hCI; rw [List.mem_singleton.mp hb]; exact Nat.ne_of_lt (Nat.lt_of_lt_of_le hlt (Nat.le_add_right _ _))) e
     rcases hst₃ with ⟨pz7, pz6⟩
     obtain ⟨oI, heI, hcI, hdI⟩ := pz7
     obtain ⟨oC, heC, hoC⟩ := ns_obj hn₃
     have hI₀ : h₀.get? I = none := h₀n _ (Nat.le_refl _)
     have hD₀ : h₀.get? (I + 1) = none := h₀n _ (Nat.le_add_right _ _)
     have hC₀ : h₀.get? (I + 2) = none := h₀n _ (Nat.le_add_right _ _)
     have hLI : env.locals ≠ I := Nat.ne_of_lt hLlt
     have hLD : env.locals ≠ I + 1 := Nat.ne_of_lt (Nat.lt_of_lt_of_le hLlt (Nat.le_add_right _ _))
     have hLC : env.locals ≠ I + 2 := Nat.ne_of_lt (Nat.lt_of_lt_of_le hLlt (Nat.le_add_right _ _))
     have F₄ : Fr h₀ env.locals h₃ m := (fr_but F3 hk₂ hLI hI₀).change hs₃ (Ne.symm hLC) hC₀
     have N₄ : News h₀ env.locals h₃ ((I, oI) :: (I + 2, oC) :: (I + 1, dictOf [] 0) :: news) := fun q hq => by
      rcases List.mem_cons.mp hq with rfl | hq
      ·exact ⟨heI, Ne.symm hLI, hI₀⟩
      rcases List.mem_cons.mp hq with rfl | hq
      ·exact ⟨heC, Ne.symm hLC, hC₀⟩
      rcases List.mem_cons.mp hq with rfl | hq
      ·exact ⟨hs₃.extBut _ _ (by show I + 1 ≠ I + 2; omega) (hk₂ _ _ (by simp) hDo1), Ne.symm hLD, hD₀⟩
      ·have z := N3 q hq
       have hlq := hIn q hq
       exact ⟨hs₃.extBut _ _ (Nat.ne_of_lt (Nat.lt_of_lt_of_le hlq (Nat.le_add_right _ _))) (hk₂ _ _ (by rw [List.mem_singleton]; exact Nat.ne_of_lt hlq) z.1), z.2⟩
     refine wpAny_mono (R I oI (I + 2) oC (I + 1) _ h₃ _ _ hoC (by simp) F₄ N₄ hIn ⟨Nat.lt_succ_self _, Nat.lt_succ_self _⟩) (fun kv s₄ h₄ => wpAny_mono h₄ (fun vv s₅ h₅ => ?_) fun _ _ e => e) fun _ _ e => e
     injections vv s₅ h₅
     injections kv s₄ h₄ vv s₅ h₅
     obtain ⟨x', t', h', tk, g, news', pz9⟩ := h₅
     rcases pz9 with ⟨rfl, pz10⟩
     rcases pz10 with ⟨rfl, pz11⟩
     obtain ⟨F', N', off', hm', fin⟩ := pz11
     have zD := N' (I + 1, dictOf [] 0) (.tail _ (.tail _ (.head _)))
     refine dset_first zD.1 fun h'' hD'' hsb'' => ⟨1, by omega, .inr ⟨rfl, x', t', vv, h'', tk + 1, g, news', oI, oC, 1, _, rfl, ⟨oI, ?_, hcI, hdI⟩, F'.change hsb'' zD.2.1 zD.2.2, hoC, fun q hq => ?_, off', hm', fin⟩⟩
     injections q hq
     ·exact hsb''.extBut _ _ (by show I ≠ I + 1; omega) (N' _ (.head _)).1
     ·rcases List.mem_cons.mp hq with rfl | hq
      ·exact ⟨hsb''.extBut _ _ (by show I ≠ I + 1; omega) (N' _ (.head _)).1, (N' _ (.head _)).2⟩
      rcases List.mem_cons.mp hq with rfl | hq
      ·exact ⟨hsb''.extBut _ _ (by show I + 2 ≠ I + 1; omega) (N' _ (.tail _ (.head _))).1, (N' _ (.tail _ (.head _))).2⟩
      rcases List.mem_cons.mp hq with rfl | hq
      ·exact ⟨hD'', zD.2⟩
      ·have z := N' q (.tail _ (.tail _ (.tail _ hq)))
       exact ⟨hsb''.extBut _ _ (off' q hq).2.2 z.1, z.2⟩
    ·injections x' t' vv h' tk g news' oI oC n' m' hit F' hoC N' off' hm' fin
     refine W.done _ _ _ ⟨hit, ⟨_, (N' _ (.tail _ (.tail _ (.tail _ hm')))).1, rfl, _, rfl⟩⟩ fun h₂ tk₂ hk₂ => ?_
     injections h₂ tk₂ hk₂
     have hI₀ : h₀.get? I = none := h₀n _ (Nat.le_refl _)
     have hC₀ : h₀.get? (I + 2) = none := h₀n _ (Nat.le_add_right _ _)
     have hLI : env.locals ≠ I := Nat.ne_of_lt hLlt
     have hLC : env.locals ≠ I + 2 := Nat.ne_of_lt (Nat.lt_of_lt_of_le hLlt (Nat.le_add_right _ _))
     have hL₀ : h₀.get? env.locals = none := Heap.get?_none_of_le F'.above
     have F₂ : Fr h₀ env.locals h₂ m := fr_but F' hk₂ hLI hI₀
     have hnC : h₂.Ns (I + 2) m' := (hoC.ns (N' _ (.tail _ (.head _))).1).at' fun o e => hk₂ _ o (by simp) e
     show wpAny _ A (assign (.Name y py) env (.ref (I + 1))) _ _ _
     refine wpAny_assign_Name (wpAny_storeName_local hy F₂.ns (fun h₃ hn₃ hs₃ => ?_) hp)
     injections h₃ hn₃ hs₃
     have F₃ : Fr h₀ env.locals h₃ (fun z => if z = y then some (.ref (I + 1)) else m z) := ⟨hn₃, fun b o e => hs₃.extBut b o (fun q => by rw [q, hL₀] at e; cases e) (F₂.keep b o e), F₂.above⟩
     refine ⟨m', hnC.sameBut hs₃ (Ne.symm hLC), fun h₄ hs₄ => fin h₄ _ n' (F₃.change hs₄ (Ne.symm hLC) hC₀) fun q hq => ?_⟩
     injections q hq
     have hq' : q ∈ (I, oI) :: (I + 2, oC) :: (I + 1, dict1 w.params x' t' vv n') :: news' := .tail _ (.tail _ hq)
     have hqI : q.1 ≠ I ∧ q.1 ≠ I + 2 := by
      rcases List.mem_cons.mp hq with rfl | hq
      ·exact ⟨by show I + 1 ≠ I; omega, by show I + 1 ≠ I + 2; omega⟩
      ·exact ⟨(off' q hq).1, (off' q hq).2.1⟩
     have z := N' q hq'
     exact ⟨hs₄.extBut _ _ hqI.2 (hs₃.extBut _ _ z.2.1 (hk₂ _ _ (by rw [List.mem_singleton]; exact hqI.1) z.1)), z.2⟩
  exact codeAny_compStart_dict loop (W.self 0 _ _ _ hst3 loop)
 fail "mk.b"
end
section
theorem dictOf0 {prog : Program} {w : World} {h : Heap} {d : Addr} {k : Nat} (ho : h.get? d = some (dictOf [] k)) : h.DictOf (strKind prog w) d ([] : List (Str × Value)) :=
 ⟨_, _, k, ho, ⟨rfl, rfl, rfl⟩, rfl, fun e he => by simp at he, .nil, List.nodup_nil⟩
theorem truthy_dict0 {prog : Program} {w : World} {A : Around} {E : Value → Shared → Prop} {s : Shared} {d : Addr} {k : Nat} {h₀ : Heap} {L : Addr} {news : List (Addr × Obj)} {Q : Bool → Shared → Prop} (N : News h₀ L s.heap news) (hm : (d, dictOf [] k) ∈ news) (hd : (d == sysModules) = false)
  (h : Q false { s with toks := s.toks + 1 + 1 }) : wpAny (model prog w) A (truthy (.ref d)) Q E s :=
 wpAny_truthy_dict (knd := strKind prog w) (kvs := ([] : List (Str × Value))) hd (dictOf0 (N _ hm).1) (by decide) h
theorem isDict0 {prog : Program} {w : World} (k : Nat) : (dictOf [] k).IsDictOf (strKind prog w) ([] : List (Str × Value)) := ⟨_, k, ⟨rfl, rfl, rfl⟩, rfl, fun e he => by simp at he, .nil, List.nodup_nil⟩
theorem isDict1 {prog : Program} {w : World} (x : Str) (t : Tok) (v : Value) (k : Nat) : (dict1 w.params x t v k).IsDictOf (strKind prog w) [(x, v)] :=
 ⟨_, k, ⟨rfl, rfl, rfl⟩, rfl, fun e he => by simp only [List.mem_toArray, Array.mem_toList_iff, List.mem_cons, List.not_mem_nil, or_false] at he; subst he; exact ⟨x, strKind_is _ _ _ _, rfl⟩, .cons (strKind_is _ _ _ _) rfl .nil, by simp⟩
section
variable {prog : Program} {w : World} {A : Around} {E : Value → Shared → Prop} {s : Shared} {d : Addr} {k : Nat} {h₀ : Heap} {L : Addr} {news : List (Addr × Obj)}
theorem dict0_method {pl : Sem Bool} {Q : Value × List Value → Shared → Prop} (N : News h₀ L s.heap news) (hm : (d, dictOf [] k) ∈ news) (h : Q (.builtin "dict.get", [.ref d]) s) : wpAny (model prog w) A (getMethod (.ref d) "get" pl) Q E s :=
 kdg_method (knd := strKind prog w) N hm (isDict0 k) h
theorem dict0_get {x : Str} {t : Tok} {Q : Value → Shared → Prop} (N : News h₀ L s.heap news) (hm : (d, dictOf [] k) ∈ news) (hd : (d == sysModules) = false) (h : Q .none { s with toks := s.toks + 1 }) :
  wpAny (model prog w) A (call (.builtin "dict.get") [.ref d, .str x t]) Q E s :=
 kdg_get1 (knd := strKind prog w) (k := x) N hm (isDict0 k) hd (strKind_is _ _ _ _) none rfl h
theorem dict1_item {value slice : PySem.Expr} {x : Str} {t t' : Tok} {v : Value} {Q : Value → Shared → Prop} (N : News h₀ L s.heap news) (hm : (d, dict1 w.params x t v k) ∈ news) (h : Q v { s with toks := s.toks + 1 })
  (hs : subscripted slice false (.ref d) (.str x t') = operate [.ref d, .str x t'] (getItem (.ref d) (.str x t')) := by with_unfolding_all rfl) (hg : ∀ r, letTemporaryGo value (.ref d) r = pure () := by intros _; with_unfolding_all rfl) :
  wpAny (model prog w) A (subscriptTail value slice (.ref d) (.str x t')) Q E s :=
 kda_item (knd := strKind prog w) (k := x) N hm (isDict1 x t v k) (strKind_is _ _ _ _) (by simp [valueAt]) h hs hg
theorem last_push {value slice : PySem.Expr} {l : Addr} {items : Array Value} {v : Value} {t : Tok} {Q : Value → Shared → Prop} (hl : s.heap.IsList l (items.push v)) (h : Q v s)
  (hs : subscripted slice false (.ref l) (.int (-1) t) = operate [.ref l, .int (-1) t] (getItem (.ref l) (.int (-1) t)) := by with_unfolding_all rfl) (hg : ∀ r, letTemporaryGo value (.ref l) r = pure () := by intros _; with_unfolding_all rfl) :
  wpAny (model prog w) A (subscriptTail value slice (.ref l) (.int (-1) t)) Q E s :=
 subscriptTail_builtin hl.typeIs slot_list_getitem.lookup (wpAny_getItem_list_neg hl (by decide) (by rw [Array.size_push]; omega) (by decide) (by
  have e : ((-1 : Int) + ((items.push v).size : Nat)).toNat = items.size := by rw [Array.size_push]; omega
  rw [e]; simp) h) hs hg
end
end
section
theorem sub_dict_set : isSubtype (.type "dict") (.type "set") = pure false := by rw [isSubtype_type]; kernel_rfl
theorem sub_dict_frozenset : isSubtype (.type "dict") (.type "frozenset") = pure false := by rw [isSubtype_type]; kernel_rfl
theorem star_empty {prog : Program} {w : World} {A : Around} {E : Value → Shared → Prop} {s : Shared} {D a : Addr} {led : Bool} {hs : Int} {v : Value} {n k : Nat} {Q : Unit → Shared → Prop} (hh : A.handled = none) (ho : s.heap.get? D = some (set1 led hs v n)) (hd : s.heap.get? a = some (dictOf [] k)) (hsm : (a == sysModules) = false)
   (h : ∀ h' tk', (∀ b o, s.heap.get? b = some o → h'.get? b = some o) → Q () { s with heap := h', toks := tk' }) :
   wpAny (model prog w) A (setDisplayStar D (.ref a)) Q E s := by
 fail "mk.a"
 case zl =>
  revert hh ho hd hsm h
  revert prog w A E s D a led hs v n k Q
  intro prog w A E s D a led hs v n k Q hh ho hd hsm h
  have hT : s.TypeIs (.ref a) "dict" := ⟨_, hd, rfl⟩
  unfold setDisplayStar
  refine wpAny_bind (wpAny_isInstance hT sub_dict_set ?_)
  refine wpAny_bind (wpAny_isInstance hT sub_dict_frozenset ?_)
  refine wpAny_bind (wpAny_askSetting ?_)
  dsimp only
  have hfit : (tbl1 led hs).fits 1 = true := by rfl
  cases hf : w.params.followText "set-display-star-reads-storage" with
  | false =>
    rw [show (model prog w).w.params.followText "set-display-star-reads-storage" = false from hf, if_neg Bool.false_ne_true]
    dsimp only
    rw [if_neg Bool.false_ne_true]
    refine wpAny_bind (wpAny_typeOf hT ?_)
    rw [if_pos (by decide)]
    refine wpAny_bind (wpAny_rule ?_)
    rw [if_neg (by rw [hsm]; exact Bool.false_ne_true)]
    refine wpAny_bind (wpAny_dictEpoch hd rfl ?_)
    refine wpAny_bind (wpAny_dictEntries hd rfl ?_)
    refine wpAny_bind (m := setRoomFor D _) ?_
    unfold setRoomFor
    refine wpAny_bind (wpAny_setState_of ho rfl hfit ?_)
    dsimp only
    rw [show (([] : List DictEntry).toArray.size) = 0 from rfl, room1]
    refine wpAny_pure ?_
    refine wpAny_bind (wpAny_of_eq (a := PUnit.unit) (by simp) ?_)
    exact wpAny_pure (h s.heap s.toks fun _ _ e => e)
  | true =>
    rw [show (model prog w).w.params.followText "set-display-star-reads-storage" = true from hf, if_pos rfl]
    dsimp only
    have hDA : s.heap.DictAt (strKind prog w) a ([] : List (Str × Value)) k := ⟨_, _, hd, ⟨rfl, rfl, rfl⟩, rfl, fun e he => by simp at he, .nil, List.nodup_nil⟩
    refine wpAny_bind (wpAny_pyIter_dict hsm hDA ?_)
    have keep : ∀ b o, s.heap.get? b = some o → (s.heap.push { cls := .type "dict_keyiterator", data := .fields #[.ref a, .int 0 0, .int (([] : List (Str × Value)).length : Nat) 0, .int k 0] }).get? b = some o := fun b o e => Heap.get?_push_of_some _ e
    have hne : ∀ b o, s.heap.get? b = some o → b ≠ s.heap.objs.size := fun b o e q => Nat.lt_irrefl _ (q ▸ Heap.lt_size e)
    refine wpAny_bind (wpAny_runValue (codeAny_builtin PyProof.Rows.F.entry_set_update_loop ?_))
    rw [Around.under_plainId PyProof.Rows.F.plain_set_update_loop _]
    show wpAny _ A.in1 (pyNext (.ref s.heap.objs.size) >>= _) _ _ _
    refine wpAny_bind (wpAny_pyNext_dict_end (kvs := ([] : List (Str × Value))) (knd := strKind prog w) (d := a) (i := 0) (ep := k) hh ⟨_, Heap.get?_push_size _ rfl, rfl, rfl⟩ (hDA.push _) rfl fun h' he => ?_)
    injections h' he
    exact wpAny_pure (wpAny_pure (h h' s.toks fun b o e => he b o (hne b o e) (keep b o e)))
 fail "mk.b"
theorem newSet_led {prog : Program} {w : World} {A : Around} {E : Value → Shared → Prop} {s : Shared} {Q : Value → Shared → Prop} (h : Q (.ref s.heap.objs.size) { s with heap := s.heap.push (set0 (!w.params.followText "set-order")) }) :
   wpAny (model prog w) A (newSet (.type "set")) Q E s := by
 fail "mk.a"
 case zl =>
  revert h
  revert prog w A E s Q
  intro prog w A E s Q h
  unfold newSet setsByText
  refine wpAny_bind (wpAny_bind (wpAny_askSetting (wpAny_pure ?_)))
  dsimp only
  simp only [newObj]
  exact wpAny_bind (wpAny_alloc (wpAny_pure h))
 fail "mk.b"
theorem set_star {w : World} {A : Around} {E : Value → Shared → Prop} {s : Shared} {h₀ : Heap} {L : Addr} {m : Str → Option Value} {news : List (Addr × Obj)} {env : Env} {n1 n2 : Str} {p1 p2 p3 pos : Pos} {x : Str} {t : Tok} {a : Addr} {k : Nat} {K : Frag} {Q : Value → Shared → Prop}
   (hh : A.handled = none) (F : Fr h₀ L s.heap m) (N : News h₀ L s.heap news) (X : K.In h₀) (hc : kdsCode K env.code = true) (hd : (a, dictOf [] k) ∈ news) (hsm : (a == sysModules) = false) (_hm1 : m n1 = some (.str x t)) (_hm2 : m n2 = some (.ref a))
   (h1 : ∀ (s' : Shared) (Q' : Value → Shared → Prop), Fr h₀ L s'.heap m → Q' (.str x t) s' → wpAny (model Challenge.rw_to0089_01.prog w) A (eval (.Name n1 p1) env) Q' E s')
   (h2 : ∀ (s' : Shared) (Q' : Value → Shared → Prop), Fr h₀ L s'.heap m → Q' (.ref a) s' → wpAny (model Challenge.rw_to0089_01.prog w) A (eval (.Name n2 p2) env) Q' E s')
   (h : ∀ D h' tk' hs n, Fr h₀ L h' m → News h₀ L h' ((D, set1 (!w.params.followText "set-order") hs (.str x t) n) :: news) → (∀ q ∈ news, q.1 < D) → Q (.ref D) { s with heap := h', toks := tk' }) :
   wpAny (model Challenge.rw_to0089_01.prog w) A (eval (.Set [.Name n1 p1, .Starred (.Name n2 p2) p3] 0 pos) env) Q E s := by
 fail "mk.a"
 case zl =>
  revert hh F N X hc hd hsm _hm1 _hm2 h1 h2 h
  revert w A E s h₀ L m news env n1 n2 p1 p2 p3 pos x t a k K Q
  intro w A E s h₀ L m news env n1 n2 p1 p2 p3 pos x t a k K Q hh F N X hc hd hsm _hm1 _hm2 h1 h2 h
  rw [arm_eval_Set]
  refine wpAny_bind (wpAny_standAt ?_)
  refine wpAny_bind (kds_main (X.keeps F.keep) hc fun b => ?_)
  injections b
  unfold setDisplay
  dsimp only
  rw [show displayRoad 0 [PySem.Expr.Name n1 p1, (PySem.Expr.Name n2 p2).Starred p3] = .oneByOne from rfl, if_neg (show ¬ ((DisplayRoad.oneByOne == DisplayRoad.constants) = true) by decide),
    show starEach [PySem.Expr.Name n1 p1, (PySem.Expr.Name n2 p2).Starred p3] env = [(false, eval (.Name n1 p1) env), (true, eval (.Name n2 p2) env)] from rfl]
  refine wpAny_bind (newSet_led ?_)
  dsimp only
  generalize hled : (!w.params.followText "set-order") = led at h
  have F1 := F.push (set0 led)
  have N1 := News.push F N (set0 led) rfl
  refine wpAny_bind (wpAny_holding ?_)
  show wpAny _ A (evalAll [do let v ← eval (.Name n1 p1) env; standAt pos; pure v] >>= _) _ _ _
  refine wpAny_bind (wpAny_evalAll_cons (wpAny_bind (h1 _ _ F1 (wpAny_bind (wpAny_standAt (wpAny_pure (wpAny_evalAll_nil ?_)))))))
  refine wpAny_bind (wpAny_holding ?_)
  rw [List.forIn_cons]
  refine wpAny_bind (wpAny_bind (wpAny_bind (add_first (led := led) (Heap.get?_push_size _ rfl) fun h' n hD hsb => wpAny_pure ?_)))
  dsimp only
  rw [List.forIn_nil]
  refine wpAny_pure ?_
  rw [if_neg (show ¬ ((DisplayRoad.oneByOne == DisplayRoad.unsure) = true) by decide)]
  refine wpAny_pure ?_
  show wpAny _ A (forIn [(true, (do let v ← eval (.Name n2 p2) env; standAt pos; pure v : Sem Value))] PUnit.unit _ >>= _) _ _ _
  rw [List.forIn_cons]
  have z := N1 (s.heap.objs.size, set0 led) (.head _)
  have F2 := F1.change hsb z.2.1 z.2.2
  have hlt : ∀ q ∈ news, q.1 < s.heap.objs.size := fun q hq => Heap.lt_size (N q hq).1
  have hold : ∀ q ∈ news, h'.get? q.1 = some q.2 := fun q hq => (hsb.2 q.1 (Nat.ne_of_lt (hlt q hq))).trans (N1 q (.tail _ hq)).1
  refine wpAny_bind (wpAny_bind (wpAny_bind (wpAny_bind (h2 _ _ F2 (wpAny_bind (wpAny_standAt (wpAny_pure ?_)))))))
  rw [if_pos rfl]
  refine wpAny_bind (wpAny_holding (star_empty hh hD (hold _ hd) hsm fun h'' tk' keep => wpAny_pure ?_))
  dsimp only
  rw [List.forIn_nil]
  have N3 : News h₀ L h'' ((s.heap.objs.size, set1 led ((strKind Challenge.rw_to0089_01.prog w).hash x) (.str x t) n) :: news) := fun q hq => by
    rcases List.mem_cons.mp hq with rfl | hq
    ·exact ⟨keep _ _ hD, z.2⟩
    ·exact ⟨keep _ _ (hold q hq), (N q hq).2⟩
  exact wpAny_pure (wpAny_pure (wpAny_pure (h _ h'' tk' _ n (F2.keeps keep) N3 hlt)))
 fail "mk.b"
end
section
noncomputable abbrev setIt (x : Value) (a i n : Nat) : Obj := { cls := .type "set_iterator", data := .fields #[.int a 0, .int i 0, x, .int 1 0, .int n 0] }
theorem entry_set_iter : entryFor table "set.__iter__" = some Builtin.«frozenset.__iter__» := entryFor_alias (id' := "frozenset.__iter__") (by kernel_rfl) rfl (by decide +kernel) (by kernel_rfl)
theorem slot_setit_next : Slot "set_iterator" "__next__" "set_iterator.__next__" :=
 .of (owner := "set_iterator") (n := "__next__") (by rw [typeLookup_type, builtinLookup_eq_fast]; kernel_rfl) (by decide +kernel) (by decide +kernel) (by decide +kernel)
  (by first | exact .inl (by decide +kernel) | exact .inr (by decide +kernel)) (by rw [isSubtype_type]; kernel_rfl)
theorem entry_setit_next : entryFor table "set_iterator.__next__" = some Builtin.«set_iterator.__next__» := entryFor_of_tree (by kernel_rfl)
theorem args_setit_next (a : Value) : argsOk "set_iterator.__next__" ⟨[a], []⟩ := by unfold argsOk; kernel_rfl
theorem args_set_iter (a : Value) : argsOk "set.__iter__" ⟨[a], []⟩ := by unfold argsOk; kernel_rfl
theorem len_set : typeLookup (.type "set") "__len__" = pure (some (.builtin "set.__len__")) := by rw [typeLookup_type, builtinLookup_eq_fast]; kernel_rfl
end
section
section
variable {prog : Program} {w : World} {A : Around} {E : Value → Shared → Prop} {s : Shared} {S I : Addr} {hs : Int} {v : Value} {n : Nat}
theorem fits1 (led : Bool) (hs : Int) : (tbl1 led hs).fits 1 = true := by rfl
theorem pyIter_set1 {Q : Value → Shared → Prop} (ho : s.heap.get? S = some (set1 (!w.params.followText "set-order") hs v n))
   (h : Q (.ref s.heap.objs.size) { s with heap := s.heap.push (setIt (.ref S) 0 0 n) }) : wpAny (model prog w) A (pyIter (.ref S)) Q E s := by
 fail "mk.a"
 case zl =>
  revert ho h
  revert prog w A E s S hs v n Q
  intro prog w A E s S hs v n Q ho h
  have hT : s.TypeIs (.ref S) "set" := ⟨_, ho, rfl⟩
  have hst : ∀ {A' : Around} {E' : Value → Shared → Prop} {Q' : (Array (Int × Value) × Nat × SetTable) → Shared → Prop}, Q' (#[(hs, v)], n, tbl1 (!w.params.followText "set-order") hs) s → wpAny (model prog w) A' (setState S) Q' E' s :=
    fun hq => wpAny_setState_of ho rfl (fits1 _ _) hq
  refine wpAny_pyIter_slot hT PySem.F.slot_set_iter (wpAny_call_entry PySem.F.slot_set_iter hT entry_set_iter ?_ (args_set_iter _))
  unfold Builtin.«frozenset.__iter__»
  refine wpAny_bind (m := Builtin.Frozenset.slot0 _ _) (wpAny_pure ?_)
  unfold Builtin.Frozenset.sizeOf setEntries
  refine wpAny_bind (wpAny_bind (wpAny_bind (hst (wpAny_pure (wpAny_pure ?_)))))
  unfold setDrawn setsByText
  refine wpAny_bind ?_
  refine wpAny_bind (hst ?_)
  refine wpAny_bind ?_
  refine wpAny_bind (wpAny_askSetting (wpAny_pure ?_))
  refine wpAny_pure ?_
  dsimp only
  rw [if_neg (by show ¬ ((!(w.params.followText "set-order") && (!false && decide ((1 : Nat) > 1))) = true); simp)]
  refine wpAny_bind (wpAny_pure ?_)
  unfold setEpoch
  refine wpAny_bind (wpAny_bind (hst (wpAny_pure ?_)))
  unfold newFields
  refine wpAny_bind (wpAny_newObj_type (wpAny_pure ⟨_, rfl, "set_iterator", _, ⟨_, Heap.get?_push_size _ rfl, rfl⟩, slot_setit_next.lookup, ?_⟩))
  exact h
 fail "mk.b"
theorem pick1 {α : Type} (f : Nat → Nat) (x : α) : pickOrder f #[x] = #[x] := by
 show (match [x][f 0 % 1]? with | some y => pickOrder.go f 0 1 ([x].eraseIdx (f 0 % 1)) (#[].push y) | none => #[]) = #[x]
 rw [Nat.mod_one]
 rfl
theorem below0 (x : Nat) : SetTable.below #[x] 0 = 0 := by
 simp [SetTable.below, SetTable.below.go]
theorem below1 (x : Nat) : SetTable.below #[x] (x + 1) = 1 := by
 simp [SetTable.below, SetTable.below.go]
theorem setNext_0 {Q : Option (Value × Nat) → Shared → Prop} (ho : s.heap.get? S = some (set1 (!w.params.followText "set-order") hs v n))
   (h : ∀ a, a = (if w.params.followText "set-order" then 0 else SetTable.bits hs % 8 + 1) → Q (some (v, a)) s) : wpAny (model prog w) A (setNext S 0 0 n) Q E s := by
 fail "mk.a"
 case zl =>
  revert ho h
  revert prog w A E s S hs v n Q
  intro prog w A E s S hs v n Q ho h
  have hst : ∀ {A' : Around} {E' : Value → Shared → Prop} {Q' : (Array (Int × Value) × Nat × SetTable) → Shared → Prop}, Q' (#[(hs, v)], n, tbl1 (!w.params.followText "set-order") hs) s → wpAny (model prog w) A' (setState S) Q' E' s :=
    fun hq => wpAny_setState_of ho rfl (fits1 _ _) hq
  unfold setNext setsByText
  refine wpAny_bind (hst ?_)
  refine wpAny_bind (wpAny_bind (wpAny_askSetting (wpAny_pure ?_)))
  dsimp only
  cases hf : w.params.followText "set-order" with
  | true =>
    rw [show (model prog w).w.params.followText "set-order" = true from hf, if_pos rfl]
    rw [if_neg (by simp)]
    refine wpAny_bind ?_
    unfold setWalk setsByText
    refine wpAny_bind (hst ?_)
    refine wpAny_bind (wpAny_bind (wpAny_askSetting (wpAny_pure ?_)))
    dsimp only
    rw [show (model prog w).w.params.followText "set-order" = true from hf, if_pos rfl]
    refine wpAny_bind (wpAny_askSetting ?_)
    refine wpAny_pure (wpAny_pure ?_)
    rw [pick1]
    exact h _ (by rw [hf]; rfl)
  | false =>
    rw [show (model prog w).w.params.followText "set-order" = false from hf, if_neg Bool.false_ne_true]
    rw [if_neg (by show ¬ ((!false && decide ((1 : Nat) > 1)) = true); simp)]
    refine wpAny_bind (wpAny_pure ?_)
    rw [below0]
    refine wpAny_pure ?_
    exact h _ (by rw [hf]; rfl)
 fail "mk.b"
theorem setNext_1 {Q : Option (Value × Nat) → Shared → Prop} {a : Nat} (ho : s.heap.get? S = some (set1 (!w.params.followText "set-order") hs v n))
   (ha : a = (if w.params.followText "set-order" then 0 else SetTable.bits hs % 8 + 1)) (h : Q none s) : wpAny (model prog w) A (setNext S a 1 n) Q E s := by
 fail "mk.a"
 case zl =>
  revert ho ha h
  revert prog w A E s S hs v n Q a
  intro prog w A E s S hs v n Q a ho ha h
  have hst : ∀ {A' : Around} {E' : Value → Shared → Prop} {Q' : (Array (Int × Value) × Nat × SetTable) → Shared → Prop}, Q' (#[(hs, v)], n, tbl1 (!w.params.followText "set-order") hs) s → wpAny (model prog w) A' (setState S) Q' E' s :=
    fun hq => wpAny_setState_of ho rfl (fits1 _ _) hq
  unfold setNext setsByText
  refine wpAny_bind (hst ?_)
  refine wpAny_bind (wpAny_bind (wpAny_askSetting (wpAny_pure ?_)))
  dsimp only
  cases hf : w.params.followText "set-order" with
  | true =>
    rw [show (model prog w).w.params.followText "set-order" = true from hf, if_pos rfl]
    rw [if_neg (by simp)]
    refine wpAny_bind ?_
    unfold setWalk setsByText
    refine wpAny_bind (hst ?_)
    refine wpAny_bind (wpAny_bind (wpAny_askSetting (wpAny_pure ?_)))
    dsimp only
    rw [show (model prog w).w.params.followText "set-order" = true from hf, if_pos rfl]
    refine wpAny_bind (wpAny_askSetting ?_)
    refine wpAny_pure (wpAny_pure ?_)
    rw [pick1]
    exact h
  | false =>
    rw [show (model prog w).w.params.followText "set-order" = false from hf, if_neg Bool.false_ne_true]
    rw [if_neg (by show ¬ ((!false && decide ((1 : Nat) > 1)) = true); simp)]
    refine wpAny_bind (wpAny_pure ?_)
    rw [hf] at ha
    rw [ha, if_neg Bool.false_ne_true, below1]
    exact wpAny_pure h
 fail "mk.b"
theorem next_item {a0 : Nat} {x : Value} {Q : Option Value → Shared → Prop} (hx : x = .ref S) (hI : s.heap.get? I = some (setIt x a0 0 n)) (ha0 : a0 = 0) (ho : s.heap.get? S = some (set1 (!w.params.followText "set-order") hs v n))
   (h : ∀ a h', a = (if w.params.followText "set-order" then 0 else SetTable.bits hs % 8 + 1) → h'.get? I = some (setIt (.ref S) a 1 n) → Heap.SameBut I s.heap h' → Q (some v) { s with heap := h' }) :
   wpAny (model prog w) A (pyNext (.ref I)) Q E s := by
 fail "mk.a"
 case zl =>
  revert hx hI ha0 ho h
  revert prog w A E s S I hs v n a0 x Q
  intro prog w A E s S I hs v n a0 x Q hx hI ha0 ho h
  subst hx ha0
  have hT : s.TypeIs (.ref I) "set_iterator" := ⟨_, hI, rfl⟩
  unfold pyNext
  refine wpAny_bind (wpAny_attempt (wpAny_callSpecial?_slot (name := Str.ofString "__next__") hT slot_setit_next
    (wpAny_call_entry slot_setit_next hT entry_setit_next ?_ (args_setit_next _))))
  unfold Builtin.«set_iterator.__next__»
  refine wpAny_bind (wpAny_pure ?_)
  dsimp only
  refine wpAny_bind (wpAny_fieldsOf hI rfl ?_)
  unfold setEntries
  refine wpAny_bind (wpAny_bind (wpAny_setState_of ho rfl (fits1 _ _) (wpAny_pure ?_)))
  rw [if_neg (by simp)]
  refine wpAny_bind (setNext_0 ho fun a ha => ?_)
  injections a ha
  dsimp only
  refine wpAny_bind (wpAny_setField hI rfl (by simp) ?_)
  have g1 : (s.heap.update I (Obj.mapFields (·.setIfInBounds 0 (rawInt a)))).get? I = some (setIt (.ref S) a 0 n) := Heap.get?_update_self _ hI rfl
  refine wpAny_bind (wpAny_setField g1 rfl (by simp) ?_)
  have g2 := Heap.get?_update_self (Obj.mapFields (·.setIfInBounds 1 (rawInt ((0 : Nat) + 1 : Int)))) g1 rfl
  exact wpAny_pure ⟨_, rfl, wpAny_pure (h a _ ha g2 ((Heap.SameBut.update ..).trans (Heap.SameBut.update ..)))⟩
 fail "mk.b"
theorem next_end {a : Nat} {Q : Option Value → Shared → Prop} (hh : A.handled = none) (hI : s.heap.get? I = some (setIt (.ref S) a 1 n)) (ha : a = (if w.params.followText "set-order" then 0 else SetTable.bits hs % 8 + 1)) (ho : s.heap.get? S = some (set1 (!w.params.followText "set-order") hs v n))
   (h : ∀ h' , Heap.ExtBut I s.heap h' → Q none { s with heap := h' }) :
   wpAny (model prog w) A (pyNext (.ref I)) Q E s := by
 fail "mk.a"
 case zl =>
  revert hh hI ha ho h
  revert prog w A E s S I hs v n a Q
  intro prog w A E s S I hs v n a Q hh hI ha ho h
  have hT : s.TypeIs (.ref I) "set_iterator" := ⟨_, hI, rfl⟩
  unfold pyNext
  refine wpAny_bind (wpAny_attempt (wpAny_callSpecial?_slot (name := Str.ofString "__next__") hT slot_setit_next
    (wpAny_call_entry slot_setit_next hT entry_setit_next ?_ (args_setit_next _))))
  unfold Builtin.«set_iterator.__next__»
  refine wpAny_bind (wpAny_pure ?_)
  dsimp only
  refine wpAny_bind (wpAny_fieldsOf hI rfl ?_)
  unfold setEntries
  refine wpAny_bind (wpAny_bind (wpAny_setState_of ho rfl (fits1 _ _) (wpAny_pure ?_)))
  rw [if_neg (by simp)]
  refine wpAny_bind (setNext_1 ho ha ?_)
  dsimp only
  refine wpAny_bind (wpAny_setField hI rfl (by simp) ?_)
  refine wpAny_bind ?_
  simp only [newExc, newTuple]
  refine wpAny_bind (wpAny_newObj_type ?_ (by size_fits))
  refine wpAny_bind (m := firstArgMember _ _) (wpAny_of_eq (a := Value.none) (by first | rfl | (simp only [firstArgMember]; rfl)) ?_)
  refine wpAny_newObj_type ?_ (by size_fits)
  simp only [raiseNew]
  refine wpAny_bind (wpAny_handled ?_)
  rw [show A.in1.handled = none from hh]
  refine wpAny_bind (wpAny_pure (wpAny_throw ?_))
  refine wpAny_bind (wpAny_isInstance (T := "StopIteration") (b := true) ⟨_, Heap.get?_push_size _ rfl, rfl⟩ isSubtype_stop ?_)
  exact wpAny_pure (h _ (((Heap.SameBut.update ..).extBut.push _).push _))
 fail "mk.b"
theorem collect_set1 {Q : List Value → Shared → Prop} (hh : A.handled = none) (ho : s.heap.get? S = some (set1 (!w.params.followText "set-order") hs v n))
   (h : ∀ h' tk, (∀ b o, s.heap.get? b = some o → h'.get? b = some o) → s.heap.objs.size ≤ h'.objs.size → Q [v] { s with heap := h', toks := tk }) : wpAny (model prog w) A (collect (.ref S)) Q E s := by
 fail "mk.a"
 case zl =>
  revert hh ho h
  revert prog w A E s S hs v n Q
  intro prog w A E s S hs v n Q hh ho h
  have hS : S < s.heap.objs.size := Heap.lt_size ho
  unfold collect
  refine wpAny_bind (wpAny_runValue (codeAny_builtin F.entry_proto_collect ?_))
  rw [Around.under_plainId F.plain_proto_collect _]
  show wpAny _ A.in1 (newList [] >>= fun l => again (.builtin "list.__iadd__" ⟨[l, .ref S], []⟩)) _ _ s
  refine wpAny_bind (wpAny_newObj_type ?_)
  refine wpAny_pure ⟨plainId_quiet F.plain_list_iadd _, codeAny_builtin F.entry_list_iadd ?_⟩
  rw [Around.under_plainId F.plain_list_iadd _]
  have kS : ∀ b o, s.heap.get? b = some o → (s.heap.push (seqObj "list" #[] 0)).get? b = some o := fun b o e => Heap.get?_push_of_some _ e
  have hZ : (s.heap.push (seqObj "list" #[] 0)).get? s.heap.objs.size = some (seqObj "list" #[] 0) := Heap.get?_push_size _ rfl
  have hZs : (s.heap.push (seqObj "list" #[] 0)).objs.size = s.heap.objs.size + 1 := Heap.size_push ..
  show wpAny _ A.in1 (Builtin.List.listExtendWith (.ref s.heap.objs.size) (.ref S) (.ref s.heap.objs.size)) _ _ { s with heap := s.heap.push (seqObj "list" #[] 0) }
  generalize s.heap.push (seqObj "list" #[] 0) = h1 at kS hZ hZs ⊢
  generalize hz : s.heap.objs.size = Z at hS hZ hZs ⊢
  have o1 := kS _ _ ho
  have n1 : S ≠ Z := Nat.ne_of_lt hS
  have n2 : S ≠ Z + 1 := Nat.ne_of_lt (Nat.lt_succ_of_lt hS)
  have n3 : Z + 1 ≠ Z := Nat.succ_ne_self Z
  have n4 : Z ≠ Z + 1 := Ne.symm n3
  have hne1 : ∀ b o, s.heap.get? b = some o → b ≠ Z := fun b o e q => by have := Heap.lt_size e; rw [hz, q] at this; exact Nat.lt_irrefl _ this
  unfold Builtin.List.listExtendWith
  refine wpAny_bind (wpAny_typeOf (T := "set") ⟨_, o1, rfl⟩ ?_)
  have hl1 : Builtin.List.listSameRef (.ref Z) (.ref S) = false := by simp only [Builtin.List.listSameRef]; exact beq_eq_false_iff_ne.mpr (Ne.symm n1)
  rw [if_neg (by rw [hl1]; decide)]
  refine wpAny_bind (pyIter_set1 o1 ?_)
  have k2 : ∀ b o, h1.get? b = some o → (h1.push (setIt (.ref S) 0 0 n)).get? b = some o := fun b o e => Heap.get?_push_of_some _ e
  have hI : (h1.push (setIt (.ref S) 0 0 n)).get? (Z + 1) = some (setIt (.ref S) 0 0 n) := by rw [← hZs]; exact Heap.get?_push_size _ rfl
  dsimp only
  rw [hZs]
  generalize h1.push (setIt (.ref S) 0 0 n) = h2 at k2 hI ⊢
  have o2 := k2 _ _ o1
  have hZ2 := k2 _ _ hZ
  have hT : ({ s with heap := h2 } : Shared).TypeIs (.ref S) "set" := ⟨_, o2, rfl⟩
  refine wpAny_bind (wpAny_holding ?_)
  unfold Builtin.List.listLengthHint
  refine wpAny_bind (wpAny_specialOf hT len_set ?_)
  (generalize hid : ("set.__len__" : String) = id0; (fail_if_success (clear hid id0)); wp_delta; rw [show splitId id0 = some ("set", "__len__") from by subst hid; decide +kernel]; subst hid)
  refine wpAny_bind (wpAny_isInstance (b := true) hT (by rw [isSubtype_type]; kernel_rfl) ?_)
  refine wpAny_bind (wpAny_typeOf hT ?_)
  refine wpAny_pure ?_
  rw [if_pos (by decide)]
  refine wpAny_bind (wpAny_rule ?_)
  refine wpAny_bind ?_
  show wpAny _ A.in1 (updateSeq Z (·.push .none) >>= fun _ => updateSeq Z (·.pop)) _ _ _
  refine wpAny_bind (wpAny_updateSeq hZ2 rfl ?_)
  have hZ3 := Heap.get?_update_self (Obj.mapSeq (·.push Value.none)) hZ2 rfl
  refine wpAny_updateSeq hZ3 rfl ?_
  have hZ4 : ∃ c, (((h2.update Z (Obj.mapSeq (·.push Value.none))).update Z (Obj.mapSeq (·.pop))).get? Z) = some (seqObj "list" #[] c) := ⟨_, Heap.get?_update_self (Obj.mapSeq (·.pop)) hZ3 rfl⟩
  have sb : Heap.SameBut Z h2 ((h2.update Z (Obj.mapSeq (·.push Value.none))).update Z (Obj.mapSeq (·.pop))) := (Heap.SameBut.update ..).trans (Heap.SameBut.update ..)
  generalize (h2.update Z (Obj.mapSeq (·.push Value.none))).update Z (Obj.mapSeq (·.pop)) = h3 at hZ4 sb ⊢
  obtain ⟨c, hZ4⟩ := hZ4
  have o3 := (sb.2 S n1).trans o2
  have hI3 := (sb.2 (Z + 1) n3).trans hI
  refine wpAny_pure ⟨plainId_quiet F.plain_extend_loop _, codeAny_builtin F.entry_extend_loop ?_⟩
  rw [Around.under_plainId F.plain_extend_loop _]
  show wpAny _ A.in1 (pyNext (.ref (Z + 1)) >>= _) _ _ _
  refine wpAny_bind (next_item rfl hI3 rfl o3 fun a h4 ha hI4 sb4 => ?_)
  injections a h4 ha hI4 sb4
  have o4 := (sb4.2 S n2).trans o3
  have hZ5 := (sb4.2 Z n4).trans hZ4
  show wpAny _ A.in1 (updateSeq Z (·.push v) >>= _) _ _ _
  refine wpAny_bind (wpAny_updateSeq hZ5 rfl ?_)
  have hZ6 : ∃ c, (h4.update Z (Obj.mapSeq (·.push v))).get? Z = some (seqObj "list" #[v] c) := ⟨_, Heap.get?_update_self (Obj.mapSeq (·.push v)) hZ5 rfl⟩
  have sb6 : Heap.SameBut Z h4 (h4.update Z (Obj.mapSeq (·.push v))) := Heap.SameBut.update ..
  generalize h4.update Z (Obj.mapSeq (·.push v)) = h5 at hZ6 sb6 ⊢
  obtain ⟨c6, hZ6⟩ := hZ6
  have o5 := (sb6.2 S n1).trans o4
  have hI5 := (sb6.2 (Z + 1) n3).trans hI4
  refine wpAny_pure ⟨plainId_quiet F.plain_extend_loop _, codeAny_builtin F.entry_extend_loop ?_⟩
  rw [Around.under_plainId F.plain_extend_loop _]
  show wpAny _ A.in1 (pyNext (.ref (Z + 1)) >>= _) _ _ _
  refine wpAny_bind (next_end hh hI5 ha o5 fun h6 eb => ?_)
  injections h6 eb
  have hZ7 := eb _ _ n4 hZ6
  refine wpAny_pure ?_
  show wpAny _ A (load Z >>= _) _ _ _
  refine wpAny_bind (wpAny_load hZ7 ?_)
  have all : ∀ b o, s.heap.get? b = some o → h6.get? b = some o := fun b o e => by
    have hb := Heap.lt_size e
    rw [hz] at hb
    have m1 : b ≠ Z := Nat.ne_of_lt hb
    have m2 : b ≠ Z + 1 := Nat.ne_of_lt (Nat.lt_succ_of_lt hb)
    exact eb b o m2 ((sb6.2 b m1).trans ((sb4.2 b m2).trans ((sb.2 b m1).trans (k2 _ _ (kS _ _ e)))))
  refine wpAny_pure (h _ _ all ?_)
  rw [hz]; exact Nat.le_of_lt (Heap.lt_size hZ7)
 fail "mk.b"
end
end
section
inductive EndV (h₀ : Heap) (L : Addr) (m : Str → Option Value) (need : List (Addr × Obj)) (s₁ : Shared) (_ : Value) (s₂ : Shared) : Prop
 | mk (h' : PySem.Heap) (tk : Nat) (h : s₂ = { s₁ with heap := h', toks := tk } ∧ Fr h₀ L h' m ∧ News h₀ L h' need) : EndV h₀ L m need s₁ _ s₂
theorem EndV.intro {h₀ h' : Heap} {L : Addr} {m : Str → Option Value} {need news' : List (Addr × Obj)} {k : Value} {s₁ : Shared} {tk : Nat} (F : Fr h₀ L h' m) (N : News h₀ L h' news') (hn : ∀ p ∈ need, p ∈ news') :
 EndV h₀ L m need s₁ k { s₁ with heap := h', toks := tk } := ⟨h', tk, rfl, F, fun p hp => N p (hn p hp)⟩
section
variable {prog : Program} {w : World} {A : Around} {E : Value → Shared → Prop} {s : Shared} {h₀ : Heap} {L S a : Addr} {m : Str → Option Value} {news : List (Addr × Obj)} {v : Value}
theorem sort_one {f : Value} {n : Nat} {P : PySem.Fin → Shared → Prop} (F : Fr h₀ L s.heap m) (N : News h₀ L s.heap news) (ho : s.heap.get? a = some (seqObj "list" #[v] n)) (haL : a ≠ L) (ha0 : h₀.get? a = none) (hna : ∀ p ∈ news, p.1 ≠ a)
   (turn : ∀ (h : Heap) (tk : Nat) (own : List (Addr × Obj)), Fr h₀ L h m → News h₀ L h (news ++ own) →
     wpAny (model prog w) A (call f [v]) (EndV h₀ L m (news ++ own) { s with heap := h, toks := tk }) (fun _ _ => False) { s with heap := h, toks := tk })
   (h : ∀ h' tk c, Fr h₀ L h' m → News h₀ L h' ((a, seqObj "list" #[v] c) :: news) → P (.done (.ret .none)) { s with heap := h', toks := tk }) :
   wpAny (model prog w) A (ksk_tree a f false) P E s := by
 fail "mk.a"
 case zl =>
  revert F N ho haL ha0 hna turn h
  revert prog w A E s h₀ L a m news v f n P
  intro prog w A E s h₀ L a m news v f n P F N ho haL ha0 hna turn h
  have ha : a < s.heap.objs.size := Heap.lt_size ho
  have s1 := Heap.SameBut.update s.heap a (Obj.mapSeq fun _ => (#[] : Array Value))
  obtain ⟨e1, ho1⟩ : ∃ e1, (s.heap.update a (Obj.mapSeq fun _ => (#[] : Array Value))).get? a = some (seqObj "list" #[] e1) := ⟨_, get?_update_seq ho fun _ => #[]⟩
  have F1 := ksk_fr F s1 haL ha0
  have N1 := ksk_news N s1 hna
  have hz1 : (s.heap.update a (Obj.mapSeq fun _ => (#[] : Array Value))).objs.size = s.heap.objs.size := Heap.size_update ..
  unfold ksk_tree
  refine wpAny_bind (listItems_at ho rfl ?_)
  refine wpAny_bind (listUpdate_at ho rfl ?_ (by show (1 : Nat) ≤ _; rw [sizeLine_eq]; omega) (Nat.zero_le _))
  refine wpAny_bind (seqEpoch_at ho1 rfl ?_)
  generalize s.heap.update a (Obj.mapSeq fun _ => (#[] : Array Value)) = h1 at ho1 F1 N1 hz1 ⊢
  refine wpAny_bind (wpAny_newTuple ?_ (by show (1 : Nat) ≤ _; rw [sizeLine_eq]; omega))
  refine wpAny_bind (wpAny_newList ?_ (Nat.zero_le _))
  have hk2 : (h1.push (seqObj "tuple" #[v] 0)).objs.size = s.heap.objs.size + 1 := by rw [size_push', hz1]
  have F3 := (F1.push (seqObj "tuple" #[v] 0)).push (seqObj "list" #[] 0)
  have N3 : News h₀ L ((h1.push (seqObj "tuple" #[v] 0)).push (seqObj "list" #[] 0)) (news ++ [(s.heap.objs.size + 1, seqObj "list" #[] 0), (a, seqObj "list" #[] e1)]) := fun p hp => by
    have hLk : L < (h1.push (seqObj "tuple" #[v] 0)).objs.size := (F1.push _).ns.lt
    rcases List.mem_append.mp hp with hp | hp
    · exact ⟨Heap.get?_push_of_some _ (Heap.get?_push_of_some _ (N1 p hp).1), (N1 p hp).2⟩
    · rcases List.mem_cons.mp hp with rfl | hp
      ·rw [← hk2]
       exact ⟨Heap.get?_push_size _ rfl, Nat.ne_of_gt hLk, Heap.get?_none_of_le (Nat.le_trans F.above (Nat.le_of_lt hLk))⟩
      ·rw [List.mem_singleton.mp hp]
       exact ⟨Heap.get?_push_of_some _ (Heap.get?_push_of_some _ ho1), haL, ha0⟩
  show wpAny _ _ (holding [.ref h1.objs.size, .ref (h1.push (seqObj "tuple" #[v] 0)).objs.size] (ksk_rest a f false #[v] e1 (.ref (h1.push (seqObj "tuple" #[v] 0)).objs.size))) _ _ { s with heap := (h1.push (seqObj "tuple" #[v] 0)).push (seqObj "list" #[] 0) }
  rw [hk2]
  generalize (h1.push (seqObj "tuple" #[v] 0)).push (seqObj "list" #[] 0) = h2 at F3 N3 ⊢
  have hka : s.heap.objs.size + 1 ≠ a := Nat.ne_of_gt (Nat.lt_succ_of_lt ha)
  have hnk : ∀ p ∈ news, p.1 ≠ s.heap.objs.size + 1 := fun p hp => Nat.ne_of_lt (Nat.lt_succ_of_lt (Heap.lt_size (N p hp).1))
  generalize s.heap.objs.size + 1 = K at N3 hka hnk ⊢
  refine wpAny_holding ?_
  unfold ksk_rest
  refine wpAny_bind (wpAny_rule ?_)
  rw [show forIn (#[v] : Array Value) PUnit.unit _ = forIn [v] PUnit.unit _ from by rw [← Array.forIn_toList]]
  rw [List.forIn_cons]
  refine wpAny_bind (wpAny_bind (wpAny_bind (wpAny_attempt (wpAny_mono (turn _ _ _ F3 N3) (fun k s'' he => ?_) fun _ _ hF => hF.elim))))
  injections k s'' he
  obtain ⟨g, tk, pz2⟩ := he
  rcases pz2 with ⟨rfl, pz3⟩
  obtain ⟨F4, N4⟩ := pz3
  dsimp only
  have nk := N4 (K, seqObj "list" #[] 0) (List.mem_append_right _ (.head _))
  have na := N4 (a, seqObj "list" #[] e1) (List.mem_append_right _ (.tail _ (.head _)))
  have Nn : News h₀ L g news := fun p hp => N4 p (List.mem_append_left _ hp)
  have sb := Heap.SameBut.update g K (Obj.mapSeq (·.push k))
  obtain ⟨c2, hc2⟩ : ∃ c2, (g.update K (Obj.mapSeq (·.push k))).get? K = some (seqObj "list" #[k] c2) := ⟨_, get?_update_seq nk.1 (·.push k)⟩
  refine wpAny_bind (listUpdate_at nk.1 rfl ?_ (by show (0 : Nat) ≤ _; exact Nat.zero_le _) (by show (1 : Nat) ≤ _; rw [sizeLine_eq]; omega))
  have F5 := ksk_fr F4 sb nk.2.1 nk.2.2
  have N5 := ksk_news Nn sb hnk
  have na5 := (sb.2 a hka.symm).trans na.1
  generalize g.update K (Obj.mapSeq (·.push k)) = g2 at F5 N5 na5 hc2 ⊢
  refine wpAny_pure (wpAny_pure ?_)
  refine wpAny_bind (listItems_at hc2 rfl ?_)
  unfold ksk_end
  dsimp only
  rw [if_neg Bool.false_ne_true, if_pos (show (#[v] : Array Value).size < 2 by show (1 : Nat) < 2; decide), if_pos (show (#[v] : Array Value).size < 2 by show (1 : Nat) < 2; decide)]
  refine wpAny_bind (wpAny_pure ?_)
  rw [StateT.run_pure]
  refine wpAny_bind (wpAny_pure ?_)
  dsimp only
  rw [if_neg Bool.false_ne_true]
  have sb3 := Heap.SameBut.update g2 K (Obj.mapSeq fun _ => (#[] : Array Value))
  have na6 := (sb3.2 a hka.symm).trans na5
  have F6 := ksk_fr F5 sb3 nk.2.1 nk.2.2
  have N6 := ksk_news N5 sb3 hnk
  unfold ksk_tail
  dsimp only
  refine wpAny_bind (listUpdate_at hc2 rfl ?_ (by show (1 : Nat) ≤ _; rw [sizeLine_eq]; omega) (Nat.zero_le _))
  generalize g2.update K (Obj.mapSeq fun _ => (#[] : Array Value)) = g3 at F6 N6 na6 ⊢
  refine wpAny_bind (wpAny_letGo ?_)
  refine wpAny_bind (seqEpoch_at na6 rfl ?_)
  have e7 : (arrOf (SortSt.mk' general' (#[k].zip #[v]) #[] 7 none)).map (·.2) = #[v] := by show (#[k].zip #[v]).map (·.2) = #[v]; simp
  rw [e7]
  obtain ⟨c8, hc8⟩ : ∃ c8, (g3.update a (Obj.mapSeq fun _ => (#[v] : Array Value))).get? a = some (seqObj "list" #[v] c8) := ⟨_, get?_update_seq na6 fun _ => #[v]⟩
  have sb8 := Heap.SameBut.update g3 a (Obj.mapSeq fun _ => (#[v] : Array Value))
  rw [if_neg Bool.false_ne_true]
  refine wpAny_bind (listUpdate_at na6 rfl ?_ (Nat.zero_le _) (by show (1 : Nat) ≤ _; rw [sizeLine_eq]; omega))
  simp only [bne_self_eq_false, Bool.false_eq_true, if_false]
  refine wpAny_pure (h _ _ c8 (ksk_fr F6 sb8 haL ha0) fun p hp => ?_)
  injections p hp
  rcases List.mem_cons.mp hp with rfl | hp
  · exact ⟨hc8, haL, ha0⟩
  · exact ksk_news N6 sb8 hna p hp
 fail "mk.b"
theorem sorted_set1 {q : Addr} {hs : Int} {n : Nat} {Q : Value → Shared → Prop} (hh : A.handled = none) (F : Fr h₀ L s.heap m) (N : News h₀ L s.heap news) (hS : (S, set1 (!w.params.followText "set-order") hs v n) ∈ news)
   (turn : ∀ (h : Heap) (tk : Nat) (own : List (Addr × Obj)), Fr h₀ L h m → News h₀ L h (news ++ own) →
    wpAny (model prog w) A.in1.in1 (call (.ref q) [v]) (EndV h₀ L m (news ++ own) { s with heap := h, toks := tk }) (fun _ _ => False) { s with heap := h, toks := tk })
   (h : ∀ D h' tk c, Fr h₀ L h' m → News h₀ L h' ((D, seqObj "list" #[v] c) :: news) → (∀ q ∈ news, q.1 < D) → Q (.ref D) { s with heap := h', toks := tk }) :
   wpAny (model prog w) A (call (.builtin "sorted") [.ref S] [(Str.ofString "key", .ref q)]) Q E s := by
 fail "mk.a"
 case zl =>
  revert hh F N hS turn h
  revert prog w A E s h₀ L S m news v q hs n Q
  intro prog w A E s h₀ L S m news v q hs n Q hh F N hS turn h
  refine call_function_entry_kw kind_sorted plain_sorted entry_sorted (ksk_s1 _ _) ?_
  unfold Builtin.«sorted»
  refine wpAny_bind (m := checkCount "sorted" 1 1 _) (wpAny_pure ?_)
  refine wpAny_bind (collect_set1 hh (N _ hS).1 fun h1 tk1 keep hle => ?_)
  injections h1 tk1 keep hle
  refine wpAny_bind (wpAny_newList ?_ (by show (1 : Nat) ≤ _; rw [sizeLine_eq]; omega))
  have F1 := (F.kept keep).push (seqObj "list" #[v] 0)
  have keep2 : ∀ b o, s.heap.get? b = some o → (h1.push (seqObj "list" #[v] 0)).get? b = some o := fun b o e => Heap.get?_push_of_some _ (keep b o e)
  have N1 := N.grown keep2
  have hL : L < h1.objs.size := Nat.lt_of_lt_of_le F.ns.lt hle
  have hoL : (h1.push (seqObj "list" #[v] 0)).get? h1.objs.size = some (seqObj "list" #[v] 0) := Heap.get?_push_size _ rfl
  have hlt : ∀ q ∈ news, q.1 < h1.objs.size := fun q hq => Nat.lt_of_lt_of_le (Heap.lt_size (N q hq).1) hle
  have h00 : h₀.get? h1.objs.size = none := Heap.get?_none_of_le (Nat.le_trans F.above (Nat.le_of_lt hL))
  show wpAny _ _ _ _ _ { s with heap := h1.push (seqObj "list" #[v] 0), toks := tk1 }
  generalize h1.push (seqObj "list" #[v] 0) = h2 at F1 N1 hoL ⊢
  generalize h1.objs.size = D at hL hoL hlt h00 ⊢
  refine wpAny_bind (wpAny_holding (wpAny_call_entry_kw slot_list_sort ⟨_, hoL, rfl⟩ entry_list_sort ?_ (ksk_l1 _ _)))
  show wpAny (model prog w) A.in1.in1 (Builtin.«list.sort» ⟨[.ref D], [(Str.ofString "key", .ref q)]⟩) _ _ _
  rw [ksk_t1]
  refine sort_one (s := { s with heap := h2, toks := tk1 }) F1 N1 hoL (Nat.ne_of_gt hL) h00 (fun p hp => Nat.ne_of_lt (hlt p hp)) turn fun h' tk c F' N' => ⟨_, rfl, ?_⟩
  exact wpAny_pure ⟨_, rfl, h D h' tk c F' N' hlt⟩
 fail "mk.b"
end
end
section
local macro_rules | `(tactic| k_room) => `(tactic| ktr_room)
theorem start_spec (hfill : PR = PR) (B : Below A₀ base outer h₀) (F : Fr h₀ L s.heap m) (X : (K0.heap_1 w.params).In h₀) (T : Top p loose mean mg mb h₀) (hk : cs.kind = .function) (hd : dp + 12 < recursionLimit) (hu : un + 120 < cLine)
   (W WD aW aD aP aDecl aNs aMap aPres e0 tup aAt aNN : Addr) (tk : Nat → Tok) (seen done : Bool) (ig : Tok) (rest : List (Addr × Obj)) (we n3 n4 n5 k0 dn pn : Nat) (es : List Addr) (x : Str) (t t1 t2 : Tok)
   (hx : x.length ≤ 100) (hb : ¬ (Str.ofString "{") = Txt.item x 0) (hes : es.length ≤ 10) (ps nss pres decl : Array Value) (hdecl : decl = (Value.ref e0 :: es.map Value.ref).toArray)
   (PT : Addr) (tb : Array Value) (hCd : CodeHd base 125 PT) (htb : LamTab { line := 135, col := 71, endLine := 135, endCol := 96 } (Str.ofString "C14NWriterTarget._start.<locals>.<lambda>") tb rest)
   (N : News h₀ L s.heap ((PT, tabObj tb) :: (W, instObj 150 WD) :: (WD, dictOf (wEs w.params tk aW aD aDecl aNs aMap aPres seen done ig) we) :: (aD, listOf #[] dn) :: (aW, boundO "list.append" (.ref aP)) :: (aP, listOf ps pn) :: (aDecl, listOf decl n3) :: (aNs, listOf nss n4) :: (aPres, listOf (pres.push (.bool false)) n5) :: (aAt, dictOf [] 0) :: (aNN, listOf #[] 0) :: rest))
   (hE0 : (e0, listOf #[.ref tup] k0) ∈ rest) (hTup : (tup, tupO #[.str xmlS t1, .str (Str.ofString "xml") t2]) ∈ rest) (hEs : ∀ e ∈ es, ∃ k, (e, listOf #[] k) ∈ rest)
   (hsm : (aAt == sysModules) = false) (hps : ps.size ≤ 900) (hnss : nss.size ≤ 1000) (hpres : pres.size ≤ 1000) (hde : decl.size ≤ 1000)
   (hinc : Inc [PT, aP, aW, WD, W, aD, aDecl, aNs, aPres, aAt, aNN]) (hap : Apart [PT, aP, WD, aDecl, aNs, aPres, aD] rest)
   (hret : ∀ h' tk' g' c1 oc eN t3 t4 pn' n4' n5' we', Fr h₀ L h' m → News h₀ L h' ((PT, tabObj #[rawInt ((135 : Nat) : Int), rawInt ((71 : Nat) : Int), .ref c1]) :: (W, instObj 150 WD) :: (WD, dictOf (wEs w.params tk aW aD aDecl aNs aMap aPres true done ig) we') :: (aD, listOf #[] dn) :: (aW, boundO "list.append" (.ref aP)) :: (aP, listOf ((ps.push (.str (Str.ofString "<" ++ x) t3)).push (.str (Str.ofString ">") t4)) pn') :: (aDecl, listOf decl n3) :: (aNs, listOf (nss.push (.ref eN)) n4') :: (aPres, listOf ((pres.push (.bool false)).push (.bool false)) n5') :: (aAt, dictOf [] 0) :: (aNN, listOf #[] 0) :: (c1, oc) :: rest) →
     LamTab { line := 135, col := 71, endLine := 135, endCol := 96 } (Str.ofString "C14NWriterTarget._start.<locals>.<lambda>") #[rawInt ((135 : Nat) : Int), rawInt ((71 : Nat) : Int), .ref c1] ((c1, oc) :: rest) → Apart [PT, aP, WD, aDecl, aNs, aPres, aD] ((c1, oc) :: rest) → (AllBare s.gens → AllBare g') → Q .none { s with heap := h', toks := tk', gens := g' })
   :
   wpAny (model Challenge.rw_to0089_01.prog w) (ktrTop dp un gd cn cs L a ccd cl outer) (call (.ref 126) [.ref W, .str x t, .ref aAt, .ref aNN]) Q E s := by
 fail "mk.a"
 case zl =>
  revert hfill B F X T hk hd hu hx hb hes hdecl hCd htb N hE0 hTup hEs hsm hps hnss hpres hde hinc hap hret
  revert w p loose mean mg mb dp un gd cn cs a ccd cl outer A₀ base h₀ L m s Q E W WD aW aD aP aDecl aNs aMap aPres e0 tup aAt aNN tk seen done ig rest we n3 n4 n5 k0 dn pn es x t t1 t2 ps nss pres decl PT tb
  intro w p loose mean mg mb dp un gd cn cs a ccd cl outer A₀ base h₀ L m s Q E W WD aW aD aP aDecl aNs aMap aPres e0 tup aAt aNN tk seen done ig rest we n3 n4 n5 k0 dn pn es x t t1 t2 ps nss pres decl PT tb hfill B F X T hk hd hu hx hb hes hdecl hCd htb N hE0 hTup hEs hsm hps hnss hpres hde hinc hap hret
  simp only [Inc, Apart, and_true] at hinc hap
  obtain ⟨i0, i1, i2, i3, i4, i5, i6, i7, i8, i9⟩ := hinc
  obtain ⟨j0, j1, j2, j3, j4, j5, j8⟩ := hap
  revert X; k_fill; intro X; refine wpAny_call ?_; first | k_dflt (fail "my.enter") | fail
  (repeat' first | ((with_reducible show wpAny _ _ (exec (.Assign _ (.DictComp ..) ..) _) _ _ _); k_dflt (refine' dcomp_one ?d10 rfl ?d1 ?d2 ?d3 ?d4 ?d5 ?d6 ?d7 ?d8 ?d9 ?_ ?d0; (case d10 => k_asm); (case d1 | d2 => exact rfl); (case d3 => decide); (case d4 => exact rfl); (case d5 => decide); (case d6 | d7 | d8 | d9 => exact rfl); (case d0 => intro _; rfl))) | ((with_reducible show wpAny _ _ (eval (.Set ..) _) _ _ _); k_dflt (refine' set_star ?hh ?hF ?hN ?hX ?hc ?hd ?hsm ?hm1 ?hm2 (fun s' Q' F' h' => ?_) (fun s' Q' F' h' => ?_) (fun D' h' tk' hs' n' F' N' l1 => ?_); (case hh => rfl); (case hF | hN | hX => k_asm); (case hm1 | hm2 | hc => rfl); (case hd => k_mem); (case hsm => assumption); (all_goals (try (revert D' h' tk' hs' n' F' N' l1; intro D' h' tk' hs' n' F' N' l1))); (all_goals (try (revert s' Q' F' h'; intro s' Q' F' h'))); rotate_left 2; (try k_lt l1))) | fail "k1")
  all_goals (try assumption)
  k_dflt (refine' lam_any (rest := rest) ?q ?F ?F' ?N ?T ?C ?cd ?U ?hp ?hr ?cl (fun f c1 oc vs tq ctv h1 tk1 F1 N1 hoc hvs l1 l2 hc1 => ?_); (case hp => exact htb); (case q | F => exact rfl); (case F' | N | T => k_asm); (case C => kn_code); (case cd => exact rfl); (case U => k_updF); (case hr => (intro q hq; fail "my.mem")); (case cl => exact rfl))
  injections f c1 oc vs tq ctv h1 tk1 F1 N1 hoc hvs l1 l2 hc1
  dsimp only at N1
  k_lt l1
  have e0 : @Ne Nat PT c1 := by
    rcases hc1 with h | h
    · exact Nat.ne_of_lt (h (PT, _) (by k_mem))
    · exact fun q => j0 _ h q.symm
  have e1 : @Ne Nat aP c1 := by
    rcases hc1 with h | h
    · exact Nat.ne_of_lt (h (aP, _) (by k_mem))
    · exact fun q => j1 _ h q.symm
  have e2 : @Ne Nat WD c1 := by
    rcases hc1 with h | h
    · exact Nat.ne_of_lt (h (WD, _) (by k_mem))
    · exact fun q => j2 _ h q.symm
  have e3 : @Ne Nat aDecl c1 := by
    rcases hc1 with h | h
    · exact Nat.ne_of_lt (h (aDecl, _) (by k_mem))
    · exact fun q => j3 _ h q.symm
  have e4 : @Ne Nat aNs c1 := by
    rcases hc1 with h | h
    · exact Nat.ne_of_lt (h (aNs, _) (by k_mem))
    · exact fun q => j4 _ h q.symm
  have e5 : @Ne Nat aPres c1 := by
    rcases hc1 with h | h
    · exact Nat.ne_of_lt (h (aPres, _) (by k_mem))
    · exact fun q => j5 _ h q.symm
  have e8 : @Ne Nat aD c1 := by
    rcases hc1 with h | h
    · exact Nat.ne_of_lt (h (aD, _) (by k_mem))
    · exact fun q => j8 _ h q.symm
  have hcons : ∀ X : Nat, X ≠ c1 → (∀ q ∈ rest, q.1 ≠ X) → ∀ q ∈ (c1, oc) :: rest, q.1 ≠ X := fun X h1 h2 q hq => by
    rcases List.mem_cons.mp hq with rfl | hq
    · exact Ne.symm h1
    · exact h2 q hq
  have hapR : Apart [PT, aP, WD, aDecl, aNs, aPres, aD] ((c1, oc) :: rest) := ⟨hcons _ e0 j0, hcons _ e1 j1, hcons _ e2 j2, hcons _ e3 j3, hcons _ e4 j4, hcons _ e5 j5, hcons _ e8 j8, trivial⟩
  have htb' : LamTab { line := 135, col := 71, endLine := 135, endCol := 96 } (Str.ofString "C14NWriterTarget._start.<locals>.<lambda>") #[rawInt ((135 : Nat) : Int), rawInt ((71 : Nat) : Int), .ref c1] ((c1, oc) :: rest) := .inr ⟨c1, oc, vs, tq, rfl, .head _, hoc, hvs⟩
  clear hcons
  (repeat' first | ((with_reducible show wpAny _ _ (subscriptTail _ (PySem.Expr.Constant ..) (Value.ref _) (Value.int _ _)) _ _ _); k_dflt (refine' item_tupleT ?t ?a ?b ?c ?d ?_; (case t => exact News.isTup (by k_asm) (by k_mem)); (case a | b => decide); (case c | d => rfl); k_whole)) | ((with_reducible show wpAny _ _ (subscriptTail _ (PySem.Expr.UnaryOp ..) (Value.ref _) (Value.int _ _)) _ _ _); k_dflt (refine' last_push ?hl ?_; (case hl => is_list))) | ((fail_if_success (with_reducible show wpAny _ _ (subscriptTail (PySem.Expr.Name _ _) _ _ _) _ _ _)); (with_reducible show wpAny _ _ (subscriptTail _ (PySem.Expr.UnaryOp ..) (Value.ref _) _) _ _ _); k_dflt (refine kba_turn (value' := PySem.Expr.Name (PySem.Str.ofString "_") ⟨0, 0, 0, 0⟩) (fun _ => rfl) ?_)) | ((with_reducible show wpAny _ _ (subscriptTail _ _ (Value.ref _) (Value.str _ _)) _ _ _); k_dflt (refine' dict1_item ?hN ?hm ?_; (case hN => k_asm); (case hm => k_mem))) | ((with_reducible show wpAny _ _ (call (Value.builtin "dict.get") _) _ _ _); k_dflt (refine' dict0_get ?hN ?hm ?hd ?_; (case hN => k_asm); (case hm => k_mem); (case hd => assumption))) | ((with_reducible show wpAny _ _ (getMethod (Value.ref _) "get" _) _ _ _); k_dflt (refine' dict0_method ?hN ?hm ?_; (case hN => k_asm); (case hm => k_mem))) | ((with_reducible show wpAny _ _ (truthy (Value.ref _)) _ _ _); k_dflt (refine' truthy_dict0 ?hN ?hm ?hd ?_; (case hN => k_asm); (case hm => k_mem); (case hd => assumption))) | ((with_reducible show DEnd ..); (refine' DEnd.intro1 ?hF ?hN ?hO ?hA ?hB ?hC ?hm ?_; (case hF | hN => k_asm); (case hO | hA | hB => assumption); (case hC => omega); (case hm => k_mem); intro h' tk' n' F' N' l1 l2 l3; (try k_lt l1); (try k_lt2 l2))) | ((with_reducible show DIter ..); (refine' DIter.intro ?hF ?hN ?hm ?_; (case hF | hN => k_asm); (case hm => k_mem); intro I' oI' C' oC' D' m2' h' tk' E' hoC' hmx' F' N' l1 l2; (have l0 := l1); (try k_lt l1); (have l3 := l2.1); (have l4 := l2.2))) | ((with_reducible show EndV ..); (refine EndV.intro (by assumption) (by assumption) (by k_sub))) | (k_here; (with_reducible show wpAny _ _ (call (Value.builtin _) _ _) _ _ _); k_dflt (refine' sorted_set1 ?hh ?hF ?hN ?hS (fun h' tk' own' F' N' => ?_) (fun D' h' tk' c' F' N' l1 => ?_); (case hh => rfl); (case hF | hN => k_asm); (case hS => k_mem); (all_goals (try (revert D' h' tk' c' F' N' l1; intro D' h' tk' c' F' N' l1))); (all_goals (try (revert h' tk' own' F' N'; intro h' tk' own' F' N')))); (all_goals (try simp only [List.nil_append, List.cons_append, List.append_nil] at N')); (all_goals (try k_lt l1))) | (fail "g1"; k_dflt (refine' call_meth (f := Value.ref 90) ?k8 ?k9 ?_; (case k8 => k_asm); (case k9 => k_mem)); k_dflt (refine' qname_code rfl ?k1 ?k2 ?k3 ?k4 ?k5 ?k6 ?k7 _ _ _ _ _ _ _ _ _ _ _ _ _ _ _ _ _ _ _ _ _ _ _ _ ?hx ?hb ?hes ?hd ?hN ?hW ?hWD ?hDe ?hE ?hT ?hS (fun R' h' tk' g' t1' t2' t3' F' N' l1 hg' => ?_); (case k1 | k2 | k3 | k4 | hN => k_asm); (case hW | hWD | hDe => k_mem); (case k5 => rfl); (case k6 => first | ktr_room | k_room); (case k7 => ktr_units); (case hx | hb | hd | hes => assumption); (case hE | hT => fail "my.mem"); (case hS => fail "my.mems"); (all_goals (try (revert R' h' tk' g' t1' t2' t3' F' N' l1 hg'; intro R' h' tk' g' t1' t2' t3' F' N' l1 hg'))); (try k_lt l1); (try dsimp only); (try k_unmd))) | ((with_reducible show wpAny _ _ (setAttr (Value.ref _) _ _) _ _ _); k_dflt (refine' set_dict ?k1 ?k2 ?k3 ?k4 ?k5 ?k6 ?k7 ?k8 ?k9 ?k10 ?k11 ?k12 ?k13 ?_; (case k1 | k2 | k3 => k_asm); (case k4 => k_inst); (case k5 => exact rfl); (case k6 | k7 | k8 | k9 => k_is); (case k10 => exact rfl); (case k11 => first | with_reducible exact wEs_done | exact wEs_seen | exact wEs_done); (case k12 => k_upd); (case k13 => exact Nat.le_of_ble_eq_true rfl); intro h' F' N')) | (fail "g14"; k_dflt (refine' append_bound ?h0 ?hl ?hm ?hu ?hz ?_; (case h0 | hl => k_asm); (case hm => k_mem); (case hu => k_upd); (case hz => size_fits); intro h' F' N')) | ((with_reducible show And _ _); ((with_reducible show (Heap.get? _ _ = some (boundO _ _)) ∧ _); k_dflt (refine ⟨by first | exact News.get (by k_asm) (by k_mem) | exact Fr.keep (by k_asm) _ _ ((by assumption : Frag.In _ _) _ _ (by k_is)), ?_⟩); (try dsimp only [List.nil_append, List.cons_append]))) | (fail "g2"; k_dflt (refine' callWith_bound' ?h0 ?_; (case h0 => first | exact News.get (by k_asm) (by k_mem) | exact Fr.keep (by k_asm) _ _ ((by assumption : Frag.In _ _) _ _ (by k_is))))) | ((fail "g7"; dsimp only)) | fail "k1")
  exact hret _ _ _ c1 oc _ _ _ _ _ _ _ (by k_asm) (news_sub (by k_asm) (by fail "my.subs")) htb' hapR (by assumption)
 fail "mk.b"
end
section
theorem start_use (hfill : PR = PR) (B : Below A₀ base outer h₀) (F : Fr h₀ L s.heap m) (X : (K0.heap_1 w.params).In h₀) (T : Top p loose mean mg mb h₀) (hk : cs.kind = .function) (hd : dp + 12 < recursionLimit) (hu : un + 120 < cLine)
  (PT W WD aW aD aP aDecl aNs aMap aPres e0 tup aAt aNN : Addr) (tk : Nat → Tok) (seen done : Bool) (ig : Tok) (rest : List (Addr × Obj)) (we n3 n4 n5 k0 dn pn : Nat) (es : List Addr) (x : Str) (t t1 t2 : Tok)
  (hx : x.length ≤ 100) (hb : ¬ (Str.ofString "{") = Txt.item x 0) (hes : es.length ≤ 9) (ps nss pres decl : Array Value) (hdecl : decl = (Value.ref e0 :: es.map Value.ref).toArray)
  (tb : Array Value) (hCd : CodeHd base 125 PT) (htb : LamTab { line := 135, col := 71, endLine := 135, endCol := 96 } (Str.ofString "C14NWriterTarget._start.<locals>.<lambda>") tb rest)
  (N : News h₀ L s.heap ((aNN, listOf #[] 0) :: (W, instObj 150 WD) :: (WD, dictOf (wEs w.params tk aW aD aDecl aNs aMap aPres seen done ig) we) :: (aD, listOf #[] dn) :: (aW, boundO "list.append" (.ref aP)) :: (aP, listOf ps pn) :: (aDecl, listOf (decl.push (.ref aNN)) n3) :: (aNs, listOf nss n4) :: (aPres, listOf (pres.push (.bool false)) n5) :: (PT, tabObj tb) :: (aAt, dictOf [] 0) :: rest))
  (hE0 : (e0, listOf #[.ref tup] k0) ∈ rest) (hTup : (tup, tupO #[.str xmlS t1, .str (Str.ofString "xml") t2]) ∈ rest) (hEs : ∀ e ∈ es, ∃ k, (e, listOf #[] k) ∈ rest)
  (hsm : (aAt == sysModules) = false) (hps : ps.size ≤ 900) (hnss : nss.size ≤ 900) (hpres : pres.size ≤ 900) (hde : decl.size ≤ 900)
  (hinc : Inc [PT, aP, aW, WD, W, aD, aDecl, aNs, aPres, aAt, aNN]) (hap : Apart [PT, aP, WD, aDecl, aNs, aPres, aD] rest)
  (hret : ∀ h' tk' g' tb' eN (t2' : Tok) t3 t4 dn' pn' n3' n4' n5' we' rest', Fr h₀ L h' m → News h₀ L h' ((W, instObj 150 WD) :: (WD, dictOf (wEs w.params tk aW aD aDecl aNs aMap aPres true done ig) we') :: (aD, listOf #[] dn') :: (aW, boundO "list.append" (.ref aP)) :: (aP, listOf ((ps.push (.str (Str.ofString "<" ++ x) t3)).push (.str (Str.ofString ">") t4)) pn') :: (aDecl, listOf (decl.push (.ref aNN)) n3') :: (aNs, listOf (nss.push (.ref eN)) n4') :: (aPres, listOf ((pres.push (.bool false)).push (.bool false)) n5') :: (PT, tabObj tb') :: rest') →
   LamTab { line := 135, col := 71, endLine := 135, endCol := 96 } (Str.ofString "C14NWriterTarget._start.<locals>.<lambda>") tb' rest' → Apart [PT, aP, WD, aDecl, aNs, aPres, aD] rest' → (aNN, listOf #[] 0) ∈ rest' → (∀ q ∈ rest, q ∈ rest') → (AllBare s.gens → AllBare g') → Q .none { s with heap := h', toks := tk', gens := g' })
  :
  wpAny (model Challenge.rw_to0089_01.prog w) (ktrTop dp un gd cn cs L a ccd cl outer) (call (.ref 126) [.ref W, .str x t, .ref aAt, .ref aNN]) Q E s := by
 have hinc' := hinc
 simp only [Inc, and_true] at hinc'
 simp only [Apart, and_true] at hap
 rcases hinc' with ⟨i0, i1, i2, i3, i4, i5, i6, i7, i8, i9⟩
 rcases hap with ⟨j0, j1, j2, j3, j4, j5, j8⟩
 have hc : ∀ X : Nat, X < aNN → (∀ q ∈ rest, q.1 ≠ X) → ∀ q ∈ (aNN, listOf #[] 0) :: rest, q.1 ≠ X := fun X h1 h2 q hq => by
  rcases List.mem_cons.mp hq with rfl | hq
  ·exact Nat.ne_of_gt h1
  ·exact h2 q hq
 refine start_spec hfill B F X T hk hd hu W WD aW aD aP aDecl aNs aMap aPres e0 tup aAt aNN tk seen done ig ((aNN, listOf #[] 0) :: rest) we n3 n4 n5 k0 dn pn (es ++ [aNN]) x t t1 t2 hx hb (by simp; omega) ps nss pres (decl.push (.ref aNN)) (by rw [hdecl]; simp) PT tb hCd ?_ (news_sub N ?_) (.tail _ hE0) (.tail _ hTup) ?_ hsm hps (by omega) (by omega) (by rw [Array.size_push]; omega) hinc
  ⟨hc _ (by omega) j0, hc _ (by omega) j1, hc _ (by omega) j2, hc _ (by omega) j3, hc _ (by omega) j4, hc _ (by omega) j5, hc _ (by omega) j8, trivial⟩ ?_
 ·rcases htb with h | ⟨c', oc, vs, tq, h1, h2, h3, h4⟩
  ·exact .inl h
  ·exact .inr ⟨c', oc, vs, tq, h1, .tail _ h2, h3, h4⟩
 ·fail "my.subs"
 ·intros e he
  rcases List.mem_append.mp he with he | he
  ·rcases hEs e he with ⟨k, hk⟩
   exact ⟨k, .tail _ hk⟩
  ·rw [List.mem_singleton.mp he]
   exact ⟨0, .head _⟩
 ·intros h' tk' g' c1 oc eN t3 t4 pn' n4' n5' we' F' N' htb' hap' hg'
  simp only [Apart, and_true] at hap'
  rcases hap' with ⟨p0, p1, p2, p3, p4, p5, p7⟩
  refine hret h' tk' g' _ eN 0 t3 t4 dn pn' n3 n4' n5' we' ((c1, oc) :: (aNN, listOf #[] 0) :: rest) F' (news_sub N' ?_) htb' ⟨p0, p1, p2, p3, p4, p5, p7, trivial⟩ (.tail _ (.head _)) (fun q hq => .tail _ (.tail _ hq)) hg'
  fail "my.subs"
end
section
theorem start0_spec (hfill : PR = PR) (B : Below A₀ base outer h₀) (F : Fr h₀ L s.heap m) (X : (K0.heap_1 w.params).In h₀) (T : Top p loose mean mg mb h₀) (hk : cs.kind = .function) (hd : dp + 20 < recursionLimit) (hu : un + 200 < cLine)
   (PT W WD aW aD aP aDecl aNs aMap aPres e0 tup aAt : Addr) (tk : Nat → Tok) (seen done : Bool) (ig : Tok) (rest : List (Addr × Obj)) (we n3 n4 n5 k0 dn pn : Nat) (es : List Addr) (x : Str) (t t1 t2 : Tok)
   (hx : x.length ≤ 100) (hb : ¬ (Str.ofString "{") = Txt.item x 0) (hes : es.length ≤ 9) (ps nss pres decl : Array Value) (hdecl : decl = (Value.ref e0 :: es.map Value.ref).toArray)
   (tb : Array Value) (hCd : CodeHd base 125 PT) (htb : LamTab { line := 135, col := 71, endLine := 135, endCol := 96 } (Str.ofString "C14NWriterTarget._start.<locals>.<lambda>") tb rest)
   (N : News h₀ L s.heap ((W, instObj 150 WD) :: (WD, dictOf (wEs w.params tk aW aD aDecl aNs aMap aPres seen done ig) we) :: (aD, listOf #[] dn) :: (aW, boundO "list.append" (.ref aP)) :: (aP, listOf ps pn) :: (aDecl, listOf decl n3) :: (aNs, listOf nss n4) :: (aPres, listOf (pres.push (.bool false)) n5) :: (PT, tabObj tb) :: (aAt, dictOf [] 0) :: rest))
   (hE0 : (e0, listOf #[.ref tup] k0) ∈ rest) (hTup : (tup, tupO #[.str xmlS t1, .str (Str.ofString "xml") t2]) ∈ rest) (hEs : ∀ e ∈ es, ∃ k, (e, listOf #[] k) ∈ rest)
   (hsm : (aAt == sysModules) = false) (hps : ps.size ≤ 800) (hnss : nss.size ≤ 900) (hpres : pres.size ≤ 900) (hde : decl.size ≤ 900)
   (hinc : Inc [PT, aP, aW, WD, W, aD, aDecl, aNs, aPres, aAt]) (hap : Apart [PT, aP, WD, aDecl, aNs, aPres, aD] rest)
   (hret : ∀ h' tk' g' tb' aNN eN (t2' : Tok) t3 t4 dn' pn' n3' n4' n5' we' rest', Fr h₀ L h' m → News h₀ L h' ((W, instObj 150 WD) :: (WD, dictOf (wEs w.params tk aW aD aDecl aNs aMap aPres true done ig) we') :: (aD, listOf #[] dn') :: (aW, boundO "list.append" (.ref aP)) :: (aP, listOf ((ps.push (.str (Str.ofString "<" ++ x) t3)).push (.str (Str.ofString ">") t4)) pn') :: (aDecl, listOf (decl.push (.ref aNN)) n3') :: (aNs, listOf (nss.push (.ref eN)) n4') :: (aPres, listOf ((pres.push (.bool false)).push (.bool false)) n5') :: (PT, tabObj tb') :: rest') →
    LamTab { line := 135, col := 71, endLine := 135, endCol := 96 } (Str.ofString "C14NWriterTarget._start.<locals>.<lambda>") tb' rest' → Apart [PT, aP, WD, aDecl, aNs, aPres, aD] rest' → (aNN, listOf #[] 0) ∈ rest' → (∀ q ∈ rest, q ∈ rest') → (AllBare s.gens → AllBare g') → Q .none { s with heap := h', toks := tk', gens := g' })
   :
   wpAny (model Challenge.rw_to0089_01.prog w) (ktrTop dp un gd cn cs L a ccd cl outer) (call (.ref 120) [.ref W, .str x t, .ref aAt]) Q E s := by
 fail "mk.a"
 case zl =>
  revert hfill B F X T hk hd hu hx hb hes hdecl hCd htb N hE0 hTup hEs hsm hps hnss hpres hde hinc hap hret
  revert w p loose mean mg mb dp un gd cn cs a ccd cl outer A₀ base h₀ L m s Q E PT W WD aW aD aP aDecl aNs aMap aPres e0 tup aAt tk seen done ig rest we n3 n4 n5 k0 dn pn es x t t1 t2 ps nss pres decl tb
  intro w p loose mean mg mb dp un gd cn cs a ccd cl outer A₀ base h₀ L m s Q E PT W WD aW aD aP aDecl aNs aMap aPres e0 tup aAt tk seen done ig rest we n3 n4 n5 k0 dn pn es x t t1 t2 ps nss pres decl tb hfill B F X T hk hd hu hx hb hes hdecl hCd htb N hE0 hTup hEs hsm hps hnss hpres hde hinc hap hret
  simp only [Inc, Apart, and_true] at hinc hap
  obtain ⟨i0, i1, i2, i3, i4, i5, i6, i7, i8⟩ := hinc
  obtain ⟨j0, j1, j2, j3, j4, j5, j8⟩ := hap
  revert X; k_fill; intro X; refine wpAny_call ?_; first | k_dflt (fail "my.enter") | fail
  (repeat' first | ((with_reducible show wpAny _ _ (call (Value.ref 126) _) _ _ _); refine stop_of ?_) | ((fail "g7"; dsimp only)) | fail "k1")
  unfold Stop
  k_dflt (refine' start_use rfl ?k1 ?k2 ?k3 ?k4 ?k5 ?k6 ?k7 PT W WD aW aD aP aDecl aNs aMap aPres e0 tup aAt _ _ _ done ig rest _ _ _ _ k0 _ _ es x t t1 t2 hx hb hes _ _ _ decl hdecl _ hCd htb ?hN hE0 hTup hEs hsm ?hps ?hnss ?hpres ?hde ?hinc ?hap (fun h' tk' g' tb' eN t2' t3 t4 dn' pn' n3' n4' n5' we' rest' F' N' htb' hap' hm hr hg' => ?_); (case k1 | k2 | k3 | k4 | hN => k_asm); (case k5 => rfl); (case k6 => first | ktr_room | k_room); (case k7 => ktr_units))
  injections h' tk' g' tb' eN t2' t3 t4 dn' pn' n3' n4' n5' we' rest' F' N' htb' hap' hm hr hg'
  case hps => first | omega | (rw [Array.size_push]; omega)
  case hnss => omega
  case hpres => omega
  case hde => omega
  case hinc => (simp only [Inc, and_true]; omega)
  case hap => exact ⟨j0, j1, j2, j3, j4, j5, j8, trivial⟩
  k_steps
  exact hret _ _ _ tb' _ eN t2' t3 t4 _ _ _ _ _ _ rest' (by k_asm) (by k_asm) htb' hap' hm hr hg'
 fail "mk.b"
end
section
theorem start1_spec (hfill : PR = PR) (B : Below A₀ base outer h₀) (F : Fr h₀ L s.heap m) (X : (K0.heap_1 w.params).In h₀) (T : Top p loose mean mg mb h₀) (hk : cs.kind = .function) (hd : dp + 20 < recursionLimit) (hu : un + 200 < cLine)
   (PT W WD aW aD aP aDecl aNs aMap aPres e0 tup aAt : Addr) (tk : Nat → Tok) (seen done : Bool) (ig : Tok) (rest : List (Addr × Obj)) (we n3 n4 n5 k0 dn pn : Nat) (es : List Addr) (x : Str) (t t1 t2 : Tok)
   (hx : x.length ≤ 100) (hb : ¬ (Str.ofString "{") = Txt.item x 0) (hes : es.length ≤ 9) (ps nss pres decl : Array Value) (ds : Array Value) (ys : List Str) (hdecl : decl = (Value.ref e0 :: es.map Value.ref).toArray)
   (tb : Array Value) (hCd : CodeHd base 125 PT) (htb : LamTab { line := 135, col := 71, endLine := 135, endCol := 96 } (Str.ofString "C14NWriterTarget._start.<locals>.<lambda>") tb rest)
   (N : News h₀ L s.heap ((W, instObj 150 WD) :: (WD, dictOf (wEs w.params tk aW aD aDecl aNs aMap aPres true done ig) we) :: (aD, listOf ds dn) :: (aW, boundO "list.append" (.ref aP)) :: (aP, listOf ps pn) :: (aDecl, listOf decl n3) :: (aNs, listOf nss n4) :: (aPres, listOf (pres.push (.bool false)) n5) :: (PT, tabObj tb) :: (aAt, dictOf [] 0) :: rest))
   (hds : StrsAre ds.toList ys) (hok : JoinOk (Str.ofString "") ys = true) (hy : (Txt.join (Str.ofString "") ys).length ≤ 100) (hy0 : 0 < (Txt.join (Str.ofString "") ys).length) (hsz : ds.size ≤ 1000) (hpos : 0 < ds.size) (ht : 0 < s.toks)
   (hE0 : (e0, listOf #[.ref tup] k0) ∈ rest) (hTup : (tup, tupO #[.str xmlS t1, .str (Str.ofString "xml") t2]) ∈ rest) (hEs : ∀ e ∈ es, ∃ k, (e, listOf #[] k) ∈ rest)
   (hsm : (aAt == sysModules) = false) (hps : ps.size ≤ 800) (hnss : nss.size ≤ 900) (hpres : pres.size ≤ 900) (hde : decl.size ≤ 900)
   (hinc : Inc [PT, aP, aW, WD, W, aD, aDecl, aNs, aPres, aAt]) (hap : Apart [PT, aP, WD, aDecl, aNs, aPres, aD] rest)
   (hret : ∀ h' tk' g' tb' aNN eN (t2' : Tok) t3 t4 dn' pn' n3' n4' n5' we' rest', Fr h₀ L h' m → News h₀ L h' ((W, instObj 150 WD) :: (WD, dictOf (wEs w.params tk aW aD aDecl aNs aMap aPres true done ig) we') :: (aD, listOf #[] dn') :: (aW, boundO "list.append" (.ref aP)) :: (aP, listOf (((ps.push (.str (escS (Txt.join (Str.ofString "") ys)) t2')).push (.str (Str.ofString "<" ++ x) t3)).push (.str (Str.ofString ">") t4)) pn') :: (aDecl, listOf (decl.push (.ref aNN)) n3') :: (aNs, listOf (nss.push (.ref eN)) n4') :: (aPres, listOf ((pres.push (.bool false)).push (.bool false)) n5') :: (PT, tabObj tb') :: rest') →
    LamTab { line := 135, col := 71, endLine := 135, endCol := 96 } (Str.ofString "C14NWriterTarget._start.<locals>.<lambda>") tb' rest' → Apart [PT, aP, WD, aDecl, aNs, aPres, aD] rest' → (aNN, listOf #[] 0) ∈ rest' → (∀ q ∈ rest, q ∈ rest') → (AllBare s.gens → AllBare g') → Q .none { s with heap := h', toks := tk', gens := g' })
   :
   wpAny (model Challenge.rw_to0089_01.prog w) (ktrTop dp un gd cn cs L a ccd cl outer) (call (.ref 120) [.ref W, .str x t, .ref aAt]) Q E s := by
 fail "mk.a"
 case zl =>
  revert hfill B F X T hk hd hu hx hb hes hdecl hCd htb N hds hok hy hy0 hsz hpos ht hE0 hTup hEs hsm hps hnss hpres hde hinc hap hret
  revert w p loose mean mg mb dp un gd cn cs a ccd cl outer A₀ base h₀ L m s Q E PT W WD aW aD aP aDecl aNs aMap aPres e0 tup aAt tk seen done ig rest we n3 n4 n5 k0 dn pn es x t t1 t2 ps nss pres decl ds ys tb
  intro w p loose mean mg mb dp un gd cn cs a ccd cl outer A₀ base h₀ L m s Q E PT W WD aW aD aP aDecl aNs aMap aPres e0 tup aAt tk seen done ig rest we n3 n4 n5 k0 dn pn es x t t1 t2 ps nss pres decl ds ys tb hfill B F X T hk hd hu hx hb hes hdecl hCd htb N hds hok hy hy0 hsz hpos ht hE0 hTup hEs hsm hps hnss hpres hde hinc hap hret
  simp only [Inc, Apart, and_true] at hinc hap
  obtain ⟨i0, i1, i2, i3, i4, i5, i6, i7, i8⟩ := hinc
  obtain ⟨j0, j1, j2, j3, j4, j5, j8⟩ := hap
  revert X; k_fill; intro X; refine wpAny_call ?_; first | k_dflt (fail "my.enter") | fail
  have hsz2 : ps.size ≤ 1000 := by omega
  (repeat' first | ((with_reducible show wpAny _ _ (call (Value.ref 126) _) _ _ _); refine stop_of ?_) | (fail "g19"; ((with_reducible show _ ≤ _ → _); intro hto; (try dsimp only at hto))) | (fail "g0"; (with_reducible refine toks_gen (by omega) ?_); intro tk htk) | (fail "g0"; refine toks_cons ?_) | ((with_reducible show wpAny _ _ (truthy (Value.ref _)) _ _ _); k_dflt (refine' truthy_pos ?hl ?hp ?hz ?_; (case hl => is_list); (case hp | hz => assumption))) | ((with_reducible show wpAny _ _ (call (Value.ref 106) _) _ _ _); k_dflt (refine' flush_spec rfl ?k1 ?k2 ?k3 ?k4 ?k5 ?k6 ?k7 _ _ _ _ _ _ _ _ _ _ _ _ _ _ _ _ _ _ _ ?hds ?hok ?hy ?hy0 ?hN ?hsz ?hpos ?hsz2 ?hinc ?hap ?ht ?_; (case k1 | k2 | k3 | k4 | hN => k_asm); (case k5 => rfl); (case k6 => first | ktr_room | k_room); (case k7 => ktr_units); (case hds | hok | hy | hy0 | hsz | hpos | hsz2 => assumption); (case hinc => fail "my.inc"); (case hap => fail "my.apart"); (case ht => first | exact Nat.succ_pos _ | assumption | ((dsimp only); omega)); intro h' tk' dn' pn' t' F' N')) | ((fail "g7"; dsimp only)) | fail "k1")
  unfold Stop
  k_dflt (refine' start_use rfl ?k1 ?k2 ?k3 ?k4 ?k5 ?k6 ?k7 PT W WD aW aD aP aDecl aNs aMap aPres e0 tup aAt _ _ _ done ig rest _ _ _ _ k0 _ _ es x t t1 t2 hx hb hes _ _ _ decl hdecl _ hCd htb ?hN hE0 hTup hEs hsm ?hps ?hnss ?hpres ?hde ?hinc ?hap (fun h' tk' g' tb' eN t2' t3 t4 dn' pn' n3' n4' n5' we' rest' F' N' htb' hap' hm hr hg' => ?_); (case k1 | k2 | k3 | k4 | hN => k_asm); (case k5 => rfl); (case k6 => first | ktr_room | k_room); (case k7 => ktr_units))
  injections h' tk' g' tb' eN t2' t3 t4 dn' pn' n3' n4' n5' we' rest' F' N' htb' hap' hm hr hg'
  case hps => first | omega | (rw [Array.size_push]; omega)
  case hnss => omega
  case hpres => omega
  case hde => omega
  case hinc => (simp only [Inc, and_true]; omega)
  case hap => exact ⟨j0, j1, j2, j3, j4, j5, j8, trivial⟩
  (repeat' first | (fail "g19"; ((with_reducible show _ ≤ _ → _); intro hto; (try dsimp only at hto))) | fail "k1")
  exact hret _ _ _ tb' _ eN _ t3 t4 _ _ _ _ _ _ rest' (by k_asm) (by k_asm) htb' hap' hm hr hg'
 fail "mk.b"
end
section
noncomputable def flushL (ys : List Str) : List Str := if ys = [] then [] else [escS (Txt.join (Str.ofString "") ys)]
noncomputable abbrev endS (x : Str) : Str := Str.empty ++ Str.ofString "</" ++ x ++ Str.ofString ">"
structure WA where
 (PT W WD aW aD aP aDecl aNs aMap aPres e0 tup : Addr) (tk : Nat → Tok) (ig t1 t2 : Tok) (k0 : Nat)
instance : Nonempty WA := ⟨⟨0, 0, 0, 0, 0, 0, 0, 0, 0, 0, 0, 0, fun _ => default, default, default, default, 0⟩⟩
noncomputable abbrev lamPos : Pos := { line := 135, col := 71, endLine := 135, endCol := 96 }
noncomputable abbrev lamQ : Str := Str.ofString "C14NWriterTarget._start.<locals>.<lambda>"
def WA.IncW (x : WA) : Prop := Inc [x.PT, x.aP, x.aW, x.WD, x.W, x.aD, x.aDecl, x.aNs, x.aPres]
inductive WSt (P : Params) (x : WA) (news keep : List (Addr × Obj)) (zs ys : List Str) (es : List Addr) (nss pres : Array Value) (seen : Bool) : Prop
 | mk (done : Bool) (we dn pn n3 n4 n5 : Nat) (ds ps tb : Array Value) (rest : List (Addr × Obj)) (h : (∀ q ∈ (x.W, instObj 150 x.WD) :: (x.WD, dictOf (wEs P x.tk x.aW x.aD x.aDecl x.aNs x.aMap x.aPres seen done x.ig) we) :: (x.aD, listOf ds dn) :: (x.aW, boundO "list.append" (.ref x.aP)) :: (x.aP, listOf ps pn) :: (x.aDecl, listOf (Value.ref x.e0 :: es.map Value.ref).toArray n3) :: (x.aNs, listOf nss n4) :: (x.aPres, listOf (pres.push (.bool false)) n5) :: (x.PT, tabObj tb) :: rest, q ∈ news) ∧
  StrsAre ds.toList ys ∧ StrsAre ps.toList zs ∧ LamTab lamPos lamQ tb rest ∧ Apart [x.PT, x.aP, x.WD, x.aDecl, x.aNs, x.aPres, x.aD] rest ∧ (x.e0, listOf #[.ref x.tup] x.k0) ∈ rest ∧ (x.tup, tupO #[.str xmlS x.t1, .str (Str.ofString "xml") x.t2]) ∈ rest ∧ (∀ e ∈ es, ∃ k, (e, listOf #[] k) ∈ rest) ∧ (∀ q ∈ keep, q ∈ rest)) : WSt P x news keep zs ys es nss pres seen
theorem WSt.mono {P : Params} {x : WA} {news news' keep : List (Addr × Obj)} {zs ys : List Str} {es : List Addr} {nss pres : Array Value} {seen : Bool} (h : WSt P x news keep zs ys es nss pres seen) (hs : ∀ q ∈ news, q ∈ news') : WSt P x news' keep zs ys es nss pres seen := by
 rcases h with ⟨done, we, dn, pn, n3, n4, n5, ds, ps, tb, rest, h1, h2⟩
 exact ⟨done, we, dn, pn, n3, n4, n5, ds, ps, tb, rest, fun q hq => hs q (h1 q hq), h2⟩
def YsOk (ys : List Str) (seen : Bool) : Prop := ys = [] ∨ (JoinOk (Str.ofString "") ys = true ∧ (Txt.join (Str.ofString "") ys).length ≤ 100 ∧ 0 < (Txt.join (Str.ofString "") ys).length ∧ ys.length ≤ 1000 ∧ 0 < ys.length ∧ seen = true)
theorem strs_push {ps : Array Value} {zs : List Str} {y : Str} {t : Tok} (h : StrsAre ps.toList zs) : StrsAre (ps.push (.str y t)).toList (zs ++ [y]) := by
 rw [Array.toList_push]
 exact h.append' (.cons y t .nil)
theorem strs_size {ps : Array Value} {zs : List Str} (h : StrsAre ps.toList zs) : ps.size = zs.length := by
 have := h.len_eq
 rwa [Array.length_toList] at this
theorem start_any (hfill : PR = PR) (B : Below A₀ base outer h₀) (F : Fr h₀ L s.heap m) (X : (K0.heap_1 w.params).In h₀) (T : Top p loose mean mg mb h₀) (hk : cs.kind = .function) (hd : dp + 20 < recursionLimit) (hu : un + 200 < cLine)
   (x : WA) (aAt : Addr) (name : Str) (t : Tok) (news keep : List (Addr × Obj)) (zs ys : List Str) (es : List Addr) (nss pres : Array Value) (seen : Bool)
   (hCd : CodeHd base 125 x.PT) (hinc : x.IncW) (hAt : (aAt, dictOf [] 0) ∈ keep) (hAt1 : @LT.lt Nat _ x.aPres aAt) (hsm : (aAt == sysModules) = false)
   (hx : name.length ≤ 100) (hb : ¬ (Str.ofString "{") = Txt.item name 0) (hes : es.length ≤ 9) (N : News h₀ L s.heap news) (S : WSt w.params x news keep zs ys es nss pres seen) (hy : YsOk ys seen) (ht : 0 < s.toks)
   (hzs : zs.length ≤ 800) (hnss : nss.size ≤ 900) (hpres : pres.size ≤ 900)
   (hret : ∀ h' tk' g' news' aNN eN, Fr h₀ L h' m → News h₀ L h' news' → WSt w.params x news' keep (zs ++ flushL ys ++ [Str.ofString "<" ++ name, Str.ofString ">"]) [] (es ++ [aNN]) (nss.push (.ref eN)) (pres.push (.bool false)) true → (AllBare s.gens → AllBare g') → Q .none { s with heap := h', toks := tk', gens := g' }) :
   wpAny (model Challenge.rw_to0089_01.prog w) (ktrTop dp un gd cn cs L a ccd cl outer) (call (.ref 120) [.ref x.W, .str name t, .ref aAt]) Q E s := by
 fail "mk.a"
 case zl =>
  revert hfill B F X T hk hd hu hCd hinc hAt hAt1 hsm hx hb hes N S hy ht hzs hnss hpres hret
  revert w p loose mean mg mb dp un gd cn cs a ccd cl outer A₀ base h₀ L m s Q E x aAt name t news keep zs ys es nss pres seen
  intro w p loose mean mg mb dp un gd cn cs a ccd cl outer A₀ base h₀ L m s Q E x aAt name t news keep zs ys es nss pres seen hfill B F X T hk hd hu hCd hinc hAt hAt1 hsm hx hb hes N S hy ht hzs hnss hpres hret
  obtain ⟨done, we, dn, pn, n3, n4, n5, ds, ps, tb, rest, h1, hds, hps, htb, hap, hE0, hTup, hEs, hkeep⟩ := S
  have hsz := strs_size hps
  have hdz := strs_size hds
  have hinc' : Inc [x.PT, x.aP, x.aW, x.WD, x.W, x.aD, x.aDecl, x.aNs, x.aPres, aAt] := by
    unfold WA.IncW at hinc
    simp only [Inc, and_true] at hinc ⊢
    exact ⟨hinc.1, hinc.2.1, hinc.2.2.1, hinc.2.2.2.1, hinc.2.2.2.2.1, hinc.2.2.2.2.2.1, hinc.2.2.2.2.2.2.1, hinc.2.2.2.2.2.2.2, hAt1⟩
  have N1 := news_sub N h1
  have N2 : News h₀ L s.heap ((x.W, instObj 150 x.WD) :: (x.WD, dictOf (wEs w.params x.tk x.aW x.aD x.aDecl x.aNs x.aMap x.aPres seen done x.ig) we) :: (x.aD, listOf ds dn) :: (x.aW, boundO "list.append" (.ref x.aP)) :: (x.aP, listOf ps pn) :: (x.aDecl, listOf (Value.ref x.e0 :: es.map Value.ref).toArray n3) :: (x.aNs, listOf nss n4) :: (x.aPres, listOf (pres.push (.bool false)) n5) :: (x.PT, tabObj tb) :: (aAt, dictOf [] 0) :: rest) := fun q hq => by
    have hA := hkeep _ hAt
    have sub : ∀ q ∈ (x.W, instObj 150 x.WD) :: (x.WD, dictOf (wEs w.params x.tk x.aW x.aD x.aDecl x.aNs x.aMap x.aPres seen done x.ig) we) :: (x.aD, listOf ds dn) :: (x.aW, boundO "list.append" (.ref x.aP)) :: (x.aP, listOf ps pn) :: (x.aDecl, listOf (Value.ref x.e0 :: es.map Value.ref).toArray n3) :: (x.aNs, listOf nss n4) :: (x.aPres, listOf (pres.push (.bool false)) n5) :: (x.PT, tabObj tb) :: (aAt, dictOf [] 0) :: rest, q ∈ (x.W, instObj 150 x.WD) :: (x.WD, dictOf (wEs w.params x.tk x.aW x.aD x.aDecl x.aNs x.aMap x.aPres seen done x.ig) we) :: (x.aD, listOf ds dn) :: (x.aW, boundO "list.append" (.ref x.aP)) :: (x.aP, listOf ps pn) :: (x.aDecl, listOf (Value.ref x.e0 :: es.map Value.ref).toArray n3) :: (x.aNs, listOf nss n4) :: (x.aPres, listOf (pres.push (.bool false)) n5) :: (x.PT, tabObj tb) :: rest := by
     refine List.forall_mem_cons.mpr ⟨by k_mem, List.forall_mem_cons.mpr ⟨by k_mem, List.forall_mem_cons.mpr ⟨by k_mem, List.forall_mem_cons.mpr ⟨by k_mem, List.forall_mem_cons.mpr ⟨by k_mem, List.forall_mem_cons.mpr ⟨by k_mem, List.forall_mem_cons.mpr ⟨by k_mem, List.forall_mem_cons.mpr ⟨by k_mem, List.forall_mem_cons.mpr ⟨by k_mem, List.forall_mem_cons.mpr ⟨by fail "my.mem", fun q hq => by fail "my.mem"⟩⟩⟩⟩⟩⟩⟩⟩⟩⟩
    exact N1 q (sub q hq)
  have hdl : (Value.ref x.e0 :: es.map Value.ref).toArray.size = es.length + 1 := by simp
  have conv : ∀ (aNN : Addr), ((Value.ref x.e0 :: es.map Value.ref).toArray.push (.ref aNN)) = (Value.ref x.e0 :: (es ++ [aNN]).map Value.ref).toArray := fun aNN => by simp
  rcases hy with rfl | ⟨hj, hl1, hl2, hl3, hl4, rfl⟩
  · have hd0 : ds = #[] := by
     have := hds.nil_inv
     rw [← Array.toArray_toList (xs := ds), this]
    subst hd0
    refine start0_spec hfill B F X T hk hd hu x.PT x.W x.WD x.aW x.aD x.aP x.aDecl x.aNs x.aMap x.aPres x.e0 x.tup aAt x.tk seen done x.ig rest we n3 n4 n5 x.k0 dn pn es name t x.t1 x.t2 hx hb hes ps nss pres _ rfl tb hCd htb N2 hE0 hTup hEs hsm (by omega) hnss hpres (by omega) hinc' hap ?_
    intro h' tk' g' tb' aNN eN t2' t3 t4 dn' pn' n3' n4' n5' we' rest' F' N' htb' hap' hm hr hg'
    refine hret h' tk' g' _ aNN eN F' N' ⟨done, we', dn', pn', n3', n4', n5', #[], (ps.push (.str (Str.ofString "<" ++ name) t3)).push (.str (Str.ofString ">") t4), tb', rest', fun q hq => ?_, .nil, ?_, htb', hap', hr _ hE0, hr _ hTup, ?_, fun q hq => hr _ (hkeep _ hq)⟩ hg'
    injections q hq
    ·rw [conv]; exact hq
    ·have := strs_push (y := Str.ofString ">") (t := t4) (strs_push (y := Str.ofString "<" ++ name) (t := t3) hps)
     simpa [flushL] using this
    ·intro e he
     rcases List.mem_append.mp he with he | he
     ·obtain ⟨k, hk⟩ := hEs e he
      exact ⟨k, hr _ hk⟩
     ·rw [List.mem_singleton.mp he]
      exact ⟨0, hm⟩
  · refine start1_spec hfill B F X T hk hd hu x.PT x.W x.WD x.aW x.aD x.aP x.aDecl x.aNs x.aMap x.aPres x.e0 x.tup aAt x.tk true done x.ig rest we n3 n4 n5 x.k0 dn pn es name t x.t1 x.t2 hx hb hes ps nss pres _ ds ys rfl tb hCd htb N2 hds hj hl1 hl2 (by omega) (by omega) ht hE0 hTup hEs hsm (by omega) hnss hpres (by omega) hinc' hap ?_
    intro h' tk' g' tb' aNN eN t2' t3 t4 dn' pn' n3' n4' n5' we' rest' F' N' htb' hap' hm hr hg'
    refine hret h' tk' g' _ aNN eN F' N' ⟨done, we', dn', pn', n3', n4', n5', #[], ((ps.push (.str (escS (Txt.join (Str.ofString "") ys)) t2')).push (.str (Str.ofString "<" ++ name) t3)).push (.str (Str.ofString ">") t4), tb', rest', fun q hq => ?_, .nil, ?_, htb', hap', hr _ hE0, hr _ hTup, ?_, fun q hq => hr _ (hkeep _ hq)⟩ hg'
    injections q hq
    ·rw [conv]; exact hq
    ·have := strs_push (y := Str.ofString ">") (t := t4) (strs_push (y := Str.ofString "<" ++ name) (t := t3) (strs_push (y := escS (Txt.join (Str.ofString "") ys)) (t := t2') hps))
     have hne : ys ≠ [] := by intro q; rw [q] at hl4; simp at hl4
     simpa [flushL, hne] using this
    ·intro e he
     rcases List.mem_append.mp he with he | he
     ·obtain ⟨k, hk⟩ := hEs e he
      exact ⟨k, hr _ hk⟩
     ·rw [List.mem_singleton.mp he]
      exact ⟨0, hm⟩
 fail "mk.b"
theorem end_any (hfill : PR = PR) (B : Below A₀ base outer h₀) (F : Fr h₀ L s.heap m) (X : (K0.heap_1 w.params).In h₀) (T : Top p loose mean mg mb h₀) (hk : cs.kind = .function) (hd : dp + 10 < recursionLimit) (hu : un + 100 < cLine)
   (x : WA) (name : Str) (t : Tok) (news keep : List (Addr × Obj)) (zs ys : List Str) (es : List Addr) (eL : Addr) (nss pres : Array Value) (nv : Value) (seen : Bool) (hinc : x.IncW)
   (hx : name.length ≤ 100) (hb : ¬ (Str.ofString "{") = Txt.item name 0) (hes : es.length ≤ 9) (N : News h₀ L s.heap news) (S : WSt w.params x news keep zs ys (es ++ [eL]) (nss.push nv) (pres.push (.bool false)) seen) (hy : YsOk ys seen) (ht : 0 < s.toks)
   (hzs : zs.length ≤ 800) (hnss : nss.size ≤ 900) (hpres : pres.size ≤ 900)
   (hret : ∀ h' tk' g' news', Fr h₀ L h' m → News h₀ L h' news' → WSt w.params x news' keep (zs ++ flushL ys ++ [endS name]) [] es nss pres seen → (AllBare s.gens → AllBare g') → Q .none { s with heap := h', toks := tk', gens := g' }) :
   wpAny (model Challenge.rw_to0089_01.prog w) (ktrTop dp un gd cn cs L a ccd cl outer) (call (.ref 133) [.ref x.W, .str name t]) Q E s := by
 fail "mk.a"
 case zl =>
  revert hfill B F X T hk hd hu hinc hx hb hes N S hy ht hzs hnss hpres hret
  revert w p loose mean mg mb dp un gd cn cs a ccd cl outer A₀ base h₀ L m s Q E x name t news keep zs ys es eL nss pres nv seen
  intro w p loose mean mg mb dp un gd cn cs a ccd cl outer A₀ base h₀ L m s Q E x name t news keep zs ys es eL nss pres nv seen hfill B F X T hk hd hu hinc hx hb hes N S hy ht hzs hnss hpres hret
  obtain ⟨done, we, dn, pn, n3, n4, n5, ds, ps, tb, rest, h1, hds, hps, htb, hap, hE0, hTup, hEs, hkeep⟩ := S
  have hsz := strs_size hps
  have hdz := strs_size hds
  have hinc' : Inc [x.aP, x.aW, x.WD, x.W, x.aD, x.aDecl, x.aNs, x.aPres] := hinc.2
  have hp0 := hinc
  unfold WA.IncW at hp0
  simp only [Inc, and_true] at hp0
  simp only [Apart, and_true] at hap
  obtain ⟨j0, j1, j2, j3, j4, j5, j6⟩ := hap
  have hc : ∀ X : Nat, @LT.lt Nat _ x.PT X → (∀ q ∈ rest, q.1 ≠ X) → ∀ q ∈ (x.PT, tabObj tb) :: rest, q.1 ≠ X := fun X h1 h2 q hq => by
    rcases List.mem_cons.mp hq with rfl | hq
    ·exact Nat.ne_of_lt h1
    ·exact h2 q hq
  have N1 := news_sub N h1
  have conv : (Value.ref x.e0 :: (es ++ [eL]).map Value.ref).toArray = ((Value.ref x.e0 :: es.map Value.ref).toArray.push (.ref eL)) := by simp
  rw [conv] at N1
  have hdl : (Value.ref x.e0 :: es.map Value.ref).toArray.size = es.length + 1 := by simp
  have hel : (es ++ [eL]).length = es.length + 1 := by simp
  have hpp : (pres.push (.bool false)).size = pres.size + 1 := Array.size_push ..
  rcases hy with rfl | ⟨hj, hl1, hl2, hl3, hl4, rfl⟩
  · have hd0 : ds = #[] := by
     have := hds.nil_inv
     rw [← Array.toArray_toList (xs := ds), this]
    subst hd0
    refine end0_spec hfill B F X T hk hd hu x.W x.WD x.aW x.aD x.aP x.aDecl x.aNs x.aMap x.aPres x.e0 x.tup x.tk seen done x.ig ((x.PT, tabObj tb) :: rest) we n3 n4 n5 x.k0 dn pn (es ++ [eL]) name t x.t1 x.t2 hx hb (by omega) ps nss (pres.push (.bool false)) _ eL nv (.bool false) conv.symm N1 (.tail _ hE0) (.tail _ hTup) (fun e he => by obtain ⟨k, hk⟩ := hEs e he; exact ⟨k, .tail _ hk⟩) hinc'
     ⟨hc x.aP (by omega) j1, hc x.WD (by omega) j2, hc x.aDecl (by omega) j3, hc x.aNs (by omega) j4, hc x.aPres (by omega) j5, trivial⟩ (by omega) (by omega) (by omega) (by omega) ?_
    intro h' tk' g' pn' n3' n4' n5' t' F' N' hg'
    refine hret h' tk' g' _ F' N' ⟨_, we, dn, pn', n3', n4', n5', #[], ps.push (.str (endS name) t'), tb, rest, fun q hq => hq, .nil, ?_, htb, ⟨j0, j1, j2, j3, j4, j5, j6, trivial⟩, hE0, hTup, fun e he => hEs e (List.mem_append_left _ he), hkeep⟩ hg'
    have := strs_push (y := endS name) (t := t') hps
    simpa [flushL] using this
  · refine end1_spec hfill B F X T hk hd hu x.W x.WD x.aW x.aD x.aP x.aDecl x.aNs x.aMap x.aPres x.e0 x.tup x.tk done x.ig ((x.PT, tabObj tb) :: rest) we n3 n4 n5 x.k0 dn pn (es ++ [eL]) name t x.t1 x.t2 hx hb (by omega) ds ys ps nss (pres.push (.bool false)) _ eL nv (.bool false) conv.symm N1 (.tail _ hE0) (.tail _ hTup) (fun e he => by obtain ⟨k, hk⟩ := hEs e he; exact ⟨k, .tail _ hk⟩) hds hj hl1 hl2 (by omega) (by omega) ht hinc'
     ⟨hc x.aD (by omega) j6, hc x.aP (by omega) j1, hc x.WD (by omega) j2, hc x.aDecl (by omega) j3, hc x.aNs (by omega) j4, hc x.aPres (by omega) j5, trivial⟩ (by omega) (by omega) (by omega) (by omega) ?_
    intro h' tk' g' dn' pn' n3' n4' n5' t' t2' F' N' hg'
    refine hret h' tk' g' _ F' N' ⟨_, we, dn', pn', n3', n4', n5', #[], (ps.push (.str (escS (Txt.join (Str.ofString "") ys)) t2')).push (.str (endS name) t'), tb, rest, fun q hq => hq, .nil, ?_, htb, ⟨j0, j1, j2, j3, j4, j5, j6, trivial⟩, hE0, hTup, fun e he => hEs e (List.mem_append_left _ he), hkeep⟩ hg'
    have hne : ys ≠ [] := by intro q; rw [q] at hl4; simp at hl4
    have := strs_push (y := endS name) (t := t') (strs_push (y := escS (Txt.join (Str.ofString "") ys)) (t := t2') hps)
    simpa [flushL, hne] using this
 fail "mk.b"
theorem data_any (hfill : PR = PR) (B : Below A₀ base outer h₀) (F : Fr h₀ L s.heap m) (X : (K0.heap_1 w.params).In h₀) (T : Top p loose mean mg mb h₀) (hk : cs.kind = .function) (hd : dp + 3 < recursionLimit) (hu : un + 30 < cLine)
   (x : WA) (y : Str) (t : Tok) (news keep : List (Addr × Obj)) (zs ys : List Str) (es : List Addr) (nss pres : Array Value) (seen : Bool) (hinc : x.IncW)
   (N : News h₀ L s.heap news) (S : WSt w.params x news keep zs ys es nss pres seen) (hys : ys.length ≤ 1000)
   (hret : ∀ h' tk' news', Fr h₀ L h' m → News h₀ L h' news' → WSt w.params x news' keep zs (ys ++ [y]) es nss pres seen → Q .none { s with heap := h', toks := tk' }) :
   wpAny (model Challenge.rw_to0089_01.prog w) (ktrTop dp un gd cn cs L a ccd cl outer) (call (.ref 97) [.ref x.W, .str y t]) Q E s := by
 fail "mk.a"
 case zl =>
  revert hfill B F X T hk hd hu hinc N S hys hret
  revert w p loose mean mg mb dp un gd cn cs a ccd cl outer A₀ base h₀ L m s Q E x y t news keep zs ys es nss pres seen
  intro w p loose mean mg mb dp un gd cn cs a ccd cl outer A₀ base h₀ L m s Q E x y t news keep zs ys es nss pres seen hfill B F X T hk hd hu hinc N S hys hret
  obtain ⟨done, we, dn, pn, n3, n4, n5, ds, ps, tb, rest, h1, hds, hps, htb, hap, hE0, hTup, hEs, hkeep⟩ := S
  have hdz := strs_size hds
  have hp0 := hinc
  unfold WA.IncW at hp0
  simp only [Inc, and_true] at hp0
  have hap' := hap
  simp only [Apart, and_true] at hap'
  obtain ⟨j0, j1, j2, j3, j4, j5, j6⟩ := hap'
  have N1 := news_sub N h1
  refine data_spec hfill B F X T hk hd hu x.W x.WD x.aW x.aD x.aDecl x.aNs x.aMap x.aPres x.tk seen done x.ig y t _ ds dn we N1 (by omega) ?_ (Nat.ne_of_lt (by omega)) (Nat.ne_of_lt (by omega)) ?_
  · intro q hq
    rcases List.mem_cons.mp hq with rfl | hq
    ·exact Nat.ne_of_lt (show @LT.lt Nat _ x.aW x.aD by omega)
    rcases List.mem_cons.mp hq with rfl | hq
    ·exact Nat.ne_of_lt (show @LT.lt Nat _ x.aP x.aD by omega)
    rcases List.mem_cons.mp hq with rfl | hq
    ·exact Nat.ne_of_gt (show @LT.lt Nat _ x.aD x.aDecl by omega)
    rcases List.mem_cons.mp hq with rfl | hq
    ·exact Nat.ne_of_gt (show @LT.lt Nat _ x.aD x.aNs by omega)
    rcases List.mem_cons.mp hq with rfl | hq
    ·exact Nat.ne_of_gt (show @LT.lt Nat _ x.aD x.aPres by omega)
    rcases List.mem_cons.mp hq with rfl | hq
    ·exact Nat.ne_of_lt (show @LT.lt Nat _ x.PT x.aD by omega)
    ·exact j6 q hq
  · intro h' tk' dn' F' N'
    exact hret h' tk' _ F' N' ⟨done, we, dn', pn, n3, n4, n5, ds.push (.str y t), ps, tb, rest, fun q hq => hq, strs_push hds, hps, htb, hap, hE0, hTup, hEs, hkeep⟩
 fail "mk.b"
theorem WSt.filter {P : Params} {x : WA} {news keep : List (Addr × Obj)} {zs ys : List Str} {es : List Addr} {nss pres : Array Value} {seen : Bool} {h₀ h : Heap} {L I ax : Addr} {oI : Obj} {j : Nat} (S : WSt P x news ((I, oI) :: keep) zs ys es nss pres seen) (N : News h₀ L h news) (hinc : x.IncW) (hI : @LT.lt Nat _ x.aPres I)
   (hc : oI.cls = .type "list_iterator") (hd : oI.data = .fields #[.ref ax, .int (j : Nat) 0]) (hk : ∀ q ∈ keep, q.1 ≠ I) : WSt P x (news.filter fun q => q.1 != I) keep zs ys es nss pres seen := by
 fail "mk.a"
 case zl =>
  revert S N hinc hI hc hd hk
  revert P x news keep zs ys es nss pres seen h₀ h L I ax oI j
  intro P x news keep zs ys es nss pres seen h₀ h L I ax oI j S N hinc hI hc hd hk
  obtain ⟨done, we, dn, pn, n3, n4, n5, ds, ps, tb, rest, h1, hds, hps, htb, hap, hE0, hTup, hEs, hkeep⟩ := S
  have hp0 := hinc
  unfold WA.IncW at hp0
  simp only [Inc, and_true] at hp0
  have N1 := news_sub N h1
  have hIr := hkeep _ (.head _)
  have inR : ∀ q ∈ rest, News h₀ L h [q] := fun q hq => fun q' hq' => by
    rw [List.mem_singleton.mp hq']
    exact N1 q (List.mem_cons_of_mem _ (List.mem_cons_of_mem _ (List.mem_cons_of_mem _ (List.mem_cons_of_mem _ (List.mem_cons_of_mem _ (List.mem_cons_of_mem _ (List.mem_cons_of_mem _ (List.mem_cons_of_mem _ (List.mem_cons_of_mem _ hq)))))))))
  have same : ∀ a o, (a, o) ∈ rest → o ≠ oI → a ≠ I := fun a o hm hne q => by
    subst q
    have e1 := (inR _ hm _ (.head _)).1
    have e2 := (inR _ hIr _ (.head _)).1
    rw [e1] at e2
    exact hne (Option.some.inj e2)
  have mem : ∀ a o, (a, o) ∈ rest → a ≠ I → (a, o) ∈ rest.filter fun q => q.1 != I := fun a o hm hne => List.mem_filter.mpr ⟨hm, by simpa using hne⟩
  have clsne : ∀ o : Obj, o.cls ≠ .type "list_iterator" → o ≠ oI := fun o h q => h (q ▸ hc)
  refine ⟨done, we, dn, pn, n3, n4, n5, ds, ps, tb, rest.filter fun q => q.1 != I, fun q hq => ?_, hds, hps, ?_, ?_, mem _ _ hE0 (same _ _ hE0 (clsne _ (by simp))), mem _ _ hTup (same _ _ hTup (clsne _ (by simp))), fun e he => ?_, fun q hq => mem _ _ (hkeep q (.tail _ hq)) (hk q hq)⟩
  injections q hq
  injections e he
  · have hlt : ∀ q ∈ (x.W, instObj 150 x.WD) :: (x.WD, dictOf (wEs P x.tk x.aW x.aD x.aDecl x.aNs x.aMap x.aPres seen done x.ig) we) :: (x.aD, listOf ds dn) :: (x.aW, boundO "list.append" (.ref x.aP)) :: (x.aP, listOf ps pn) :: (x.aDecl, listOf (Value.ref x.e0 :: es.map Value.ref).toArray n3) :: (x.aNs, listOf nss n4) :: (x.aPres, listOf (pres.push (.bool false)) n5) :: (x.PT, tabObj tb) :: rest.filter (fun q => q.1 != I), q.1 ≠ I := by
     have l : ∀ a : Nat, a < I → a ≠ I := fun a h => Nat.ne_of_lt h
     refine List.forall_mem_cons.mpr ⟨l _ (by omega), List.forall_mem_cons.mpr ⟨l _ (by omega), List.forall_mem_cons.mpr ⟨l _ (by omega), List.forall_mem_cons.mpr ⟨l _ (by omega), List.forall_mem_cons.mpr ⟨l _ (by omega), List.forall_mem_cons.mpr ⟨l _ (by omega), List.forall_mem_cons.mpr ⟨l _ (by omega), List.forall_mem_cons.mpr ⟨l _ (by omega), List.forall_mem_cons.mpr ⟨l _ (by omega), fun q hq => by simpa using (List.mem_filter.mp hq).2⟩⟩⟩⟩⟩⟩⟩⟩⟩
    refine List.mem_filter.mpr ⟨h1 q ?_, by simpa using hlt q hq⟩
    revert q
    refine fun q hq => ?_
    injections q hq
    simp only [List.mem_cons] at hq ⊢
    rcases hq with h | h | h | h | h | h | h | h | h | h
    ·exact .inl h
    ·exact .inr (.inl h)
    ·exact .inr (.inr (.inl h))
    ·exact .inr (.inr (.inr (.inl h)))
    ·exact .inr (.inr (.inr (.inr (.inl h))))
    ·exact .inr (.inr (.inr (.inr (.inr (.inl h)))))
    ·exact .inr (.inr (.inr (.inr (.inr (.inr (.inl h))))))
    ·exact .inr (.inr (.inr (.inr (.inr (.inr (.inr (.inl h)))))))
    ·exact .inr (.inr (.inr (.inr (.inr (.inr (.inr (.inr (.inl h))))))))
    ·exact .inr (.inr (.inr (.inr (.inr (.inr (.inr (.inr (.inr (List.mem_filter.mp h).1))))))))
  · rcases htb with h | ⟨c', oc, vs, tq, h1, h2, h3, h4⟩
    ·exact .inl h
    ·refine .inr ⟨c', oc, vs, tq, h1, mem _ _ h2 (same _ _ h2 fun q => ?_), h3, h4⟩
     injections q
     rw [q, hd] at h3
     cases h3
     simp at h4
  · simp only [Apart, and_true] at hap ⊢
    obtain ⟨j0, j1, j2, j3, j4, j5, j6⟩ := hap
    exact ⟨fun q hq => j0 q (List.mem_filter.mp hq).1, fun q hq => j1 q (List.mem_filter.mp hq).1, fun q hq => j2 q (List.mem_filter.mp hq).1, fun q hq => j3 q (List.mem_filter.mp hq).1, fun q hq => j4 q (List.mem_filter.mp hq).1, fun q hq => j5 q (List.mem_filter.mp hq).1, fun q hq => j6 q (List.mem_filter.mp hq).1⟩
  · obtain ⟨k, hk'⟩ := hEs e he
    exact ⟨k, mem _ _ hk' (same _ _ hk' (clsne _ (by simp)))⟩
 fail "mk.b"
theorem WSt.keepMore {P : Params} {x : WA} {news keep extra : List (Addr × Obj)} {zs ys : List Str} {es : List Addr} {nss pres : Array Value} {seen : Bool} (S : WSt P x news keep zs ys es nss pres seen) (hm : ∀ q ∈ extra, q ∈ news) (hx : Apart [x.PT, x.aP, x.WD, x.aDecl, x.aNs, x.aPres, x.aD] extra) : WSt P x news (extra ++ keep) zs ys es nss pres seen := by
 fail "mk.a"
 case zl =>
  revert S hm hx
  revert P x news keep extra zs ys es nss pres seen
  intro P x news keep extra zs ys es nss pres seen S hm hx
  obtain ⟨done, we, dn, pn, n3, n4, n5, ds, ps, tb, rest, h1, hds, hps, htb, hap, hE0, hTup, hEs, hkeep⟩ := S
  simp only [Apart, and_true] at hap hx
  obtain ⟨j0, j1, j2, j3, j4, j5, j6⟩ := hap
  obtain ⟨p0, p1, p2, p3, p4, p5, p6⟩ := hx
  have hc : ∀ X : Addr, (∀ q ∈ extra, q.1 ≠ X) → (∀ q ∈ rest, q.1 ≠ X) → ∀ q ∈ extra ++ rest, q.1 ≠ X := fun X h1 h2 q hq => by
   rcases List.mem_append.mp hq with hq | hq
   ·exact h1 q hq
   ·exact h2 q hq
  refine ⟨done, we, dn, pn, n3, n4, n5, ds, ps, tb, extra ++ rest, fun q hq => ?_, hds, hps, ?_, ⟨hc _ p0 j0, hc _ p1 j1, hc _ p2 j2, hc _ p3 j3, hc _ p4 j4, hc _ p5 j5, hc _ p6 j6, trivial⟩, List.mem_append_right _ hE0, List.mem_append_right _ hTup, fun e he => by obtain ⟨k, hk⟩ := hEs e he; exact ⟨k, List.mem_append_right _ hk⟩, fun q hq => ?_⟩
  injections q hq
  injections q hq
  ·simp only [List.mem_cons, List.mem_append] at hq
   rcases hq with h | h | h | h | h | h | h | h | h | h | h
   all_goals first | exact hm q h | exact h1 q (by simp only [List.mem_cons]; first | exact .inl h | exact .inr (.inl h) | exact .inr (.inr (.inl h)) | exact .inr (.inr (.inr (.inl h))) | exact .inr (.inr (.inr (.inr (.inl h)))) | exact .inr (.inr (.inr (.inr (.inr (.inl h))))) | exact .inr (.inr (.inr (.inr (.inr (.inr (.inl h)))))) | exact .inr (.inr (.inr (.inr (.inr (.inr (.inr (.inl h))))))) | exact .inr (.inr (.inr (.inr (.inr (.inr (.inr (.inr (.inl h)))))))) | exact .inr (.inr (.inr (.inr (.inr (.inr (.inr (.inr (.inr h)))))))))
  ·rcases htb with h | ⟨c', oc, vs, tq, h1, h2, h3, h4⟩
   ·exact .inl h
   ·exact .inr ⟨c', oc, vs, tq, h1, List.mem_append_right _ h2, h3, h4⟩
  ·rcases List.mem_append.mp hq with hq | hq
   ·exact List.mem_append_left _ hq
   ·exact List.mem_append_right _ (hkeep q hq)
 fail "mk.b"
theorem WSt.keepLess {P : Params} {x : WA} {news keep keep' : List (Addr × Obj)} {zs ys : List Str} {es : List Addr} {nss pres : Array Value} {seen : Bool} (S : WSt P x news keep zs ys es nss pres seen) (hm : ∀ q ∈ keep', q ∈ keep) : WSt P x news keep' zs ys es nss pres seen := by
 rcases S with ⟨done, we, dn, pn, n3, n4, n5, ds, ps, tb, rest, h1, hds, hps, htb, hap, hE0, hTup, hEs, hkeep⟩
 exact ⟨done, we, dn, pn, n3, n4, n5, ds, ps, tb, rest, h1, hds, hps, htb, hap, hE0, hTup, hEs, fun q hq => hkeep q (hm q hq)⟩
theorem WSt.kept {P : Params} {x : WA} {news keep : List (Addr × Obj)} {zs ys : List Str} {es : List Addr} {nss pres : Array Value} {seen : Bool} (S : WSt P x news keep zs ys es nss pres seen) : ∀ q ∈ keep, q ∈ news := by
 rcases S with ⟨done, we, dn, pn, n3, n4, n5, ds, ps, tb, rest, h1, hds, hps, htb, hap, hE0, hTup, hEs, hkeep⟩
 exact fun q hq => h1 q (List.mem_cons_of_mem _ (List.mem_cons_of_mem _ (List.mem_cons_of_mem _ (List.mem_cons_of_mem _ (List.mem_cons_of_mem _ (List.mem_cons_of_mem _ (List.mem_cons_of_mem _ (List.mem_cons_of_mem _ (List.mem_cons_of_mem _ (hkeep q hq))))))))))
end
section
noncomputable def lastI (p : List Int) : Int := p.getLastD 0
noncomputable def nodeN (ns : List Int) (p : List Int) : Int := ns.getD (lastI p).toNat 0
noncomputable def nodeS (ns : List Int) (p : List Int) : Str := nameS (lastI p) (nodeN ns p)
noncomputable def wsS (n : Nat) : Str := Str.ofString "\n" ++ Txt.mul (Str.ofString " \u200b") (n : Int)
noncomputable def toldP (ns : List Int) (Ps : List (List Int)) : Nat → List Int → List Str
 | 0, _ => []
 | f + 1, p =>
  let r := Ps.foldl (fun (r : List Str × List Str) longer => if longer.dropLast = p then (r.1 ++ flushL (r.2 ++ [wsS p.length]) ++ toldP ns Ps f longer, []) else r) ([], [textS (nodeN ns p)])
  [Str.ofString "<" ++ nodeS ns p, Str.ofString ">"] ++ r.1 ++ flushL r.2 ++ [endS (nodeS ns p)]
noncomputable def toldF (ns : List Int) (Ps : List (List Int)) (f : Nat) (p : List Int) (r : List Str × List Str) (longer : List Int) : List Str × List Str :=
 if longer.dropLast = p then (r.1 ++ flushL (r.2 ++ [wsS p.length]) ++ toldP ns Ps f longer, []) else r
theorem toldP_succ (ns : List Int) (Ps : List (List Int)) (f : Nat) (p : List Int) : toldP ns Ps (f + 1) p =
 [Str.ofString "<" ++ nodeS ns p, Str.ofString ">"] ++ (Ps.foldl (toldF ns Ps f p) ([], [textS (nodeN ns p)])).1 ++ flushL (Ps.foldl (toldF ns Ps f p) ([], [textS (nodeN ns p)])).2 ++ [endS (nodeS ns p)] := rfl
theorem toldF_le (ns : List Int) (Ps : List (List Int)) (f : Nat) (p : List Int) (r : List Str × List Str) (l : List Int) : r.1.length ≤ (toldF ns Ps f p r l).1.length := by
 unfold toldF
 split
 ·simp
 ·exact Nat.le_refl _
theorem fold_le (ns : List Int) (Ps : List (List Int)) (f : Nat) (p : List Int) : ∀ (ls : List (List Int)) (r : List Str × List Str), r.1.length ≤ (ls.foldl (toldF ns Ps f p) r).1.length
 | [], _ => Nat.le_refl _
 | l :: ls, r => Nat.le_trans (toldF_le ns Ps f p r l) (fold_le ns Ps f p ls _)
theorem toldF_pend (ns : List Int) (Ps : List (List Int)) (f : Nat) (p : List Int) (r : List Str × List Str) (l : List Int) (T : Str) (h : r.2 = [] ∨ r.2 = [T]) : (toldF ns Ps f p r l).2 = [] ∨ (toldF ns Ps f p r l).2 = [T] := by
 unfold toldF
 split
 ·exact .inl rfl
 ·exact h
theorem fold_take {α β : Type} (g : β → α → β) (b : β) (l : List α) (i : Nat) (x : α) (h : l[i]? = some x) : (l.take (i + 1)).foldl g b = g ((l.take i).foldl g b) x := by
 rw [List.take_add_one, h]
 simp
structure PsOk (Ps : List (List Int)) : Prop where
 len : Ps.length = 6
 each : ∀ p ∈ Ps, p ≠ [] ∧ p.length ≤ 6 ∧ p.Pairwise (· < ·) ∧ ∀ x ∈ p, 0 ≤ x ∧ x < 6
structure NsOk (ns : List Int) : Prop where
 len : ns.length = 6
 each : ∀ n ∈ ns, 0 ≤ n ∧ n < 1000000
theorem PsOk.last {Ps : List (List Int)} (h : PsOk Ps) {p : List Int} (hp : p ∈ Ps) : 0 ≤ lastI p ∧ lastI p < 6 := by
 rcases h.each p hp with ⟨h1, _, _, h4⟩
 have : lastI p ∈ p := by
  unfold lastI
  rw [List.getLastD_eq_getLast?, List.getLast?_eq_some_getLast h1]
  exact List.getLast_mem h1
 exact h4 _ this
theorem NsOk.node {ns : List Int} (h : NsOk ns) {p : List Int} (hp : 0 ≤ lastI p ∧ lastI p < 6) : 0 ≤ nodeN ns p ∧ nodeN ns p < 1000000 ∧ ns[(lastI p).toNat]? = some (nodeN ns p) := by
 have hl : (lastI p).toNat < ns.length := by rw [h.len]; omega
 have e : ns[(lastI p).toNat]? = some (nodeN ns p) := by
  unfold nodeN
  rw [List.getD_eq_getElem?_getD, List.getElem?_eq_getElem hl]
  rfl
 have hm : nodeN ns p ∈ ns := by
  have := List.mem_of_getElem? e
  exact this
 exact ⟨(h.each _ hm).1, (h.each _ hm).2, e⟩
theorem PsOk.child {Ps : List (List Int)} (h : PsOk Ps) {p l : List Int} (hl : l ∈ Ps) (hp : p ≠ []) (hd : l.dropLast = p) : lastI p < lastI l := by
 rcases h.each l hl with ⟨h1, _, h3, _⟩
 have e : l = p ++ [lastI l] := by
  rw [← hd]
  unfold lastI
  rw [List.getLastD_eq_getLast?, List.getLast?_eq_some_getLast h1]
  exact (List.dropLast_concat_getLast h1).symm
 rw [e] at h3
 have hm : lastI p ∈ p := by
  unfold lastI
  rw [List.getLastD_eq_getLast?, List.getLast?_eq_some_getLast hp]
  exact List.getLast_mem hp
 exact (List.pairwise_append.mp h3).2.2 _ hm _ (List.mem_singleton.mpr rfl)
theorem fold_step_le (ns : List Int) (Ps : List (List Int)) (f : Nat) (p : List Int) (b : List Str × List Str) (ls : List (List Int)) (i : Nat) (l : List Int) (h : ls[i]? = some l) :
  (toldF ns Ps f p ((ls.take i).foldl (toldF ns Ps f p) b) l).1.length ≤ (ls.foldl (toldF ns Ps f p) b).1.length := by
 rw [← fold_take (toldF ns Ps f p) b ls i l h]
 have e : ls.foldl (toldF ns Ps f p) b = (ls.drop (i + 1)).foldl (toldF ns Ps f p) ((ls.take (i + 1)).foldl (toldF ns Ps f p) b) := by
  rw [← List.foldl_append, List.take_append_drop]
 rw [e]
 exact fold_le ns Ps f p _ _
theorem fold_pend (ns : List Int) (Ps : List (List Int)) (f : Nat) (p : List Int) (T : Str) : ∀ (ls : List (List Int)) (r : List Str × List Str), (r.2 = [] ∨ r.2 = [T]) → (ls.foldl (toldF ns Ps f p) r).2 = [] ∨ (ls.foldl (toldF ns Ps f p) r).2 = [T]
 | [], _, h => h
 | l :: ls, r, h => fold_pend ns Ps f p T ls _ (toldF_pend ns Ps f p r l T h)
end
section
theorem fm (a : Int) {m : Int} (h : 0 < m) : 0 ≤ a.fmod m ∧ a.fmod m < m := ⟨Int.fmod_nonneg_of_pos _ h, Int.fmod_lt_of_pos _ h⟩
theorem int_casesN {P : Int → Prop} {N : Nat} (h : ∀ i : Fin N, P (i.val : Int)) {k : Int} (hk : 0 ≤ k ∧ k < N) : P k := by
 have := h ⟨k.toNat, by omega⟩
 rwa [show ((⟨k.toNat, by omega⟩ : Fin N).val : Int) = k by simp; omega] at this
def NameGood (x : Str) : Prop := x.length ≤ 2 ∧ 1 ≤ x.length ∧ ¬ (Str.ofString "{") = Txt.item x 0
instance (x : Str) : Decidable (NameGood x) := by unfold NameGood; infer_instance
theorem let_len {k : Int} (hk : 0 ≤ k ∧ k < 6) : (Txt.item (Str.ofString "abcdef") k).length = 1 :=
 int_casesN (N := 6) (P := fun k => (Txt.item (Str.ofString "abcdef") k).length = 1) (by decide +kernel) hk
theorem name_good1 : ∀ k : Fin 6, NameGood (Txt.upper (letS (k.val : Int))) ∧ NameGood (letS (k.val : Int)) := by decide +kernel
theorem name_good2 : ∀ b : Fin 11, ∀ k : Fin 6, NameGood (Txt.item (Str.ofString "\xad\u034f\u1806\u180b\u180c\u180d\u200b\u200c\u200d\u2060\ufeff") (b.val : Int) ++ letS (k.val : Int)) := by decide +kernel
theorem name_good3 : ∀ c : Fin 10, ∀ k : Fin 6, NameGood ⟨#[(firstsN.getD ((c.val : Int)).toNat 0 + [97, 98, 99, 100, 101, 102].getD ((k.val : Int)).toNat 0 - 97).toNat]⟩ := by decide +kernel
theorem name_good (k n : Int) (hk : 0 ≤ k ∧ k < 6) : NameGood (nameS k n) := by
 have f2 := fm (n.fdiv 2880) (m := 11) (by decide)
 have f3 := fm (n.fdiv 2880) (m := 10) (by decide)
 unfold nameS
 split
 ·exact int_casesN (N := 6) (P := fun k => NameGood (Txt.upper (letS k))) (fun i => (name_good1 i).1) hk
 split
 ·revert f2
  generalize (n.fdiv 2880).fmod 11 = b
  intros f2
  exact int_casesN (N := 6) (P := fun k => NameGood (Txt.item (Str.ofString "\xad\u034f\u1806\u180b\u180c\u180d\u200b\u200c\u200d\u2060\ufeff") b ++ letS k)) (fun i =>
   int_casesN (N := 11) (P := fun b => NameGood (Txt.item (Str.ofString "\xad\u034f\u1806\u180b\u180c\u180d\u200b\u200c\u200d\u2060\ufeff") b ++ letS (i.val : Int))) (fun j => name_good2 j i) f2) hk
 split
 ·revert f3
  generalize (n.fdiv 2880).fmod 10 = c
  intros f3
  exact int_casesN (N := 6) (P := fun k => NameGood ⟨#[(firstsN.getD c.toNat 0 + [97, 98, 99, 100, 101, 102].getD k.toNat 0 - 97).toNat]⟩) (fun i =>
   int_casesN (N := 10) (P := fun c => NameGood ⟨#[(firstsN.getD c.toNat 0 + [97, 98, 99, 100, 101, 102].getD ((i.val : Int)).toNat 0 - 97).toNat]⟩) (fun j => name_good3 j i) f3) hk
 ·exact int_casesN (N := 6) (P := fun k => NameGood (letS k)) (fun i => (name_good1 i).2) hk
theorem text_good0 : ∀ a : Fin 4, ∀ b : Fin 3, 1 ≤ (Txt.mul (Txt.item (Str.ofString "&<>\x0d") (a.val : Int)) (1 + (b.val : Int))).length ∧ (Txt.mul (Txt.item (Str.ofString "&<>\x0d") (a.val : Int)) (1 + (b.val : Int))).length ≤ 3 := by decide +kernel
theorem text_good (n : Int) : 1 ≤ (textS n).length ∧ (textS n).length ≤ 3 := by
 have f1 := fm (n.fdiv 60) (m := 4) (by decide)
 have f2 := fm (n.fdiv 240) (m := 3) (by decide)
 unfold textS
 revert f1 f2
 generalize (n.fdiv 60).fmod 4 = a
 generalize (n.fdiv 240).fmod 3 = b
 intros f1 f2
 exact int_casesN (N := 4) (P := fun a => 1 ≤ (Txt.mul (Txt.item (Str.ofString "&<>\x0d") a) (1 + b)).length ∧ (Txt.mul (Txt.item (Str.ofString "&<>\x0d") a) (1 + b)).length ≤ 3) (fun i =>
  int_casesN (N := 3) (P := fun b => 1 ≤ (Txt.mul (Txt.item (Str.ofString "&<>\x0d") (i.val : Int)) (1 + b)).length ∧ (Txt.mul (Txt.item (Str.ofString "&<>\x0d") (i.val : Int)) (1 + b)).length ≤ 3) (fun j => text_good0 i j) f2) f1
theorem ws_good0 : ∀ a : Fin 7, 1 ≤ (wsS a.val).length ∧ (wsS a.val).length ≤ 13 := by decide +kernel
theorem ws_good {n : Nat} (h : n ≤ 6) : 1 ≤ (wsS n).length ∧ (wsS n).length ≤ 13 := ws_good0 ⟨n, by omega⟩
theorem join1_len (x : Str) : (Txt.join (Str.ofString "") [x]).length = x.length := by rfl
theorem join2_len (x y : Str) : (Txt.join (Str.ofString "") [x, y]).length = x.length + y.length := by
 show (x ++ Str.ofString "" ++ y).length = _
 have e : ∀ a b : Str, (a ++ b).length = a.length + b.length := fun a b => by show (a.cps ++ b.cps).size = _; rw [Array.size_append]; rfl
 rw [e, e]
 show x.length + 0 + y.length = _
 omega
theorem ysok1 {x : Str} (h1 : 1 ≤ x.length) (h2 : x.length ≤ 20) : YsOk [x] true := by
 refine .inr ⟨?_, by rw [join1_len]; omega, by rw [join1_len]; omega, by simp, by simp, rfl⟩
 have e : (Str.ofString "").length = 0 := rfl
 simp only [JoinOk, Builtin.Str.tooLong, sizeLine_eq]
 simp [e]
 omega
theorem ysok2 {x y : Str} (h1 : 1 ≤ x.length) (h2 : x.length ≤ 20) (h3 : y.length ≤ 20) : YsOk [x, y] true := by
 refine .inr ⟨?_, by rw [join2_len]; omega, by rw [join2_len]; omega, by simp, by simp, rfl⟩
 have e : (Str.ofString "").length = 0 := rfl
 simp only [JoinOk, Builtin.Str.tooLong, sizeLine_eq]
 simp [e]
 omega
end
section
def ItAt (oI : Obj) (ax : Addr) (j : Nat) : Prop := oI.cls = .type "list_iterator" ∧ oI.data = .fields #[.ref ax, .int (j : Nat) 0]
inductive TurnL (h₀ : Heap) (L : Addr) (ax : Addr) (items : Array Value) (k : Nat) (J : Nat → (Str → Option Value) → List (Addr × Obj) → Array GenState → Prop) (I : Addr) (oI : Obj) (i : Nat) (s₁ : Shared) (f : Flow) (s₂ : Shared) : Prop
 | mk (h' : PySem.Heap) (tk' : Nat) (g' : Array PySem.GenState) (m' : PySem.Str → Option PySem.Value) (news' : List (PySem.Addr × PySem.Obj)) (h : f = .next ∧ s₂ = { s₁ with heap := h', toks := tk', gens := g' } ∧ Fr h₀ L h' m' ∧ News h₀ L h' news' ∧ (I, oI) ∈ news' ∧ (ax, listOf items k) ∈ news' ∧ J (i + 1) m' (news'.filter fun q => q.1 != I) g') : TurnL h₀ L ax items k J I oI i s₁ f s₂
inductive ForL (w : World) (A : Around) (h₀ : Heap) (env : Env) (x : Str) (body : List Stmt) (Q : Flow → Shared → Prop) (E : Value → Shared → Prop) (items : Array Value) (k : Nat) (J : Nat → (Str → Option Value) → List (Addr × Obj) → Array GenState → Prop) (xv : Value) (s₁ : Shared) : Prop
 | mk (ax : PySem.Addr) (m : PySem.Str → Option PySem.Value) (news : List (PySem.Addr × PySem.Obj)) (h : xv = .ref ax ∧ Fr h₀ env.locals s₁.heap m ∧ News h₀ env.locals s₁.heap news ∧ (ax, listOf items k) ∈ news ∧ J 0 m news s₁.gens ∧
  (∀ I oI i v m₁ news₁ h tk g, items[i]? = some v → (∀ q ∈ news, q.1 < I) → (∀ q ∈ news₁, q.1 ≠ I) → ItAt oI ax (i + 1) → (ax, listOf items k) ∈ news₁ → J i m₁ news₁ g → Fr h₀ env.locals h (fun y => if y = x then some v else m₁ y) → News h₀ env.locals h ((I, oI) :: news₁) →
   wpAny (model Challenge.rw_to0089_01.prog w) A (execs body env) (TurnL h₀ env.locals ax items k J I oI i s₁) E { s₁ with heap := h, toks := tk, gens := g }) ∧
  (∀ m₁ news₁ h tk g, J items.size m₁ news₁ g → Fr h₀ env.locals h m₁ → News h₀ env.locals h news₁ → Q .next { s₁ with heap := h, toks := tk, gens := g })) : ForL w A h₀ env x body Q E items k J xv s₁
theorem for_list_iter {w : World} {A : Around} {E : Value → Shared → Prop} {s₁ : Shared} {h₀ : Heap} {env : Env} {x : Str} {px : Pos} {body : List Stmt} {Q : Flow → Shared → Prop} {items : Array Value} {k : Nat} {xv : Value}
   (J : Nat → (Str → Option Value) → List (Addr × Obj) → Array GenState → Prop) (hx : env.kindOf x = some .local) (hp : (env.scope.kind == .class || (env.scope.kind == .module && env.locals != env.globals)) = false) (hh : A.handled = none)
   (h₁ : ForL w A h₀ env x body Q E items k J xv s₁)
   (hE : PassesOwn (model Challenge.rw_to0089_01.prog w) A env E) :
   wpAny (model Challenge.rw_to0089_01.prog w) A (pyIter xv) (fun it s₂ => codeAny (model Challenge.rw_to0089_01.prog w) A (.forLoop (.Name x px) it body [] env) (fun r s' => match r with | .ok f => Q f s' | .error e => cameBackBy (model Challenge.rw_to0089_01.prog w) A env E e s') s₂) E s₁ := by
 fail "mk.a"
 case zl =>
  revert hx hp hh h₁ hE
  revert w A E s₁ h₀ env x px body Q items k xv J
  intro w A E s₁ h₀ env x px body Q items k xv J hx hp hh h₁ hE
  obtain ⟨ax, m, news, pz2⟩ := h₁
  rcases pz2 with ⟨rfl, pz3⟩
  obtain ⟨F, N, hax, hJ0, turn, done⟩ := pz3
  have hl : s₁.heap.IsList ax items := ⟨_, (N _ hax).1, rfl, _, rfl⟩
  refine wpAny_pyIter_list hl ?_
  have hlt : ax < s₁.heap.objs.size := Heap.lt_size (N _ hax).1
  have hIn : ∀ q ∈ news, q.1 < s₁.heap.objs.size := fun q hq => Heap.lt_size (N q hq).1
  have hLlt : env.locals < s₁.heap.objs.size := F.ns.lt
  have F1 := F.push { cls := .type "list_iterator", data := .fields #[.ref ax, .int 0 0] }
  have N1 := News.pushKeep N { cls := .type "list_iterator", data := .fields #[.ref ax, .int 0 0] }
  have hst : (s₁.heap.push { cls := .type "list_iterator", data := .fields #[.ref ax, .int 0 0] }).IsListIter s₁.heap.objs.size ax 0 := ⟨_, Heap.get?_push_size _ rfl, rfl, rfl⟩
  have h₀n : h₀.get? s₁.heap.objs.size = none := by
    cases e : h₀.get? s₁.heap.objs.size with
    | none => rfl
    | some o => exact absurd (Heap.lt_size (F.keep _ o e)) (Nat.lt_irrefl _)
  generalize s₁.heap.push { cls := .type "list_iterator", data := .fields #[.ref ax, .int 0 0] } = H1 at F1 N1 hst ⊢
  generalize s₁.heap.objs.size = I at hlt hIn hLlt hst h₀n ⊢
  have W := Walks.list (prog := Challenge.rw_to0089_01.prog) (w := w) (A := A) hh I ax (Nat.ne_of_lt hlt) items
  have hLI : env.locals ≠ I := Nat.ne_of_lt hLlt
  refine codeAny_forLoop
    (fun n s' => ∃ h' tk g m' news' i, s' = { s₁ with heap := h', toks := tk, gens := g } ∧ h'.IsListIter I ax i ∧ Fr h₀ env.locals h' m' ∧ News h₀ env.locals h' news' ∧ (∀ q ∈ news', q.1 ≠ I) ∧ (ax, listOf items k) ∈ news' ∧ J i m' news' g ∧ i ≤ items.size ∧ n = items.size + 1 - i) ?_ (items.size + 1)
    ⟨H1, s₁.toks, s₁.gens, m, news, 0, rfl, hst, F1, N1, fun q hq => Nat.ne_of_lt (hIn q hq), hax, hJ0, Nat.zero_le _, rfl⟩
  intro n s' pz4
  obtain ⟨h', tk, g, m', news', i, pz5⟩ := pz4
  rcases pz5 with ⟨rfl, pz6⟩
  obtain ⟨hst', F', N', off', hax', hJ, hi, pz7⟩ := pz6
  rcases pz7 with rfl
  have next : ∀ h₁ : Heap, (∀ b o, b ∉ [I] → h'.get? b = some o → h₁.get? b = some o) → Fr h₀ env.locals h₁ m' ∧ News h₀ env.locals h₁ news' := fun h₁ hk₁ =>
    ⟨⟨F'.ns.at' fun o e => hk₁ _ o (by simpa using hLI) e, fun b o e => hk₁ b o (by simp only [List.mem_singleton]; intro q; rw [q, h₀n] at e; cases e) (F'.keep b o e), F'.above⟩, fun p hp => ⟨hk₁ _ _ (by simpa using off' p hp) (N' p hp).1, (N' p hp).2⟩⟩
  have hl' : h'.IsList ax items := ⟨_, (N' _ hax').1, rfl, _, rfl⟩
  by_cases hlt : i < items.size
  · refine W.item i _ _ _ hlt ⟨hst', hl'⟩ fun v h₁ tk₁ hP hst₁ hk₁ => ?_
    injections v h₁ tk₁ hP hst₁ hk₁
    obtain ⟨F₁, N₁⟩ := next h₁ hk₁
    refine wpAny_assign_Name (wpAny_storeName_local hx F₁.ns (fun h₂ hn₂ hs₂ => ?_) hp)
    injections h₂ hn₂ hs₂
    have F₂ := F₁.set hn₂ hs₂
    have N₂ := N₁.set hs₂
    rcases hst₁ with ⟨pz10, pz9⟩
    obtain ⟨oI, hoI, hcI, hdI⟩ := pz10
    have hoI₂ : h₂.get? I = some oI := (hs₂.2 I (Ne.symm hLI)).trans hoI
    refine wpAny_mono (wpAny_passesOwn hE (turn I oI i v m' news' h₂ (tk₁ + 1) g hP hIn off' ⟨hcI, hdI⟩ hax' hJ F₂ fun q hq => ?_)) (fun f s₃ h₃ => ?_) fun _ _ e => e
    injections q hq
    injections f s₃ h₃
    ·rcases List.mem_cons.mp hq with rfl | hq
     ·exact ⟨hoI₂, Ne.symm hLI, h₀n⟩
     ·exact N₂ q hq
    ·obtain ⟨h₃', tk₃, g₃, m₃, news₃, pz12⟩ := h₃
     rcases pz12 with ⟨rfl, pz13⟩
     rcases pz13 with ⟨rfl, pz14⟩
     obtain ⟨F₃, N₃, hI₃, ha₃, hJ₃⟩ := pz14
     have hn := N₃ _ hI₃
     refine ⟨items.size + 1 - (i + 1), by omega, h₃', tk₃, g₃, m₃, news₃.filter fun q => q.1 != I, i + 1, rfl, ⟨oI, hn.1, hcI, hdI⟩, F₃, fun q hq => N₃ q (List.mem_filter.mp hq).1, fun q hq => by simpa using (List.mem_filter.mp hq).2, List.mem_filter.mpr ⟨ha₃, by simpa using Nat.ne_of_lt ‹ax < I›⟩, hJ₃, hlt, rfl⟩
  · have hin : i = items.size := by omega
    subst hin
    refine W.done _ _ _ ⟨hst', hl'⟩ fun h₁ tk₁ hk₁ => wpAny_execs_nil ?_
    obtain ⟨F₁, N₁⟩ := next h₁ hk₁
    exact done m' news' h₁ tk₁ g hJ F₁ N₁
 fail "mk.b"
inductive TurnL1 (h₀ : Heap) (L : Addr) (x : Str) (m₀ : Str → Option Value) (ax : Addr) (items : Array Value) (k : Nat) (J : Nat → List (Addr × Obj) → Array GenState → Prop) (I : Addr) (oI : Obj) (i : Nat) (s₁ : Shared) (f : Flow) (s₂ : Shared) : Prop
 | mk (h' : PySem.Heap) (tk' : Nat) (g' : Array PySem.GenState) (m' : PySem.Str → Option PySem.Value) (news' : List (PySem.Addr × PySem.Obj)) (h : f = .next ∧ s₂ = { s₁ with heap := h', toks := tk', gens := g' } ∧ Fr h₀ L h' m' ∧ (∀ y, y ≠ x → m' y = m₀ y) ∧ News h₀ L h' news' ∧ (I, oI) ∈ news' ∧ (ax, listOf items k) ∈ news' ∧ J (i + 1) (news'.filter fun q => q.1 != I) g') : TurnL1 h₀ L x m₀ ax items k J I oI i s₁ f s₂
inductive ForL1 (w : World) (A : Around) (h₀ : Heap) (env : Env) (x : Str) (body : List Stmt) (Q : Flow → Shared → Prop) (E : Value → Shared → Prop) (items : Array Value) (k : Nat) (J : Nat → List (Addr × Obj) → Array GenState → Prop) (xv : Value) (s₁ : Shared) : Prop
 | mk (ax : PySem.Addr) (m₀ : PySem.Str → Option PySem.Value) (news : List (PySem.Addr × PySem.Obj)) (h : xv = .ref ax ∧ Fr h₀ env.locals s₁.heap m₀ ∧ News h₀ env.locals s₁.heap news ∧ (ax, listOf items k) ∈ news ∧ J 0 news s₁.gens ∧
  (∀ I oI i v news₁ h tk g, items[i]? = some v → (∀ q ∈ news, q.1 < I) → (∀ q ∈ news₁, q.1 ≠ I) → ItAt oI ax (i + 1) → (ax, listOf items k) ∈ news₁ → J i news₁ g → Fr h₀ env.locals h (fun y => if y = x then some v else m₀ y) → News h₀ env.locals h ((I, oI) :: news₁) →
   wpAny (model Challenge.rw_to0089_01.prog w) A (execs body env) (TurnL1 h₀ env.locals x m₀ ax items k J I oI i s₁) E { s₁ with heap := h, toks := tk, gens := g }) ∧
  (∀ (u : Str → Option Value) news₁ h tk g, J items.size news₁ g → Fr h₀ env.locals h (fun y => if y = x then u y else m₀ y) → News h₀ env.locals h news₁ → Q .next { s₁ with heap := h, toks := tk, gens := g })) : ForL1 w A h₀ env x body Q E items k J xv s₁
theorem for_list1 {w : World} {A : Around} {E : Value → Shared → Prop} {s : Shared} {h₀ : Heap} {env : Env} {x : Str} {px : Pos} {iter : PySem.Expr} {body : List Stmt} {pos : Pos} {Q : Flow → Shared → Prop} {items : Array Value} {k : Nat} {mF : Str → Option Value} (_F₀ : Fr h₀ env.locals s.heap mF)
   (J : Nat → List (Addr × Obj) → Array GenState → Prop) (hx : env.kindOf x = some .local) (hp : (env.scope.kind == .class || (env.scope.kind == .module && env.locals != env.globals)) = false) (hh : A.handled = none)
   (h : wpAny (model Challenge.rw_to0089_01.prog w) A (eval iter env) (ForL1 w A h₀ env x body Q E items k J) E s)
   (hs : ∀ x, foldedSetIterable iter env x = pure x := by intros _; rfl)
   (hE : PassesOwn (model Challenge.rw_to0089_01.prog w) A env E := by passes_own) :
   wpAny (model Challenge.rw_to0089_01.prog w) A (exec (.For (.Name x px) iter body [] pos) env) Q E s := by
 fail "mk.a"
 case zl =>
  revert _F₀ hx hp hh h hs hE
  revert w A E s h₀ env x px iter body pos Q items k mF J
  intro w A E s h₀ env x px iter body pos Q items k mF J _F₀ hx hp hh h hs hE
  refine wpAny_For (wpAny_mono (Q := fun xv s₁ => ∃ J', ForL w A h₀ env x body Q E items k J' xv s₁) (wpAny_mono h (fun xv s₁ h₁ => ?_) fun _ _ e => e) (fun xv s₁ h₁ => ?_) fun _ _ e => e) hs
  injections xv s₁ h₁
  injections xv s₁ h₁
  · obtain ⟨ax, m₀, news, pz16⟩ := h₁
    rcases pz16 with ⟨rfl, pz17⟩
    obtain ⟨F, N, hax, hJ0, turn, done⟩ := pz17
    refine ⟨fun i m₁ news₁ g => (∀ y, y ≠ x → m₁ y = m₀ y) ∧ J i news₁ g, ax, m₀, news, rfl, F, N, hax, ⟨fun _ _ => rfl, hJ0⟩, ?_, ?_⟩
    ·intro I oI i v m₁ news₁ h tk g hv h1 h2 h3 h4 pz18
     obtain ⟨hm, hJ⟩ := pz18
     intro F₁ N₁
     have e : (fun y => if y = x then some v else m₁ y) = fun y => if y = x then some v else m₀ y := by
      funext y
      by_cases h1 : y = x
      ·simp [h1]
      ·simp only [if_neg h1]; exact hm y h1
     rw [e] at F₁
     refine wpAny_mono (turn I oI i v news₁ h tk g hv h1 h2 h3 h4 hJ F₁ N₁) (fun f s₂ h₂ => ?_) fun _ _ e => e
     injections f s₂ h₂
     obtain ⟨h', tk', g', m', news', pz20⟩ := h₂
     rcases pz20 with ⟨rfl, pz21⟩
     rcases pz21 with ⟨rfl, pz22⟩
     obtain ⟨F', hm', N', p1, p2, p3⟩ := pz22
     exact ⟨h', tk', g', m', news', rfl, rfl, F', N', p1, p2, hm', p3⟩
    ·intro m₁ news₁ h tk g pz23
     obtain ⟨hm, hJ⟩ := pz23
     intro F₁ N₁
     refine done m₁ news₁ h tk g hJ ?_ N₁
     have e : (fun y => if y = x then m₁ y else m₀ y) = m₁ := by
      funext y
      by_cases h1 : y = x
      ·simp [h1]
      ·simp only [if_neg h1]; exact (hm y h1).symm
     rw [e]; exact F₁
  · obtain ⟨J', h₁⟩ := h₁
    exact for_list_iter J' hx hp hh h₁ hE
 fail "mk.b"
theorem ForL1.intro {w : World} {A : Around} {h₀ : Heap} {env : Env} {x : Str} {body : List Stmt} {Q : Flow → Shared → Prop} {E : Value → Shared → Prop} {items : Array Value} {k : Nat} {J : Nat → List (Addr × Obj) → Array GenState → Prop} {s₁ : Shared} {ax : Addr} {m₀ : Str → Option Value} {news : List (Addr × Obj)}
 (F : Fr h₀ env.locals s₁.heap m₀) (N : News h₀ env.locals s₁.heap news) (hm : (ax, listOf items k) ∈ news) (hJ : J 0 news s₁.gens)
 (turn : ∀ I oI i v news₁ h tk g, items[i]? = some v → (∀ q ∈ news, q.1 < I) → (∀ q ∈ news₁, q.1 ≠ I) → ItAt oI ax (i + 1) → (ax, listOf items k) ∈ news₁ → J i news₁ g → Fr h₀ env.locals h (fun y => if y = x then some v else m₀ y) → News h₀ env.locals h ((I, oI) :: news₁) →
  wpAny (model Challenge.rw_to0089_01.prog w) A (execs body env) (TurnL1 h₀ env.locals x m₀ ax items k J I oI i s₁) E { s₁ with heap := h, toks := tk, gens := g })
 (done : ∀ (u : Str → Option Value) news₁ h tk g, J items.size news₁ g → Fr h₀ env.locals h (fun y => if y = x then u y else m₀ y) → News h₀ env.locals h news₁ → Q .next { s₁ with heap := h, toks := tk, gens := g }) :
 ForL1 w A h₀ env x body Q E items k J (.ref ax) s₁ := ⟨ax, m₀, news, rfl, F, N, hm, hJ, turn, done⟩
theorem TurnL1.intro {h₀ : Heap} {L : Addr} {x : Str} {m₀ : Str → Option Value} {ax : Addr} {items : Array Value} {k : Nat} {J : Nat → List (Addr × Obj) → Array GenState → Prop} {I : Addr} {oI : Obj} {i : Nat} {s₁ : Shared} {h' : Heap} {tk' : Nat} {g' : Array GenState} {m' : Str → Option Value} {news' : List (Addr × Obj)}
 (F : Fr h₀ L h' m') (hm : ∀ y, y ≠ x → m' y = m₀ y) (N : News h₀ L h' news') (hI : (I, oI) ∈ news') (ha : (ax, listOf items k) ∈ news') (hJ : J (i + 1) (news'.filter fun q => q.1 != I) g') :
 TurnL1 h₀ L x m₀ ax items k J I oI i s₁ .next { s₁ with heap := h', toks := tk', gens := g' } := ⟨h', tk', g', m', news', rfl, rfl, F, hm, N, hI, ha, hJ⟩
end
section
theorem list_at {prog : Program} {w : World} {A : Around} {E : Value → Shared → Prop} {s : Shared} {value slice : PySem.Expr} {l : Addr} {items : Array Value} {i : Int} {v : Value} {t : Tok} {Q : Value → Shared → Prop} (hl : s.heap.IsList l items) (h0 : 0 ≤ i) (hi : i < 1000) (hv : items[i.toNat]? = some v) (h : Q v s)
  (hs : subscripted slice false (.ref l) (.int i t) = operate [.ref l, .int i t] (getItem (.ref l) (.int i t)) := by with_unfolding_all rfl) (hg : ∀ r, letTemporaryGo value (.ref l) r = pure () := by intros _; with_unfolding_all rfl) :
  wpAny (model prog w) A (subscriptTail value slice (.ref l) (.int i t)) Q E s :=
 subscriptTail_builtin hl.typeIs slot_list_getitem.lookup (wpAny_getItem_list hl h0 (by omega) hv h) hs hg
theorem list_last {prog : Program} {w : World} {A : Around} {E : Value → Shared → Prop} {s : Shared} {value slice : PySem.Expr} {l : Addr} {vs : List Value} {v : Value} {t : Tok} {Q : Value → Shared → Prop} (hl : s.heap.IsList l vs.toArray) (hv : vs.getLast? = some v) (h : Q v s)
  (hs : subscripted slice false (.ref l) (.int (-1) t) = operate [.ref l, .int (-1) t] (getItem (.ref l) (.int (-1) t)) := by with_unfolding_all rfl) (hg : ∀ r, letTemporaryGo value (.ref l) r = pure () := by intros _; with_unfolding_all rfl) :
  wpAny (model prog w) A (subscriptTail value slice (.ref l) (.int (-1) t)) Q E s := by
 have hne : 0 < vs.length := by cases vs with
  | nil => simp at hv
  | cons a b => simp
 refine subscriptTail_builtin hl.typeIs slot_list_getitem.lookup (wpAny_getItem_list_neg hl (by decide) (by rw [List.size_toArray]; omega) (by decide) ?_ h) hs hg
 have e : ((-1 : Int) + (vs.toArray.size : Nat)).toNat = vs.length - 1 := by rw [List.size_toArray]; exact m1 hne
 rw [e, List.getElem?_toArray, ← List.getLast?_eq_getElem?]
 exact hv
theorem pick_init (l : List Value) : kms_pick l none (some (-1)) = l.dropLast := by
 unfold kms_pick kms_lo kms_hi
 simp [List.dropLast_eq_take]
theorem ints_drop {vs : List Value} {ns : List Int} (h : IntsAre vs ns) : IntsAre vs.dropLast ns.dropLast := by
 induction h with
 | nil => exact .nil
 | cons k t h ih =>
  cases h with
  | nil => exact .nil
  | cons k2 t2 h2 => exact .cons k t ih
theorem ints_last {vs : List Value} {ns : List Int} (h : IntsAre vs ns) (hn : ns ≠ []) : ∃ t, vs.getLast? = some (.int (lastI ns) t) := by
 induction h with
 | nil => exact absurd rfl hn
 | cons k t h ih =>
  cases h with
  | nil => exact ⟨t, rfl⟩
  | cons k2 t2 h2 =>
   rcases ih (by simp) with ⟨t', ht'⟩
   refine ⟨t', ?_⟩
   rw [List.getLast?_cons_cons, ht']
   unfold lastI
   simp
theorem WSt.inst {P : Params} {x : WA} {news keep : List (Addr × Obj)} {zs ys : List Str} {es : List Addr} {nss pres : Array Value} {seen : Bool} (S : WSt P x news keep zs ys es nss pres seen) :
  ∃ done we pn ps, (x.W, instObj 150 x.WD) ∈ news ∧ (x.WD, dictOf (wEs P x.tk x.aW x.aD x.aDecl x.aNs x.aMap x.aPres seen done x.ig) we) ∈ news ∧ (x.aPres, listOf ps pn) ∈ news := by
 rcases S with ⟨done, we, dn, pn, n3, n4, n5, ds, ps, tb, rest, h1, _⟩
 exact ⟨done, we, n5, _, h1 _ (.head _), h1 _ (.tail _ (.head _)), h1 _ (.tail _ (.tail _ (.tail _ (.tail _ (.tail _ (.tail _ (.tail _ (.head _))))))))⟩
theorem WSt.lit {P : Params} {x : WA} {news keep : List (Addr × Obj)} {zs ys : List Str} {es : List Addr} {nss pres : Array Value} {seen : Bool} {h₀ h : Heap} {L : Addr} (S : WSt P x news keep zs ys es nss pres seen) (N : News h₀ L h news) {q1 q2 q3 : Addr × Obj} (m1 : q1 ∈ keep) (m2 : q2 ∈ keep) (m3 : q3 ∈ keep) :
  ∃ done we pn ps, News h₀ L h ((x.W, instObj 150 x.WD) :: (x.WD, dictOf (wEs P x.tk x.aW x.aD x.aDecl x.aNs x.aMap x.aPres seen done x.ig) we) :: (x.aPres, listOf ps pn) :: q1 :: q2 :: q3 :: news) := by
 rcases S.inst with ⟨done, we, pn, ps, a1, a2, a3⟩
 exact ⟨done, we, pn, ps, news_sub N (List.forall_mem_cons.mpr ⟨a1, List.forall_mem_cons.mpr ⟨a2, List.forall_mem_cons.mpr ⟨a3, List.forall_mem_cons.mpr ⟨S.kept _ m1, List.forall_mem_cons.mpr ⟨S.kept _ m2, List.forall_mem_cons.mpr ⟨S.kept _ m3, fun q hq => hq⟩⟩⟩⟩⟩⟩)⟩
theorem apart_new {x : WA} (hinc : x.IncW) {d : Addr} {o : Obj} (h : @LT.lt Nat _ x.aPres d) : Apart [x.PT, x.aP, x.WD, x.aDecl, x.aNs, x.aPres, x.aD] [(d, o)] := by
 unfold WA.IncW at hinc
 simp only [Inc, and_true] at hinc
 have l : ∀ X : Nat, X < d → ∀ q ∈ [(d, o)], q.1 ≠ X := fun X h q hq => by
  rw [List.mem_singleton.mp hq]
  exact Nat.ne_of_gt h
 exact ⟨l _ (by omega), l _ (by omega), l _ (by omega), l _ (by omega), l _ (by omega), l _ (by omega), l _ (by omega), trivial⟩
theorem newDict0 {prog : Program} {w : World} {A : Around} {E : Value → Shared → Prop} {s : Shared} {h₀ : Heap} {L : Addr} {m : Str → Option Value} {news : List (Addr × Obj)} {env : Env} {pos : Pos} {Q : Value → Shared → Prop} (F : Fr h₀ L s.heap m) (N : News h₀ L s.heap news)
  (k : ∀ d h', Fr h₀ L h' m → News h₀ L h' ((d, dictOf [] 0) :: news) → (∀ p ∈ news, p.1 < d) → Q (.ref d) { s with heap := h' }) : wpAny (model prog w) A (eval (.Dict [] [] pos) env) Q E s :=
 wpAny_Dict_empty (k _ _ (F.push _) (News.push F N _) fun p hp => Heap.lt_size (N p hp).1)
theorem WSt.lits {P : Params} {x : WA} {news keep : List (Addr × Obj)} {zs ys : List Str} {es : List Addr} {nss pres : Array Value} {seen : Bool} {h₀ h : Heap} {L : Addr} (S : WSt P x news keep zs ys es nss pres seen) (N : News h₀ L h news) (extra : List (Addr × Obj)) (me : ∀ q ∈ extra, q ∈ news) :
  ∃ done we pn ps, News h₀ L h ((x.W, instObj 150 x.WD) :: (x.WD, dictOf (wEs P x.tk x.aW x.aD x.aDecl x.aNs x.aMap x.aPres seen done x.ig) we) :: (x.aPres, listOf ps pn) :: (extra ++ news)) := by
 rcases S.inst with ⟨done, we, pn, ps, a1, a2, a3⟩
 refine ⟨done, we, pn, ps, news_sub N (List.forall_mem_cons.mpr ⟨a1, List.forall_mem_cons.mpr ⟨a2, List.forall_mem_cons.mpr ⟨a3, fun q hq => ?_⟩⟩⟩)⟩
 rcases List.mem_append.mp hq with hq | hq
 ·exact me q hq
 ·exact hq
def PathsIn (keep : List (Addr × Obj)) (pl : Addr) (as : List Addr) (Ps : List (List Int)) (kl : Nat) : Prop :=
 (pl, listOf (as.map Value.ref).toArray kl) ∈ keep ∧ as.length = Ps.length ∧ ∀ (j : Nat) (a : Addr) (p : List Int), as[j]? = some a → Ps[j]? = some p → ∃ vs n, (a, listOf vs.toArray n) ∈ keep ∧ IntsAre vs p
def NumsIn (keep : List (Addr × Obj)) (nA : Addr) (ns : List Int) (kn : Nat) : Prop := ∃ vs, (nA, listOf vs.toArray kn) ∈ keep ∧ IntsAre vs ns
theorem PathsIn.sub {keep keep' : List (Addr × Obj)} {pl : Addr} {as : List Addr} {Ps : List (List Int)} {kl : Nat} (h : PathsIn keep pl as Ps kl) (hs : ∀ q ∈ keep, q ∈ keep') : PathsIn keep' pl as Ps kl :=
 ⟨hs _ h.1, h.2.1, fun j a p h1 h2 => by obtain ⟨vs, n, h3, h4⟩ := h.2.2 j a p h1 h2; exact ⟨vs, n, hs _ h3, h4⟩⟩
theorem NumsIn.sub {keep keep' : List (Addr × Obj)} {nA : Addr} {ns : List Int} {kn : Nat} (h : NumsIn keep nA ns kn) (hs : ∀ q ∈ keep, q ∈ keep') : NumsIn keep' nA ns kn := by
 rcases h with ⟨vs, h1, h2⟩
 exact ⟨vs, hs _ h1, h2⟩
def ToldSpec (w : World) (base : Heap) (x : WA) (pl nA : Addr) (as : List Addr) (Ps : List (List Int)) (ns : List Int) (kl kn f : Nat) : Prop :=
 ∀ (p : Program) (loose : List Str) (mean : ExcName → Option Value) (mg mb : Str → Option Value) (dp un : Nat) (gd : Option (List Code)) (cn : Str) (cs : Scope) (a : Addr) (ccd : Value) (cl : List (Str × Addr)) (outer : List Env) (A₀ : Around) (h₀ : Heap) (L : Addr) (m : Str → Option Value) (s : Shared) (Q E : Value → Shared → Prop),
  (PR = PR) → Below A₀ base outer h₀ → Fr h₀ L s.heap m → (K0.heap_1 w.params).In h₀ → Top p loose mean mg mb h₀ → cs.kind = .function →
  dp + (30 * f + 10) < recursionLimit → un + (300 * f + 100) < cLine →
  ∀ (pa : Addr) (pth : List Int) (j : Nat) (news keep : List (Addr × Obj)) (zs ys : List Str) (es : List Addr) (nss pres : Array Value) (seen : Bool),
   as[j]? = some pa → Ps[j]? = some pth → 6 ≤ lastI pth + f → es.length + f ≤ 9 → News h₀ L s.heap news → WSt w.params x news keep zs ys es nss pres seen → YsOk ys seen →
   PathsIn keep pl as Ps kl → NumsIn keep nA ns kn →
   (zs ++ flushL ys ++ toldP ns Ps f pth).length ≤ 790 → nss.size + f ≤ 900 → pres.size + f ≤ 900 →
   (∀ h' tk' g' news', Fr h₀ L h' m → News h₀ L h' news' → WSt w.params x news' keep (zs ++ flushL ys ++ toldP ns Ps f pth) [] es nss pres true → (AllBare s.gens → AllBare g') → Q .none { s with heap := h', toks := tk', gens := g' }) →
   wpAny (model Challenge.rw_to0089_01.prog w) (ktrTop dp un gd cn cs L a ccd cl outer) (call (.ref 333) [.ref x.W, .ref pl, .ref nA, .ref pa]) Q E s
theorem told_step (x : WA) (pl nA : Addr) (as : List Addr) (Ps : List (List Int)) (ns : List Int) (kl kn f : Nat) (base : Heap) (w : World) (hCd : CodeHd base 125 x.PT) (hinc : x.IncW) (hPs : PsOk Ps) (hNs : NsOk ns) (hsm0 : @LT.lt Nat _ sysModules x.aPres) (ih : ToldSpec w base x pl nA as Ps ns kl kn f) : ToldSpec w base x pl nA as Ps ns kl kn (f + 1) := by
 fail "mk.a"
 case zl =>
  revert hCd hinc hPs hNs hsm0 ih
  revert x pl nA as Ps ns kl kn f base w
  intro x pl nA as Ps ns kl kn f base w hCd hinc hPs hNs hsm0 ih
  intro p loose mean mg mb dp un gd cn cs a ccd cl outer A₀ h₀ L m s Q E hfill B F X T hk hd hu pa pth j news keep zs ys es nss pres seen haj hpj hlast hes N S hy hPin hNin hz hnss hpres hret
  have hpm : pth ∈ Ps := List.mem_of_getElem? hpj
  have hl6 := hPs.last hpm
  obtain ⟨hn0, hn1, hnk⟩ := hNs.node hl6
  have hn : 0 ≤ nodeN ns pth ∧ nodeN ns pth < 1000000 := ⟨hn0, hn1⟩
  obtain ⟨vs, kp, hpa, hvs⟩ := hPin.2.2 j pa pth haj hpj
  obtain ⟨tl, hvl⟩ := ints_last hvs (hPs.each _ hpm).1
  obtain ⟨ws, hnA, hws⟩ := hNin
  obtain ⟨tn, hwn⟩ := hws.get _ _ hnk
  have hwn' : ws.toArray[(lastI pth).toNat]? = some (.int (nodeN ns pth) tn) := by rw [List.getElem?_toArray]; exact hwn
  obtain ⟨d1, w1, pn1, ps1, N2⟩ := S.lit N hpa hPin.1 hnA
  have hvl6 : vs.length ≤ 6 := by rw [hvs.length]; exact (hPs.each _ hpm).2.1
  clear N
  revert X; k_fill; intro X; refine wpAny_call ?_; first | k_dflt (fail "my.enter") | fail
  (repeat' first | (fail "g19"; ((with_reducible show _ ≤ _ → _); intro hto; (try dsimp only at hto))) | (fail "g0"; (with_reducible refine toks_gen (by omega) ?_); intro tk htk) | (fail "g0"; refine toks_cons ?_) | ((with_reducible show wpAny _ _ (eval (.Dict [] [] _) _) _ _ _); k_dflt (refine' newDict0 ?k1 ?k2 ?_; (case k1 | k2 => k_asm); intro d' h' F' N' l1); (try k_lt l1)) | ((fail_if_success fail "g6"); fail "g15"; k_dflt (refine' list_at ?hl ?h0 ?hi ?hv ?_; (case hl => is_list); (case h0 | hi => omega); (case hv => assumption))) | (fail "g6"; k_dflt (refine' list_last ?hl ?hv ?_; (case hl => is_list); (case hv => assumption))) | ((with_reducible show wpAny _ _ (call (Value.ref 326) _) _ _ _); k_dflt (refine' name_spec rfl ?k1 ?k2 ?k3 ?k4 ?k5 ?k6 ?k7 _ ?hn (fm _ (by decide)) (fm _ (by decide)) (fm _ (by decide)) _ ?hk _ _ _ ?hN ?hlen ?_; (case k1 | k2 | k3 | k4 | hN => k_asm); (case k5 => rfl); (case k6 => first | ktr_room | k_room); (case k7 => ktr_units); (case hn | hk => assumption); (case hlen => exact let_len (by assumption)); intro h' tk' t' F' N')) | ((first | fail "g8" | fail "g9" | fail "g10" | fail "g11"); refine stop_of ?_) | (fail "g2"; k_dflt (refine' callWith_K ?m1 ?m2 ?_; (case m1 => k_asm); (case m2 => k_is); k_whole)) | fail "k1")
  unfold Stop
  k_dflt (refine' start_any rfl ?k1 ?k2 ?k3 ?k4 ?k5 ?k6 ?k7 x _ _ _ _ ((_, dictOf [] 0) :: keep) zs ys es nss pres seen hCd hinc (.head _) ?hA1 ?hsm ?hx ?hb ?hes ?hN ?hS hy ?ht ?hzs ?hnss ?hpres (fun h2 tk2 g2 news2 aNN eN F2 N2 S2 hg2 => ?_); (case k1 | k2 | k3 | k4 | hN => k_asm); (case k5 => rfl); (case k6 => first | ktr_room | k_room); (case k7 => ktr_units))
  injections h2 tk2 g2 news2 aNN eN F2 N2 S2 hg2
  case hA1 => omega
  case hsm => (refine beq_eq_false_iff_ne.mpr (Nat.ne_of_gt ?_); omega)
  case hx => exact Nat.le_trans (name_good _ _ hl6).1 (by decide)
  case hb => exact (name_good _ _ hl6).2.2
  case hes => omega
  case hS => (refine WSt.keepMore (extra := [(_, dictOf [] 0)]) (WSt.mono S ?m1) ?m2 ?m3; (case m1 => (intro q hq; fail "my.mem")); (case m2 => (intro q hq; rw [List.mem_singleton.mp hq]; k_mem)); (case m3 => exact apart_new hinc (by omega)))
  case ht => omega
  case hzs => (simp only [List.length_append] at hz; omega)
  case hnss => omega
  case hpres => omega
  replace S2 := S2.keepLess (keep' := keep) (fun q hq => .tail _ hq)
  obtain ⟨d2, w2, pn2, ps2, N3⟩ := S2.lit N2 hpa hPin.1 hnA
  clear N2
  (repeat' first | (fail "g19"; ((with_reducible show _ ≤ _ → _); intro hto; (try dsimp only at hto))) | (fail "g0"; refine toks_cons ?_) | ((with_reducible show wpAny _ _ (call (Value.ref 319) _) _ _ _); k_dflt (refine' text_spec rfl ?k1 ?k2 ?k3 ?k4 ?k5 ?k6 ?k7 _ ?hn (fm _ (by decide)) (fm _ (by decide)) _ _ ?hN ?_; (case k1 | k2 | k3 | k4 | hN => k_asm); (case k5 => rfl); (case k6 => first | ktr_room | k_room); (case k7 => ktr_units); (case hn => assumption); intro h' tk' t' F' N')) | ((first | fail "g8" | fail "g9" | fail "g10" | fail "g11"); refine stop_of ?_) | (fail "g2"; k_dflt (refine' callWith_K ?m1 ?m2 ?_; (case m1 => k_asm); (case m2 => k_is); k_whole)) | fail "k1")
  unfold Stop
  k_dflt (refine' data_any rfl ?k1 ?k2 ?k3 ?k4 ?k5 ?k6 ?k7 x _ _ _ keep _ [] _ _ _ true hinc ?hN ?hS ?hys (fun h3 tk3 news3 F3 N3 S3 => ?_); (case k1 | k2 | k3 | k4 | hN => k_asm); (case k5 => rfl); (case k6 => first | ktr_room | k_room); (case k7 => ktr_units))
  injections h3 tk3 news3 F3 N3 S3
  case hys => exact Nat.zero_le _
  case hS => (refine S2.mono ?_; intro q hq; fail "my.mem")
  obtain ⟨d3, w3, pn3, ps3, N4⟩ := S3.lit N3 hpa hPin.1 hnA
  (repeat' first | (fail "g19"; ((with_reducible show _ ≤ _ → _); intro hto; (try dsimp only at hto))) | (fail "g0"; refine toks_cons ?_) | (fail "g5"; refine stop_of ?_) | (fail "g2"; k_dflt (refine' callWith_K ?m1 ?m2 ?_; (case m1 => k_asm); (case m2 => k_is); k_whole)) | fail "k1")
  unfold Stop
  k_dflt (refine for_list1 (by k_asm) (items := (as.map Value.ref).toArray) (k := kl) (fun i nw g => ∃ r : List Str × List Str, r = (Ps.take i).foldl (toldF ns Ps f pth) ([], [textS (nodeN ns pth)]) ∧ (AllBare s.gens → AllBare g) ∧ WSt w.params x nw keep (zs ++ flushL ys ++ [Str.ofString "<" ++ nodeS ns pth, Str.ofString ">"] ++ r.1) r.2 (es ++ [aNN]) (nss.push (.ref eN)) (pres.push (.bool false)) true) rfl rfl rfl ?_)
  (repeat' first | ((with_reducible show ForL1 ..); (refine stop_of ?_)) | (fail "g2"; k_dflt (refine' callWith_K ?m1 ?m2 ?_; (case m1 => k_asm); (case m2 => k_is); k_whole)) | fail "k1")
  unfold Stop
  k_dflt (refine' ForL1.intro ?hF ?hN ?hm ?hJ ?turn ?done)
  case hF => k_asm
  case hN => k_asm
  case hm => k_mem
  case hJ => (refine ⟨([], [textS (nodeN ns pth)]), rfl, hg2, ?_⟩; dsimp only; rw [List.append_nil]; refine WSt.mono S3 ?_; intro q hq; fail "my.mem")
  case turn =>
   intro I oI i v nw h4 tk4 g4 hv hI1 hI2 hIt hIm pz1
   obtain ⟨r, hr, hg4, S4⟩ := pz1
   intro F4 N5
   have hi : i < as.length := by
    have := (Array.getElem?_eq_some_iff.mp hv).1
    simpa using this
   obtain ⟨b, hb⟩ : ∃ b, as[i]? = some b := ⟨_, List.getElem?_eq_getElem hi⟩
   obtain ⟨lg, hlg⟩ : ∃ lg, Ps[i]? = some lg := ⟨_, List.getElem?_eq_getElem (by rw [← hPin.2.1]; exact hi)⟩
   have hvb : v = .ref b := by
    rw [List.getElem?_toArray, List.getElem?_map, hb] at hv
    exact (Option.some.inj hv).symm
   subst hvb
   obtain ⟨bs, nb, hbk, hbs⟩ := hPin.2.2 i b lg hb hlg
   have hIa : @LT.lt Nat _ x.aPres I := hI1 (x.aPres, _) (by k_mem)
   have hk4 := S4.kept
   obtain ⟨d5, w5, pn5, ps5, N6⟩ := (S4.mono (news' := (I, oI) :: nw) fun q hq => .tail _ hq).lits N5 [(b, listOf bs.toArray nb), (pa, listOf vs.toArray kp), (pl, listOf (as.map Value.ref).toArray kl), (nA, listOf ws.toArray kn)]
    (List.forall_mem_cons.mpr ⟨.tail _ (hk4 _ hbk), List.forall_mem_cons.mpr ⟨.tail _ (hk4 _ hpa), List.forall_mem_cons.mpr ⟨.tail _ (hk4 _ hPin.1), List.forall_mem_cons.mpr ⟨.tail _ (hk4 _ hnA), fun q hq => by simp at hq⟩⟩⟩⟩)
   simp only [List.cons_append, List.nil_append] at N6
   have hbl : bs.length ≤ 6 := by rw [hbs.length]; exact (hPs.each _ (List.mem_of_getElem? hlg)).2.1
   clear N5
   have hpend : r.2 = [] ∨ r.2 = [textS (nodeN ns pth)] := by rw [hr]; exact fold_pend ns Ps f pth _ _ _ (.inr rfl)
   have hle := fold_step_le ns Ps f pth ([], [textS (nodeN ns pth)]) Ps i lg hlg
   rw [← hr] at hle
   rw [toldP_succ] at hz
   simp only [List.length_append, List.length_cons, List.length_nil] at hz
   have hkI : ∀ q ∈ keep, q.1 ≠ I := fun q hq => hI2 q (hk4 q hq)
   have hnext : (Ps.take (i + 1)).foldl (toldF ns Ps f pth) ([], [textS (nodeN ns pth)]) = toldF ns Ps f pth r lg := by rw [fold_take _ _ _ _ _ hlg, ← hr]
   (repeat' first | (fail "g19"; ((with_reducible show _ ≤ _ → _); intro hto; (try dsimp only at hto))) | (fail "g0"; (with_reducible refine toks_gen (by omega) ?_); intro tk htk) | (fail "g0"; refine toks_cons ?_) | (fail "g13"; k_dflt (refine' Calls.call_len_list ?hl ?hz ?_; (case hl => is_list); (case hz => ((simp only [List.size_toArray]); omega)))) | ((with_reducible show TurnL1 ..); (refine stop_of ?_)) | ((with_reducible show wpAny _ _ (compareOp CmpOp.Eq (Value.ref _) (Value.ref _)) _ _ _); k_dflt (refine' ke_eq_ints ?a ?b ?i ?j ?u ?_; (case a | b => is_list); (case i => exact ints_drop (by assumption)); (case j => assumption); (case u => ktr_units))) | (k_here; fail "g4"; k_dflt (refine' kms_slice_lit ?F_z ?N_z ?l_z ?p_z ?q_z ?e_z ?_ ?s_z ?t_z ?z_z; (case F_z | N_z => k_asm); (case l_z => kmk_list); (case p_z | q_z => kmk_part); (case e_z => exact pick_init _); (case s_z => with_unfolding_all rfl); (case t_z => kmk_pure); (case z_z => ((simp only [List.size_toArray, PySem.sizeLine_eq]); omega)); intro D'_z h'_z F'_z N'_z l1_z); (try k_lt l1_z)) | ((first | fail "g8" | fail "g9" | fail "g10" | fail "g11"); refine stop_of ?_) | (fail "g2"; k_dflt (refine' callWith_K ?m1 ?m2 ?_; (case m1 => k_asm); (case m2 => k_is); k_whole)) | fail "k1")
   ·unfold Stop
    have hc : lg.dropLast = pth := by assumption
    have hF : toldF ns Ps f pth r lg = (r.1 ++ flushL (r.2 ++ [wsS pth.length]) ++ toldP ns Ps f lg, []) := by unfold toldF; rw [if_pos hc]
    have hyo : YsOk (r.2 ++ [wsS pth.length]) true := by
     have w1 := ws_good (n := pth.length) (hPs.each _ hpm).2.1
     have w2 := text_good (nodeN ns pth)
     rcases hpend with h | h
     ·rw [h]; exact ysok1 w1.1 (by omega)
     ·rw [h]; exact ysok2 w2.1 (by omega) (by omega)
    k_dflt (refine' data_any rfl ?k1 ?k2 ?k3 ?k4 ?k5 ?k6 ?k7 x _ _ _ ((I, oI) :: keep) (zs ++ flushL ys ++ [Str.ofString "<" ++ nodeS ns pth, Str.ofString ">"] ++ r.1) r.2 (es ++ [aNN]) (nss.push (.ref eN)) (pres.push (.bool false)) true hinc ?hN ?hS ?hys (fun h6 tk6 news6 F6 N7 S6 => ?_); (case k1 | k2 | k3 | k4 | hN => k_asm); (case k5 => rfl); (case k6 => first | ktr_room | k_room); (case k7 => ktr_units))
    injections h6 tk6 news6 F6 N7 S6
    case hys => (rcases hpend with h | h <;> (rw [h]; simp))
    case hS => (refine WSt.keepMore (extra := [(I, oI)]) (WSt.mono S4 ?n1) ?n2 ?n3; (case n1 => (intro q hq; fail "my.mem")); (case n2 => (intro q hq; rw [List.mem_singleton.mp hq]; k_mem)); (case n3 => exact apart_new hinc hIa))
    rw [List.size_toArray, hvs.length] at S6
    have hk6 := S6.kept
    obtain ⟨d7, w7, pn7, ps7, N8⟩ := S6.lits N7 [(I, oI), (b, listOf bs.toArray nb), (pa, listOf vs.toArray kp), (pl, listOf (as.map Value.ref).toArray kl), (nA, listOf ws.toArray kn)]
     (List.forall_mem_cons.mpr ⟨hk6 _ (.head _), List.forall_mem_cons.mpr ⟨hk6 _ (.tail _ hbk), List.forall_mem_cons.mpr ⟨hk6 _ (.tail _ hpa), List.forall_mem_cons.mpr ⟨hk6 _ (.tail _ hPin.1), List.forall_mem_cons.mpr ⟨hk6 _ (.tail _ hnA), fun q hq => by simp at hq⟩⟩⟩⟩⟩)
    simp only [List.cons_append, List.nil_append] at N8
    clear N7
    (repeat' first | (fail "g19"; ((with_reducible show _ ≤ _ → _); intro hto; (try dsimp only at hto))) | (fail "g0"; refine toks_cons ?_) | ((first | fail "g8" | fail "g9" | fail "g10" | fail "g11"); refine stop_of ?_) | (fail "g2"; k_dflt (refine' callWith_K ?m1 ?m2 ?_; (case m1 => k_asm); (case m2 => k_is); k_whole)) | fail "k1")
    unfold Stop
    k_dflt (refine' ih _ _ _ _ _ _ _ _ _ _ _ _ _ _ _ _ _ _ _ _ _ rfl ?j1 ?j2 ?j3 ?j4 ?j5 ?j6 ?j7 b lg i _ ((I, oI) :: keep) (zs ++ flushL ys ++ [Str.ofString "<" ++ nodeS ns pth, Str.ofString ">"] ++ r.1) (r.2 ++ [wsS pth.length]) (es ++ [aNN]) (nss.push (.ref eN)) (pres.push (.bool false)) true hb hlg ?hla ?hes ?hN ?hS hyo ?hP ?hNm ?hz ?hns ?hpr (fun h8 tk8 g8 news8 F8 N9 S8 hg8 => ?_); (case j1 | j2 | j3 | j4 | hN => k_asm); (case j5 => rfl); (case j6 => first | ktr_room | k_room); (case j7 => ktr_units))
    injections h8 tk8 g8 news8 F8 N9 S8 hg8
    case hla => (have := hPs.child (List.mem_of_getElem? hlg) (hPs.each _ hpm).1 hc; omega)
    case hes => (rw [List.length_append]; simp; omega)
    case hS => (refine WSt.mono S6 ?_; intro q hq; fail "my.mem")
    case hP => exact hPin.sub fun q hq => .tail _ hq
    case hNm => exact NumsIn.sub ⟨ws, hnA, hws⟩ fun q hq => .tail _ hq
    case hz => (rw [hF] at hle; simp only [List.length_append, List.length_cons, List.length_nil] at hle ⊢; omega)
    case hns => (rw [Array.size_push]; omega)
    case hpr => (rw [Array.size_push]; omega)
    have hk8 := S8.kept
    obtain ⟨d9, w9, pn9, ps9, N10⟩ := S8.lits N9 [(I, oI), (b, listOf bs.toArray nb), (pa, listOf vs.toArray kp), (pl, listOf (as.map Value.ref).toArray kl), (nA, listOf ws.toArray kn)]
     (List.forall_mem_cons.mpr ⟨hk8 _ (.head _), List.forall_mem_cons.mpr ⟨hk8 _ (.tail _ hbk), List.forall_mem_cons.mpr ⟨hk8 _ (.tail _ hpa), List.forall_mem_cons.mpr ⟨hk8 _ (.tail _ hPin.1), List.forall_mem_cons.mpr ⟨hk8 _ (.tail _ hnA), fun q hq => by simp at hq⟩⟩⟩⟩⟩)
    simp only [List.cons_append, List.nil_append] at N10
    (repeat' first | (fail "g19"; ((with_reducible show _ ≤ _ → _); intro hto; (try dsimp only at hto))) | ((with_reducible show TurnL1 ..); (refine stop_of ?_)) | (fail "g2"; k_dflt (refine' callWith_K ?m1 ?m2 ?_; (case m1 => k_asm); (case m2 => k_is); k_whole)) | fail "k1")
    unfold Stop
    refine' TurnL1.intro ?hF ?hm ?hN ?hI ?ha ?hJ
    case hF => k_asm
    case hm => (intro y hy; first | rfl | simp [hy])
    case hN => k_asm
    case hI => k_mem
    case ha => k_mem
    case hJ => (refine ⟨toldF ns Ps f pth r lg, hnext.symm, fun h => hg8 (hg4 h), ?_⟩; rw [hF]; refine WSt.filter (ax := pl) (j := i + 1) (zs := zs ++ flushL ys ++ [Str.ofString "<" ++ nodeS ns pth, Str.ofString ">"] ++ (r.1 ++ flushL (r.2 ++ [wsS pth.length]) ++ toldP ns Ps f lg)) ?u1 (by k_asm) hinc hIa hIt.1 hIt.2 hkI; (case u1 => (rw [← List.append_assoc, ← List.append_assoc]; refine WSt.mono S8 ?_; intro q hq; fail "my.mem")))
   ·unfold Stop
    have hF : toldF ns Ps f pth r lg = r := by unfold toldF; rw [if_neg (by assumption)]
    refine' TurnL1.intro ?hF ?hm ?hN ?hI ?ha ?hJ
    case hF => k_asm
    case hm => (intro y hy; first | rfl | simp [hy])
    case hN => k_asm
    case hI => k_mem
    case ha => k_mem
    case hJ => (refine ⟨toldF ns Ps f pth r lg, hnext.symm, hg4, ?_⟩; rw [hF]; refine WSt.filter (ax := pl) (j := i + 1) (WSt.keepMore (extra := [(I, oI)]) (WSt.mono S4 ?o1) ?o2 ?o3) (by k_asm) hinc hIa hIt.1 hIt.2 hkI; (case o1 => (intro q hq; fail "my.mem")); (case o2 => (intro q hq; rw [List.mem_singleton.mp hq]; k_mem)); (case o3 => exact apart_new hinc hIa))
  case done =>
   intro u nw h4 tk4 g4 pz2
   obtain ⟨r, hr, hg4, S4⟩ := pz2
   intro F4 N5
   have e1 : (as.map Value.ref).toArray.size = Ps.length := by rw [List.size_toArray, List.length_map, hPin.2.1]
   rw [e1, List.take_length] at hr
   have hpend : r.2 = [] ∨ r.2 = [textS (nodeN ns pth)] := by rw [hr]; exact fold_pend ns Ps f pth _ _ _ (.inr rfl)
   rw [toldP_succ, ← hr] at hz
   simp only [List.length_append, List.length_cons, List.length_nil] at hz
   have hyo : YsOk r.2 true := by
    have w2 := text_good (nodeN ns pth)
    rcases hpend with h | h
    ·exact .inl h
    ·rw [h]; exact ysok1 w2.1 (by omega)
   have hk4 := S4.kept
   obtain ⟨d5, w5, pn5, ps5, N6⟩ := S4.lits N5 [(pa, listOf vs.toArray kp), (pl, listOf (as.map Value.ref).toArray kl), (nA, listOf ws.toArray kn)]
    (List.forall_mem_cons.mpr ⟨hk4 _ hpa, List.forall_mem_cons.mpr ⟨hk4 _ hPin.1, List.forall_mem_cons.mpr ⟨hk4 _ hnA, fun q hq => by simp at hq⟩⟩⟩)
   simp only [List.cons_append, List.nil_append] at N6
   clear N5
   (repeat' first | (fail "g19"; ((with_reducible show _ ≤ _ → _); intro hto; (try dsimp only at hto))) | (fail "g0"; refine toks_cons ?_) | ((first | fail "g8" | fail "g9" | fail "g10" | fail "g11"); refine stop_of ?_) | (fail "g2"; k_dflt (refine' callWith_K ?m1 ?m2 ?_; (case m1 => k_asm); (case m2 => k_is); k_whole)) | fail "k1")
   unfold Stop
   k_dflt (refine' end_any rfl ?k1 ?k2 ?k3 ?k4 ?k5 ?k6 ?k7 x _ _ _ keep (zs ++ flushL ys ++ [Str.ofString "<" ++ nodeS ns pth, Str.ofString ">"] ++ r.1) r.2 es aNN nss pres (.ref eN) true hinc ?hx ?hb ?hes ?hN ?hS hyo ?ht ?hzs ?hnss ?hpres (fun h6 tk6 g6 news6 F6 N7 S6 hg6 => ?_); (case k1 | k2 | k3 | k4 | hN => k_asm); (case k5 => rfl); (case k6 => first | ktr_room | k_room); (case k7 => ktr_units))
   injections h6 tk6 g6 news6 F6 N7 S6 hg6
   case hx => exact Nat.le_trans (name_good _ _ hl6).1 (by decide)
   case hb => exact (name_good _ _ hl6).2.2
   case hes => omega
   case hS => (refine WSt.mono S4 ?_; intro q hq; fail "my.mem")
   case ht => first | omega | (dsimp only; omega) | (dsimp only at *; omega)
   case hzs => (simp only [List.length_append, List.length_cons, List.length_nil]; omega)
   case hnss => omega
   case hpres => omega
   have hS : WSt w.params x news6 keep (zs ++ flushL ys ++ toldP ns Ps (f + 1) pth) [] es nss pres true := by
    rw [toldP_succ, ← hr]
    have e2 : zs ++ flushL ys ++ ([Str.ofString "<" ++ nodeS ns pth, Str.ofString ">"] ++ r.1 ++ flushL r.2 ++ [endS (nodeS ns pth)]) = zs ++ flushL ys ++ [Str.ofString "<" ++ nodeS ns pth, Str.ofString ">"] ++ r.1 ++ flushL r.2 ++ [endS (nameS (lastI pth) (nodeN ns pth))] := by
     simp only [List.append_assoc]; rfl
    rw [e2]
    exact S6
   (repeat' first | (fail "g19"; ((with_reducible show _ ≤ _ → _); intro hto; (try dsimp only at hto))) | (fail "g2"; k_dflt (refine' callWith_K ?m1 ?m2 ?_; (case m1 => k_asm); (case m2 => k_is); k_whole)) | fail "k1")
   exact hret _ _ _ _ (by k_asm) (by k_asm) hS fun h => hg6 (hg4 h)
 fail "mk.b"
theorem told_spec (x : WA) (pl nA : Addr) (as : List Addr) (Ps : List (List Int)) (ns : List Int) (kl kn : Nat) (base : Heap) (w : World) (hCd : CodeHd base 125 x.PT) (hinc : x.IncW) (hPs : PsOk Ps) (hNs : NsOk ns) (hsm0 : @LT.lt Nat _ sysModules x.aPres) : ∀ f, ToldSpec w base x pl nA as Ps ns kl kn f
 | 0 => by
  intros p loose mean mg mb dp un gd cn cs a ccd cl outer A₀ h₀ L m s Q E hfill B F X T hk hd hu pa pth j news keep zs ys es nss pres seen haj hpj hlast
  have := hPs.last (List.mem_of_getElem? hpj)
  exact absurd hlast (no6 this.2)
 | f + 1 => told_step x pl nA as Ps ns kl kn f base w hCd hinc hPs hNs hsm0 (told_spec x pl nA as Ps ns kl kn base w hCd hinc hPs hNs hsm0 f)
end
section
def TurnW (h₀ : Heap) (L : Addr) (x : Str) (m₀ : Str → Option Value) (J : Nat → List (Addr × Obj) → Array GenState → Prop) (I : Addr) (oI : Obj) (i : Nat) (s₁ : Shared) (f : Flow) (s₂ : Shared) : Prop :=
 ∃ h' tk' g' m' news', f = .next ∧ s₂ = { s₁ with heap := h', toks := tk', gens := g' } ∧ Fr h₀ L h' m' ∧ (∀ y, y ≠ x → m' y = m₀ y) ∧ News h₀ L h' news' ∧ (I, oI) ∈ news' ∧ J (i + 1) (news'.filter fun q => q.1 != I) g'
theorem TurnW.intro {h₀ : Heap} {L : Addr} {x : Str} {m₀ : Str → Option Value} {J : Nat → List (Addr × Obj) → Array GenState → Prop} {I : Addr} {oI : Obj} {i : Nat} {s₁ : Shared} {h' : Heap} {tk' : Nat} {g' : Array GenState} {m' : Str → Option Value} {news' : List (Addr × Obj)}
 (F : Fr h₀ L h' m') (hm : ∀ y, y ≠ x → m' y = m₀ y) (N : News h₀ L h' news') (hI : (I, oI) ∈ news') (hJ : J (i + 1) (news'.filter fun q => q.1 != I) g') :
 TurnW h₀ L x m₀ J I oI i s₁ .next { s₁ with heap := h', toks := tk', gens := g' } := ⟨h', tk', g', m', news', rfl, rfl, F, hm, N, hI, hJ⟩
theorem for_walk_iter {w : World} {A : Around} {E : Value → Shared → Prop} {s₂ : Shared} {h₀ : Heap} {env : Env} {x : Str} {px : Pos} {body : List Stmt} {Q : Flow → Shared → Prop} {I : Addr} {n : Nat} {P : Nat → Value → Prop} {St : Nat → Heap → Prop} {m₀ : Str → Option Value} {news : List (Addr × Obj)}
   (W : Walks Challenge.rw_to0089_01.prog w A I [I] [I] n P St) (hSto : ∀ i h, St i h → ∃ o, h.get? I = some o) (J : Nat → List (Addr × Obj) → Array GenState → Prop) (hx : env.kindOf x = some .local) (hp : (env.scope.kind == .class || (env.scope.kind == .module && env.locals != env.globals)) = false)
   (hLI : env.locals ≠ I) (h₀n : h₀.get? I = none) (hst : St 0 s₂.heap) (F : Fr h₀ env.locals s₂.heap m₀) (N : News h₀ env.locals s₂.heap news) (off : ∀ q ∈ news, q.1 ≠ I) (hJ0 : J 0 news s₂.gens)
   (turn : ∀ oI i v news₁ h tk g, i < n → P i v → (∀ q ∈ news₁, q.1 ≠ I) → J i news₁ g → Fr h₀ env.locals h (fun y => if y = x then some v else m₀ y) → News h₀ env.locals h ((I, oI) :: news₁) →
     wpAny (model Challenge.rw_to0089_01.prog w) A (execs body env) (TurnW h₀ env.locals x m₀ J I oI i s₂) E { s₂ with heap := h, toks := tk, gens := g })
   (done : ∀ (u : Str → Option Value) news₁ h tk g, J n news₁ g → Fr h₀ env.locals h (fun y => if y = x then u y else m₀ y) → News h₀ env.locals h news₁ → Q .next { s₂ with heap := h, toks := tk, gens := g })
   (hE : PassesOwn (model Challenge.rw_to0089_01.prog w) A env E) :
   codeAny (model Challenge.rw_to0089_01.prog w) A (.forLoop (.Name x px) (.ref I) body [] env) (fun r s' => match r with | .ok f => Q f s' | .error e => cameBackBy (model Challenge.rw_to0089_01.prog w) A env E e s') s₂ := by
 fail "mk.a"
 case zl =>
  revert W hSto hx hp hLI h₀n hst F N off hJ0 turn done hE
  revert w A E s₂ h₀ env x px body Q I n P St m₀ news J
  intro w A E s₂ h₀ env x px body Q I n P St m₀ news J W hSto hx hp hLI h₀n hst F N off hJ0 turn done hE
  have fr : ∀ {h : Heap} {m' : Str → Option Value}, (∀ y, y ≠ x → m' y = m₀ y) → Fr h₀ env.locals h m' → Fr h₀ env.locals h (fun y => if y = x then m' y else m₀ y) := by
    intro h m' hm F
    have e : (fun y => if y = x then m' y else m₀ y) = m' := by
      funext y
      by_cases h1 : y = x
      ·simp [h1]
      ·simp only [if_neg h1]; exact (hm y h1).symm
    rw [e]; exact F
  refine codeAny_forLoop
    (fun k s' => ∃ h' tk g m' news' i, s' = { s₂ with heap := h', toks := tk, gens := g } ∧ St i h' ∧ Fr h₀ env.locals h' m' ∧ (∀ y, y ≠ x → m' y = m₀ y) ∧ News h₀ env.locals h' news' ∧ (∀ q ∈ news', q.1 ≠ I) ∧ J i news' g ∧ i ≤ n ∧ k = n + 1 - i) ?_ (n + 1)
    ⟨s₂.heap, s₂.toks, s₂.gens, m₀, news, 0, rfl, hst, F, fun _ _ => rfl, N, off, hJ0, Nat.zero_le _, rfl⟩
  intro k s' pz1
  obtain ⟨h', tk, g, m', news', i, pz2⟩ := pz1
  rcases pz2 with ⟨rfl, pz3⟩
  obtain ⟨hst', F', hm', N', off', hJ, hi, pz4⟩ := pz3
  rcases pz4 with rfl
  have next : ∀ h₁ : Heap, (∀ b o, b ∉ [I] → h'.get? b = some o → h₁.get? b = some o) → Fr h₀ env.locals h₁ m' ∧ News h₀ env.locals h₁ news' := fun h₁ hk₁ =>
    ⟨⟨F'.ns.at' fun o e => hk₁ _ o (by simpa using hLI) e, fun b o e => hk₁ b o (by simp only [List.mem_singleton]; intro q; rw [q, h₀n] at e; cases e) (F'.keep b o e), F'.above⟩, fun p hp => ⟨hk₁ _ _ (by simpa using off' p hp) (N' p hp).1, (N' p hp).2⟩⟩
  by_cases hlt : i < n
  · refine W.item i _ _ _ hlt hst' fun v h₁ tk₁ hP hst₁ hk₁ => ?_
    injections v h₁ tk₁ hP hst₁ hk₁
    obtain ⟨F₁, N₁⟩ := next h₁ hk₁
    refine wpAny_assign_Name (wpAny_storeName_local hx F₁.ns (fun h₂ hn₂ hs₂ => ?_) hp)
    injections h₂ hn₂ hs₂
    have F₂ := F₁.set hn₂ hs₂
    have N₂ := N₁.set hs₂
    have e : (fun y => if y = x then some v else m' y) = fun y => if y = x then some v else m₀ y := by
      funext y
      by_cases h1 : y = x
      ·simp [h1]
      ·simp only [if_neg h1]; exact hm' y h1
    rw [e] at F₂
    obtain ⟨oI, hoI⟩ := hSto _ _ hst₁
    have hoI₂ : h₂.get? I = some oI := (hs₂.2 I (Ne.symm hLI)).trans hoI
    refine wpAny_mono (wpAny_passesOwn hE (turn oI i v news' h₂ (tk₁ + 1) g hlt hP off' hJ F₂ fun q hq => ?_)) (fun f s₃ h₃ => ?_) fun _ _ e => e
    injections q hq
    injections f s₃ h₃
    · rcases List.mem_cons.mp hq with rfl | hq
      ·exact ⟨hoI₂, Ne.symm hLI, h₀n⟩
      ·exact N₂ q hq
    · obtain ⟨h₃', tk₃, g₃, m₃, news₃, pz6⟩ := h₃
      rcases pz6 with ⟨rfl, pz7⟩
      rcases pz7 with ⟨rfl, pz8⟩
      obtain ⟨F₃, hm₃, N₃, hI₃, hJ₃⟩ := pz8
      have hn := N₃ _ hI₃
      refine ⟨n + 1 - (i + 1), by omega, h₃', tk₃, g₃, m₃, news₃.filter fun q => q.1 != I, i + 1, rfl, W.frame _ _ _ hst₁ (fun b hb o e => ?_), F₃, hm₃, fun q hq => N₃ q (List.mem_filter.mp hq).1, fun q hq => by simpa using (List.mem_filter.mp hq).2, hJ₃, hlt, rfl⟩
      injections b hb o e
      rw [List.mem_singleton.mp hb] at e ⊢
      rw [hoI] at e
      rw [← e]; exact hn.1
  · have hin : i = n := by omega
    subst hin
    refine W.done _ _ _ hst' fun h₁ tk₁ hk₁ => wpAny_execs_nil ?_
    obtain ⟨F₁, N₁⟩ := next h₁ hk₁
    exact done m' news' h₁ tk₁ g hJ (fr hm' F₁) N₁
 fail "mk.b"
inductive ForR (w : World) (A : Around) (h₀ : Heap) (env : Env) (x : Str) (body : List Stmt) (Q : Flow → Shared → Prop) (E : Value → Shared → Prop) (a : Int) (n : Nat) (J : Nat → List (Addr × Obj) → Array GenState → Prop) (xv : Value) (s₁ : Shared) : Prop
 | mk (r : PySem.Addr) (b : Int) (t : PySem.Tok) (u : PySem.Tok) (v : PySem.Tok) (m₀ : PySem.Str → Option PySem.Value) (news : List (PySem.Addr × PySem.Obj)) (h : xv = .ref r ∧ Fr h₀ env.locals s₁.heap m₀ ∧ News h₀ env.locals s₁.heap news ∧ IsRange s₁.heap r a b 1 t u v ∧ Builtin.Range.small a b 1 = true ∧ Builtin.Range.rangeSize a b 1 = (n : Int) ∧ J 0 news s₁.gens ∧
  (∀ I oI i t news₁ h tk g, i < n → (∀ q ∈ news, q.1 < I) → (∀ q ∈ news₁, q.1 ≠ I) → J i news₁ g → Fr h₀ env.locals h (fun y => if y = x then some (.int (a + (i : Nat)) t) else m₀ y) → News h₀ env.locals h ((I, oI) :: news₁) →
   wpAny (model Challenge.rw_to0089_01.prog w) A (execs body env) (TurnW h₀ env.locals x m₀ J I oI i s₁) E { s₁ with heap := h, toks := tk, gens := g }) ∧
  (∀ (u : Str → Option Value) news₁ h tk g, J n news₁ g → Fr h₀ env.locals h (fun y => if y = x then u y else m₀ y) → News h₀ env.locals h news₁ → Q .next { s₁ with heap := h, toks := tk, gens := g })) : ForR w A h₀ env x body Q E a n J xv s₁
theorem for_range1 {w : World} {A : Around} {E : Value → Shared → Prop} {s : Shared} {h₀ : Heap} {env : Env} {x : Str} {px : Pos} {iter : PySem.Expr} {body : List Stmt} {pos : Pos} {Q : Flow → Shared → Prop} {mF : Str → Option Value} (_F₀ : Fr h₀ env.locals s.heap mF)
   (a : Int) (n : Nat) (J : Nat → List (Addr × Obj) → Array GenState → Prop) (hx : env.kindOf x = some .local) (hp : (env.scope.kind == .class || (env.scope.kind == .module && env.locals != env.globals)) = false) (hh : A.handled = none)
   (h : wpAny (model Challenge.rw_to0089_01.prog w) A (eval iter env) (ForR w A h₀ env x body Q E a n J) E s)
   (hs : ∀ x, foldedSetIterable iter env x = pure x := by intros _; rfl)
   (hE : PassesOwn (model Challenge.rw_to0089_01.prog w) A env E := by passes_own) :
   wpAny (model Challenge.rw_to0089_01.prog w) A (exec (.For (.Name x px) iter body [] pos) env) Q E s := by
 fail "mk.a"
 case zl =>
  revert _F₀ hx hp hh h hs hE
  revert w A E s h₀ env x px iter body pos Q mF a n J
  intro w A E s h₀ env x px iter body pos Q mF a n J _F₀ hx hp hh h hs hE
  refine wpAny_For (wpAny_mono h (fun xv s₁ h₁ => ?_) fun _ _ e => e) hs
  injections xv s₁ h₁
  obtain ⟨r, b, t, u, v, m₀, news, pz10⟩ := h₁
  rcases pz10 with ⟨rfl, pz11⟩
  obtain ⟨F, N, hr, hsm, hn, hJ0, turn, done⟩ := pz11
  refine wpAny_pyIter_range hr hsm ?_
  have h₀n : h₀.get? s₁.heap.objs.size = none := by
    cases e : h₀.get? s₁.heap.objs.size with
    | none => rfl
    | some o => exact absurd (Heap.lt_size (F.keep _ o e)) (Nat.lt_irrefl _)
  refine for_walk_iter (s₂ := { s₁ with heap := s₁.heap.push _ }) (Walks.range hh s₁.heap.objs.size a 1 n) (fun i h st => ⟨_, st⟩) J hx hp (Nat.ne_of_lt F.ns.lt) h₀n (by show IsRangeIter _ _ _ _ _; rw [hn]; simpa using Heap.get?_push_size _ rfl) (F.push _) (News.pushKeep N _) (fun q hq => Nat.ne_of_lt (Heap.lt_size (N q hq).1)) hJ0 ?_ done hE
  intro oI i v news₁ h tk g hi hP off hJ F1 N1
  obtain ⟨t, pz13⟩ := hP
  rcases pz13 with rfl
  have e : a + (i : Int) * 1 = a + (i : Nat) := by omega
  rw [e] at F1
  exact turn _ oI i t news₁ h tk g hi (fun q hq => Heap.lt_size (N q hq).1) off hJ F1 N1
 fail "mk.b"
theorem ForR.intro {w : World} {A : Around} {h₀ : Heap} {env : Env} {x : Str} {body : List Stmt} {Q : Flow → Shared → Prop} {E : Value → Shared → Prop} {a : Int} {n : Nat} {J : Nat → List (Addr × Obj) → Array GenState → Prop} {s₁ : Shared} {r : Addr} {b : Int} {t u v : Tok} {m₀ : Str → Option Value} {news : List (Addr × Obj)}
 (F : Fr h₀ env.locals s₁.heap m₀) (N : News h₀ env.locals s₁.heap news) (hr : IsRange s₁.heap r a b 1 t u v) (hsm : Builtin.Range.small a b 1 = true) (hn : Builtin.Range.rangeSize a b 1 = (n : Int)) (hJ : J 0 news s₁.gens)
 (turn : ∀ I oI i t news₁ h tk g, i < n → (∀ q ∈ news, q.1 < I) → (∀ q ∈ news₁, q.1 ≠ I) → J i news₁ g → Fr h₀ env.locals h (fun y => if y = x then some (.int (a + (i : Nat)) t) else m₀ y) → News h₀ env.locals h ((I, oI) :: news₁) →
  wpAny (model Challenge.rw_to0089_01.prog w) A (execs body env) (TurnW h₀ env.locals x m₀ J I oI i s₁) E { s₁ with heap := h, toks := tk, gens := g })
 (done : ∀ (u : Str → Option Value) news₁ h tk g, J n news₁ g → Fr h₀ env.locals h (fun y => if y = x then u y else m₀ y) → News h₀ env.locals h news₁ → Q .next { s₁ with heap := h, toks := tk, gens := g }) :
 ForR w A h₀ env x body Q E a n J (.ref r) s₁ := ⟨r, b, t, u, v, m₀, news, rfl, F, N, hr, hsm, hn, hJ, turn, done⟩
end
section
theorem pick_from (l : List Value) (n : Nat) : kms_pick l (some (n : Int)) none = l.drop n := by
 unfold kms_pick kms_lo kms_hi
 dsimp only
 rw [if_neg (by omega)]
 simp only [Int.toNat_natCast]
 by_cases h : n ≤ l.length
 ·rw [Nat.min_eq_left h]; exact List.take_of_length_le (by rw [List.length_drop]; exact Nat.le_refl _)
 ·have e1 : l.drop n = [] := List.drop_of_length_le (by omega)
  rw [Nat.min_eq_right (by omega), e1]; simp
theorem ints_drop_n {vs : List Value} {ns : List Int} (h : IntsAre vs ns) : ∀ n, IntsAre (vs.drop n) (ns.drop n) := by
 induction h with
 | nil => intros n; simpa using IntsAre.nil
 | cons k t h ih =>
  intros n
  cases n with
  | zero => exact .cons k t h
  | succ n => exact ih n
theorem slice_from {prog : Program} {w : World} {A : Around} {E : Value → Shared → Prop} {s : Shared} {h₀ : Heap} {L l : Addr} {m : Str → Option Value} {news : List (Addr × Obj)} {value slice : PySem.Expr} {vs : List Value} {vl vu : Value} {n : Nat} {ns : List Int} {Q : Value → Shared → Prop}
  (F : Fr h₀ L s.heap m) (N : News h₀ L s.heap news) (hl : s.heap.IsList l vs.toArray) (pl : IsPart vl (some (n : Int))) (pu : IsPart vu none) (hi : IntsAre vs ns)
  (h : ∀ D h', Fr h₀ L h' m → News h₀ L h' ((D, listOf (vs.drop n).toArray 0) :: news) → (∀ p ∈ news, p.1 < D) → IntsAre (vs.drop n) (ns.drop n) → Q (.ref D) { s with heap := h' })
  (hs : subscripted slice false (.ref l) (.ref s.heap.objs.size) = operate [.ref s.heap.objs.size, .ref l] (getItem (.ref l) (.ref s.heap.objs.size))) (ht : ∀ r, letTemporaryGo value (.ref l) r = pure ()) (hz : vs.toArray.size ≤ sizeLine) :
  wpAny (model prog w) A (subscriptTail value slice (.ref l) (.ref s.heap.objs.size)) Q E { s with heap := s.heap.push { cls := .type "slice", data := .fields #[vl, vu, .none] } } :=
 kms_slice_lit F N hl pl pu (pick_from _ n) (fun D h' F' N' l1 => h D h' F' N' l1 (ints_drop_n hi n)) hs ht hz
noncomputable def dfltN : List Int := [960, 1500, 2341, 601, 2160, 1024]
noncomputable def numsOf (ns : List Int) : List Int := (ns.take 6).map (fun k => k.fmod 1000000) ++ dfltN.drop (min 6 ns.length)
theorem numbers_spec (hfill : PR = PR) (B : Below A₀ base outer h₀) (F : Fr h₀ L s.heap m) (X : (K0.heap_1 w.params).In h₀) (T : Top p loose mean mg mb h₀) (hk : cs.kind = .function) (hd : dp + 6 < recursionLimit) (hu : un + 60 < cLine)
   (sc : Addr) (vs : List Value) (ns : List Int) (news : List (Addr × Obj)) (hl : base.IsList sc vs.toArray) (hi : IntsAre vs ns) (hn : ns.length ≤ 63) (N : News h₀ L s.heap news)
   (hret : ∀ R h' tk' us c, Fr h₀ L h' m → News h₀ L h' ((R, listOf (List.toArray us) c) :: news) → IntsAre us (numsOf ns) → Q (.ref R) { s with heap := h', toks := tk' })
   :
   wpAny (model Challenge.rw_to0089_01.prog w) (ktrTop dp un gd cn cs L a ccd cl outer) (call (.ref 305) [.ref sc]) Q E s := by
 fail "mk.a"
 case zl =>
  revert hfill B F X T hk hd hu hl hi hn N hret
  revert w p loose mean mg mb dp un gd cn cs a ccd cl outer A₀ base h₀ L m s Q E sc vs ns news
  intro w p loose mean mg mb dp un gd cn cs a ccd cl outer A₀ base h₀ L m s Q E sc vs ns news hfill B F X T hk hd hu hl hi hn N hret
  revert X; k_fill; intro X; refine wpAny_call ?_; first | k_dflt (fail "my.enter") | fail
  (repeat' first | ((with_reducible show wpAny _ _ (subscriptTail _ _ _ _) _ _ _); k_dflt (refine' kmk_slice_ints ?F ?N ?l ?p ?q ?i ?m ?c ?_ ?s ?t ?z; (case F | N => k_asm); (case l => kmk_list); (case p | q => kmk_part); (case i => l_ints); (case m => kmk_nums); (case c => kmk_len); (case s => with_unfolding_all rfl); (case t => kmk_pure); (case z => kmk_size); intro D' ws' h' F' N' l1 hI' hC' hL'); (try simp only [Int.reduceNeg, Int.neg_neg, Int.reduceToNat] at hI' hC' hL'); (try k_lt l1)) | ((with_reducible show LCg.CompSrc ..); (refine stop_of ?_)) | (fail "g12"; k_dflt (refine LCg.Assign_ListComp_U (F₀ := by k_asm) (by rfl) (by with_unfolding_all rfl) (by rfl) (by decide) (by rfl) (by decide) (by rfl) (by rfl) (by rfl) ?_)) | fail "k1")
  unfold Stop
  k_dflt (refine' comp_map (fun i ys => IntsAre ys (((ns.take 6).take i).map fun k => k.fmod 1000000)) rfl ?F ?N ?m ?z IntsAre.nil ?step ?fin)
  case F => k_asm
  case N => k_asm
  case m => k_mem
  case z => (have hzz := IntsAre.length (by assumption : IntsAre _ (ns.take 6)); rw [hzz, List.length_take]; omega)
  case step =>
    intro i ys v I oI C oC D m₂ h tk E' hv hR hoC hx F4 N4 off ne
    have pz1 := ints_at (by assumption) hv
    obtain ⟨k, t, pz2⟩ := pz1
    rcases pz2 with ⟨rfl, pz3⟩
    have hk := pz3
    clear pz3
    fail "g20"
    unfold Stop
    refine MapEnd.intro (by k_asm) (news_sub (by k_asm) (by fail "my.subs")) ?_
    rw [take_map_snoc _ _ _ _ hk]
    exact ints_snoc hR _ _
  case fin =>
    intro g ys hR
    have hzz := IntsAre.length (by assumption : IntsAre _ (ns.take 6))
    rw [hzz, List.take_length] at hR
    have hy6 : ys.length ≤ 6 := by rw [hR.length, List.length_map, List.length_take]; omega
    clear hzz
    unfold LCg.FinA
    intro D h tk F4 N4 o1
    (repeat' first | ((with_reducible show wpAny _ _ (subscriptTail _ (PySem.Expr.Slice (some _) none none _) (Value.ref _) (Value.ref _)) _ _ _); k_dflt (refine' slice_from ?F ?N ?l ?p ?q ?i ?_ ?s ?t ?z; (case F | N => k_asm); (case l => is_list); (case p | q => kmk_part); (case i => exact .cons _ _ (.cons _ _ (.cons _ _ (.cons _ _ (.cons _ _ (.cons _ _ .nil)))))); (case s => with_unfolding_all rfl); (case t => kmk_pure); (case z => ((simp only [List.size_toArray, List.length_cons, List.length_nil, PySem.sizeLine_eq]); omega)); intro D' h' F' N' l1 hI'); (try k_lt l1)) | fail "k1")
    refine hret _ _ _ _ 0 (by k_asm) (news_sub (by k_asm) (by fail "my.subs")) ?_
    have hI := (by assumption : IntsAre _ (_ ++ List.drop _ _))
    unfold numsOf
    first
     | (rw [show min 6 ns.length = ys.length by rw [hR.length, List.length_map, List.length_take]]; exact hI)
     | (rw [show min 6 ns.length = ((ns.take 6).map fun k => k.fmod 1000000).length by rw [List.length_map, List.length_take]]; exact hI)
 fail "mk.b"
end
section
noncomputable def pathStep (ns : List Int) (Ps : List (List Int)) (place : Nat) : List (List Int) := Ps ++ [Ps.getD ((ns.getD place 0).fmod (place : Int)).toNat [] ++ [(place : Int)]]
noncomputable def pathsTo (ns : List Int) : Nat → List (List Int)
 | 0 => [[0]]
 | n + 1 => pathStep ns (pathsTo ns n) (n + 1)
theorem pathsTo_len (ns : List Int) : ∀ n, (pathsTo ns n).length = n + 1
 | 0 => rfl
 | n + 1 => by unfold pathsTo pathStep; rw [List.length_append, pathsTo_len ns n]; rfl
theorem pathsTo_ok (ns : List Int) : ∀ n, ∀ p ∈ pathsTo ns n, p ≠ [] ∧ p.length ≤ n + 1 ∧ p.Pairwise (· < ·) ∧ ∀ x ∈ p, 0 ≤ x ∧ x ≤ (n : Int)
 | 0, p, hp => by
  have : p = [0] := by simpa [pathsTo] using hp
  subst this
  exact ⟨by simp, by simp, by simp, by simp⟩
 | n + 1, p, hp => by
  unfold pathsTo pathStep at hp
  rcases List.mem_append.mp hp with hp | hp
  ·rcases pathsTo_ok ns n p hp with ⟨h1, h2, h3, h4⟩
   exact ⟨h1, by omega, h3, fun x hx => by have := h4 x hx; omega⟩
  ·rw [List.mem_singleton.mp hp]
   generalize ((ns.getD (n + 1) 0).fmod ((n + 1 : Nat) : Int)).toNat = k
   have hq : (pathsTo ns n).getD k [] = [] ∨ (pathsTo ns n).getD k [] ∈ pathsTo ns n := by
    rw [List.getD_eq_getElem?_getD]
    cases e : (pathsTo ns n)[k]? with
    | none => exact .inl rfl
    | some q => exact .inr (List.mem_of_getElem? e)
   rcases hq with hq | hq
   ·rw [hq]
    refine ⟨by simp, by simp, by simp, fun x hx => ?_⟩
    simp only [List.nil_append, List.mem_singleton] at hx
    omega
   ·rcases pathsTo_ok ns n _ hq with ⟨h1, h2, h3, h4⟩
    refine ⟨by simp, by rw [List.length_append, List.length_cons, List.length_nil]; omega, List.pairwise_append.mpr ⟨h3, by simp, fun x hx y hy => ?_⟩, fun x hx => ?_⟩
    ·have := h4 x hx
     rw [List.mem_singleton.mp hy]
     omega
    ·rcases List.mem_append.mp hx with hx | hx
     ·have := h4 x hx; omega
     ·rw [List.mem_singleton.mp hx]; omega
theorem pathsTo_psok (ns : List Int) : PsOk (pathsTo ns 5) := ⟨pathsTo_len ns 5, fun p hp => by
 rcases pathsTo_ok ns 5 p hp with ⟨h1, h2, h3, h4⟩
 exact ⟨h1, h2, h3, fun x hx => by have := h4 x hx; omega⟩⟩
theorem two_heads {h₀ h : Heap} {L a b : Addr} {o o' : Obj} {l : List (Addr × Obj)} (_N : News h₀ L h ((a, o) :: (b, o') :: l)) : ∃ x y, x = a ∧ y = b := ⟨a, b, rfl, rfl⟩
theorem ints_name {us : List Value} {l : List Int} (_h : IntsAre us l) : ∃ u, u = us := ⟨us, rfl⟩
def PathsAt (nw : List (Addr × Obj)) (pl : Addr) (Ps : List (List Int)) : Prop :=
 ∃ (as : List Addr) (kl : Nat), (pl, listOf (as.map Value.ref).toArray kl) ∈ nw ∧ as.length = Ps.length ∧ ∀ (j : Nat) (a : Addr) (p : List Int), as[j]? = some a → Ps[j]? = some p → ∃ vs n, (a, listOf vs.toArray n) ∈ nw ∧ IntsAre vs p ∧ a ≠ pl
local macro_rules | `(tactic| walk_at "last subscriptTail") => dy "w7" #[]
theorem allLt_mem {d : Addr} : ∀ {l : List (Addr × Obj)}, AllLt d l → ∀ p ∈ l, p.1 < d
 | [], _, p, hp => by simp at hp
 | q :: l, h, p, hp => by
  rcases List.mem_cons.mp hp with rfl | hp
  ·exact h.1
  ·exact allLt_mem h.2 p hp
theorem paths_spec (hfill : PR = PR) (B : Below A₀ base outer h₀) (F : Fr h₀ L s.heap m) (X : (K0.heap_1 w.params).In h₀) (T : Top p loose mean mg mb h₀) (hk : cs.kind = .function) (hd : dp + 6 < recursionLimit) (hu : un + 60 < cLine)
   (nA : Addr) (ws : List Value) (ns : List Int) (kn : Nat) (news : List (Addr × Obj)) (hi : IntsAre ws ns) (hNs : NsOk ns) (hnA : (nA, listOf ws.toArray kn) ∈ news) (N : News h₀ L s.heap news)
   (hret : ∀ pl h' tk' nw, Fr h₀ L h' m → News h₀ L h' nw → (∀ q ∈ news, q ∈ nw) → PathsAt nw pl (pathsTo ns 5) → Q (.ref pl) { s with heap := h', toks := tk' })
   :
   wpAny (model Challenge.rw_to0089_01.prog w) (ktrTop dp un gd cn cs L a ccd cl outer) (call (.ref 312) [.ref nA]) Q E s := by
 fail "mk.a"
 case zl =>
  revert hfill B F X T hk hd hu hi hNs hnA N hret
  revert w p loose mean mg mb dp un gd cn cs a ccd cl outer A₀ base h₀ L m s Q E nA ws ns kn news
  intro w p loose mean mg mb dp un gd cn cs a ccd cl outer A₀ base h₀ L m s Q E nA ws ns kn news hfill B F X T hk hd hu hi hNs hnA N hret
  have N0 : News h₀ L s.heap ((nA, listOf ws.toArray kn) :: news) := news_sub N (List.forall_mem_cons.mpr ⟨hnA, fun q hq => hq⟩)
  clear N
  revert X; k_fill; intro X; refine wpAny_call ?_; first | k_dflt (fail "my.enter") | fail
  (repeat' first | (fail "g16"; refine stop_of ?_) | fail "k1")
  unfold Stop
  rename News _ _ _ _ => N1
  obtain ⟨pl, p0, e1, e2⟩ := two_heads N1
  subst e1 e2
  have hl : (@LT.lt Nat _ p0 pl) ∧ (@LT.lt Nat _ nA pl) ∧ AllLt pl news := by assumption
  have hpn : ∀ q ∈ news, q.1 ≠ pl := fun q hq => Nat.ne_of_lt (allLt_mem hl.2.2 q hq)
  k_dflt (refine for_range1 (by k_asm) 1 5 (fun i nw g => g = s.gens ∧ (∀ q ∈ (nA, listOf ws.toArray kn) :: news, q ∈ nw) ∧ PathsAt nw pl (pathsTo ns i)) rfl rfl rfl ?_)
  (repeat' first | ((with_reducible show ForR ..); (refine stop_of ?_)) | fail "k1")
  unfold Stop
  k_dflt (refine' ForR.intro ?F ?N ?r ?sm ?n ?J ?turn ?done)
  case F => k_asm
  case N => k_asm
  case r => assumption
  case sm => rfl
  case n => rfl
  case J =>
    refine ⟨rfl, fun q hq => ?_, [p0], 0, ?_, rfl, fun j a p h1 h2 => ?_⟩
    injections q hq
    injections j a p h1 h2
    ·fail "my.mem"
    ·exact .head _
    ·cases j with
     | zero =>
      have h2' : some [(0 : Int)] = some p := h2
      cases h1
      cases h2'
      exact ⟨[.int 0 _], 0, .tail _ (.head _), .cons 0 _ .nil, Nat.ne_of_lt hl.1⟩
     | succ j => simp at h1
  case turn =>
    intro I oI i t nw h4 tk4 g4 hi5 hI1 hI2 pz1
    rcases pz1 with ⟨rfl, pz2⟩
    obtain ⟨hkeep, as, kl, hpl, hlen, hel⟩ := pz2
    intro F4 N4
    have hlast : (pathsTo ns i).length = i + 1 := pathsTo_len ns i
    have hnl : 1 + i < ns.length := by rw [hNs.len]; omega
    have hnk : ns[1 + i]? = some (ns.getD (i + 1) 0) := by rw [Nat.add_comm 1 i] at hnl ⊢; rw [List.getD_eq_getElem?_getD, List.getElem?_eq_getElem hnl]; rfl
    obtain ⟨tn, hwn⟩ := hi.get _ _ hnk
    have hwn' : ws.toArray[((1 : Int) + (i : Nat)).toNat]? = some (.int (ns.getD (i + 1) 0) tn) := by
     rw [show ((1 : Int) + (i : Nat)).toNat = 1 + i by omega, List.getElem?_toArray]; exact hwn
    have hfm := fm (ns.getD ((1 : Int) + (i : Nat)).toNat 0) (m := (1 : Int) + (i : Nat)) (by omega)
    have hix : ((ns.getD ((1 : Int) + (i : Nat)).toNat 0).fmod ((1 : Int) + (i : Nat))).toNat < as.length := by rw [hlen, hlast]; exact ar_tn hfm
    obtain ⟨b, hb⟩ : ∃ b, as[((ns.getD ((1 : Int) + (i : Nat)).toNat 0).fmod ((1 : Int) + (i : Nat))).toNat]? = some b := ⟨_, List.getElem?_eq_getElem hix⟩
    obtain ⟨pp, hpp⟩ : ∃ pp, (pathsTo ns i)[((ns.getD ((1 : Int) + (i : Nat)).toNat 0).fmod ((1 : Int) + (i : Nat))).toNat]? = some pp := ⟨_, List.getElem?_eq_getElem (by rw [← hlen]; exact hix)⟩
    obtain ⟨vb, nb, hbm, hbv, hbp⟩ := hel _ _ _ hb hpp
    have hb' : (as.map Value.ref).toArray[((ns.getD ((1 : Int) + (i : Nat)).toNat 0).fmod ((1 : Int) + (i : Nat))).toNat]? = some (.ref b) := by
     rw [List.getElem?_toArray, List.getElem?_map, hb]; rfl
    have hIp : @LT.lt Nat _ pl I := hI1 (pl, _) (.head _)
    have hIn : @LT.lt Nat _ nA I := hI1 (nA, _) (by k_mem)
    have hnp : (nA : Nat) ≠ pl := Nat.ne_of_lt hl.2.1
    have hfil : ∀ q ∈ nw.filter (fun q => q.1 != pl), q.1 ≠ pl := fun q hq => by simpa using (List.mem_filter.mp hq).2
    have N5 : News _ _ h4 ((pl, listOf (as.map Value.ref).toArray kl) :: (I, oI) :: (nA, listOf ws.toArray kn) :: (b, listOf vb.toArray nb) :: nw.filter (fun q => q.1 != pl)) := news_sub N4 (List.forall_mem_cons.mpr ⟨.tail _ hpl, List.forall_mem_cons.mpr ⟨.head _, List.forall_mem_cons.mpr ⟨.tail _ (hkeep _ (.head _)), List.forall_mem_cons.mpr ⟨.tail _ hbm, fun q hq => .tail _ (List.mem_filter.mp hq).1⟩⟩⟩⟩)
    have hsz : as.length ≤ 6 := by omega
    have hp6 : pp.length ≤ 10 := by have := (pathsTo_ok ns i pp (List.mem_of_getElem? hpp)).2.1; omega
    clear N4
    (repeat' first | ((with_reducible show wpAny _ _ (binaryOp .Add (Value.ref _) (Value.ref _)) _ _ _); k_dflt (refine' kmk_add_ints ?F ?N ?a ?b ?i ?j ?_ ?z; (case F | N => k_asm); (case a | b => is_list); (case i => assumption); (case j => exact .cons _ _ .nil); (case z => ((simp only [List.length_cons, List.length_nil, PySem.sizeLine_eq]); omega)); intro D' us' h' F' N' l1 hI'); (try k_lt l1)) | ((with_reducible show TurnW ..); (refine stop_of ?_)) | fail "k1")
    unfold Stop
    rename News _ _ _ _ => N6
    rename IntsAre _ (pp ++ _) => hus
    obtain ⟨D, l2, q1, q2⟩ := two_heads N6
    subst q1 q2
    obtain ⟨us9, e9⟩ := ints_name hus
    subst e9
    have hDl : (@LT.lt Nat _ l2 D) ∧ (@LT.lt Nat _ pl D) ∧ (@LT.lt Nat _ I D) ∧ (@LT.lt Nat _ nA D) ∧ (@LT.lt Nat _ b D) ∧ AllLt D (nw.filter (fun q => q.1 != pl)) := by assumption
    refine' TurnW.intro ?hF ?hm N6 ?hI ?hJ
    case hF => k_asm
    case hm => (intro y hy; first | rfl | simp [hy])
    case hI => k_mem
    case hJ =>
     have hin : ∀ q ∈ nw, q.1 ≠ pl → q ∈ ((D, listOf us9.toArray 0) :: (l2, listOf #[Value.int (1 + (i : Int)) t] 0) :: (pl, listOf ((as.map Value.ref).toArray.push (Value.ref D)) (kl + 1)) :: (I, oI) :: (nA, listOf ws.toArray kn) :: (b, listOf vb.toArray nb) :: nw.filter (fun q => q.1 != pl)).filter (fun q => q.1 != I) := fun q hq hne =>
      List.mem_filter.mpr ⟨.tail _ (.tail _ (.tail _ (.tail _ (.tail _ (.tail _ (List.mem_filter.mpr ⟨hq, by simpa using hne⟩)))))), by simpa using hI2 q hq⟩
     refine ⟨rfl, fun q hq => ?_, as ++ [D], kl + 1, ?_, ?_, fun j a p h1 h2 => ?_⟩
     injections q hq
     injections j a p h1 h2
     ·refine hin q (hkeep q hq) ?_
      rcases List.mem_cons.mp hq with rfl | hq
      ·exact hnp
      ·exact hpn q hq
     ·refine List.mem_filter.mpr ⟨?_, by simpa using Nat.ne_of_lt hIp⟩
      have e : ((as ++ [D]).map Value.ref).toArray = (as.map Value.ref).toArray.push (Value.ref D) := by simp
      rw [e]
      exact .tail _ (.tail _ (.head _))
     ·rw [pathsTo_len, List.length_append, hlen, hlast]; rfl
     ·have hN1 : ((1 : Int) + (i : Nat)).toNat = i + 1 := by omega
      have ePs : pathsTo ns (i + 1) = pathsTo ns i ++ [pp ++ [(1 : Int) + (i : Nat)]] := by
       show pathStep ns (pathsTo ns i) (i + 1) = _
       unfold pathStep
       rw [show (((i + 1 : Nat) : Int)) = (1 : Int) + (i : Nat) by omega, ← hN1, List.getD_eq_getElem?_getD, hpp]
       rfl
      rw [ePs] at h2
      by_cases hj : j < as.length
      ·rw [List.getElem?_append_left hj] at h1
       rw [List.getElem?_append_left (by rw [← hlen]; exact hj)] at h2
       obtain ⟨v9, n9, m9, i9, ne9⟩ := hel j a p h1 h2
       exact ⟨v9, n9, hin _ m9 ne9, i9, ne9⟩
      ·have hj' : j = as.length := by
        have := (List.getElem?_eq_some_iff.mp h1).1
        rw [List.length_append, List.length_cons, List.length_nil] at this
        omega
       subst hj'
       rw [List.getElem?_append_right (Nat.le_refl _), Nat.sub_self] at h1
       rw [hlen, List.getElem?_append_right (Nat.le_refl _), Nat.sub_self] at h2
       cases h1
       cases h2
       exact ⟨_, 0, List.mem_filter.mpr ⟨.head _, by simpa using Nat.ne_of_gt hDl.2.2.1⟩, hus, Nat.ne_of_gt hDl.2.1⟩
  case done =>
    intro u nw h4 tk4 g4 pz3
    rcases pz3 with ⟨rfl, pz4⟩
    obtain ⟨hkeep, hP⟩ := pz4
    intro F4 N4
    k_steps
    exact hret pl _ _ nw (by k_asm) (by k_asm) (fun q hq => hkeep q (.tail _ hq)) hP
 fail "mk.b"
end
section
noncomputable abbrev lexEs (P : Params) (tk : Nat → Tok) (ln : Int) (fp : Value) (l : Addr) : List DictEntry :=
 [⟨PySem.PyData.keyHash P (Str.ofString "lineno"), .str (Str.ofString "lineno") (tk 0), .int ln (tk 1)⟩, ⟨PySem.PyData.keyHash P (Str.ofString "instream"), .str (Str.ofString "instream") (tk 2), fp⟩,
  ⟨PySem.PyData.keyHash P (Str.ofString "whitespace"), .str (Str.ofString "whitespace") (tk 3), .str (Str.ofString "\n\t\x0d ") (tk 4)⟩, ⟨PySem.PyData.keyHash P (Str.ofString "pushback"), .str (Str.ofString "pushback") (tk 5), .ref l⟩]
theorem lexEs_of (P : Params) (t0 t1 t2 t3 t4 t5 : Tok) (ln : Int) (fp : Value) (l : Addr) :
 ([⟨PySem.PyData.keyHash P (Str.ofString "lineno"), .str (Str.ofString "lineno") t0, .int ln t1⟩, ⟨PySem.PyData.keyHash P (Str.ofString "instream"), .str (Str.ofString "instream") t2, fp⟩,
  ⟨PySem.PyData.keyHash P (Str.ofString "whitespace"), .str (Str.ofString "whitespace") t3, .str (Str.ofString "\n\t\x0d ") t4⟩, ⟨PySem.PyData.keyHash P (Str.ofString "pushback"), .str (Str.ofString "pushback") t5, .ref l⟩] : List DictEntry) =
 lexEs P (fun i => [t0, t1, t2, t3, t4, t5].getD i 0) ln fp l := rfl
theorem lex_fin {P : Params} {h₀ h : Heap} {L l x d : Addr} {o1 o2 : Obj} {ES : List DictEntry} {n : Nat} {news : List (Addr × Obj)} {tk : Nat → Tok} {ln : Int} {fp : Value} (N : News h₀ L h ((l, o1) :: (x, o2) :: (d, dictOf ES n) :: news)) (hES : ES = lexEs P tk ln fp l) :
 News h₀ L h ((l, o1) :: (x, o2) :: (d, dictOf (lexEs P tk ln fp l) n) :: news) := hES ▸ N
theorem lexinit_spec (hfill : PR = PR) (B : Below A₀ base outer h₀) (F : Fr h₀ L s.heap m) (X : (K0.heap_1 w.params).In h₀) (T : Top p loose mean mg mb h₀) (hk : cs.kind = .function) (hd : dp + 6 < recursionLimit) (hu : un + 100 < cLine)
   (fp : Value) (news : List (Addr × Obj)) (N : News h₀ L s.heap news)
   (hret : ∀ x d l h' tk' tks, Fr h₀ L h' m → News h₀ L h' ((l, listOf #[] 0) :: (x, instObj 213 d) :: (d, dictOf (lexEs w.params tks 1 fp l) 4) :: news) → (∀ q ∈ news, q.1 < d) → @LT.lt Nat _ d x → @LT.lt Nat _ x l → Q (.ref x) { s with heap := h', toks := tk' })
   :
   wpAny (model Challenge.rw_to0089_01.prog w) (ktrTop dp un gd cn cs L a ccd cl outer) (call (.ref 213) [fp]) Q E s := by
 fail "mk.a"
 case zl =>
  revert hfill B F X T hk hd hu N hret
  revert w p loose mean mg mb dp un gd cn cs a ccd cl outer A₀ base h₀ L m s Q E fp news
  intro w p loose mean mg mb dp un gd cn cs a ccd cl outer A₀ base h₀ L m s Q E fp news hfill B F X T hk hd hu N hret
  revert X; k_fill; intro X
  k_dflt (refine' call_cls ?k1 ?k2 ?k3 ?k4 ?k5 ?k6 ?_; (case k1 | k2 | k3 => k_asm); (case k4 | k5 | k6 => k_is))
  intro x d h1 F1 N1 l1 l2
  have l0 := l1
  k_lt2 l2
  (try dsimp only)
  k_dflt (fail "my.enter")
  k_steps
  rename News h₀ L _ _ => N9
  obtain ⟨l, x9, e1, e2⟩ := two_heads N9
  subst e1 e2
  exact hret _ d l _ _ _ (by k_asm) (lex_fin N9 (lexEs_of _ _ _ _ _ _ _ _ _ _)) l0 l2 (by omega)
 fail "mk.b"
end
section
def FnIn (f : Addr) (keep : List (Addr × Obj)) : Prop := ∃ oc od fd sl, (f, (⟨oc, od, .func fd, sl⟩ : Obj)) ∈ keep
def PieceOk (w : World) (x : Str) (f g : Addr) (keep : List (Addr × Obj)) : Prop :=
 ∀ {p : Program} {loose : List Str} {mean : ExcName → Option Value} {mg mb : Str → Option Value}
  {dp un : Nat} {gd : Option (List Code)} {cn : Str} {cs : Scope} {a : Addr} {ccd : Value} {cl : List (Str × Addr)} {outer : List Env} {A₀ : Around} {base h₀ : Heap} {L : Addr} {m : Str → Option Value} {s : Shared} {Q E : Value → Shared → Prop}
  (B : Below A₀ base outer h₀) (F : Fr h₀ L s.heap m) (X : (K0.heap_1 w.params).In h₀) (T : Top p loose mean mg mb h₀) (hk : cs.kind = .function) (hd : dp + 2 < recursionLimit) (hu : un + 30 < cLine)
  (t : Tok) (news : List (Addr × Obj)) (vs : Array Value) (n : Nat) (N : News h₀ L s.heap ((g, listOf vs n) :: news)) (hkp : ∀ q ∈ keep, q ∈ news) (hap : ∀ q ∈ news, q.1 ≠ g) (hx : x.length ≤ 3000) (hvs : vs.size ≤ x.length)
  (hret : ∀ h' tk' n' t' vs', Fr h₀ L h' m → News h₀ L h' ((g, listOf vs' n') :: news) → vs'.size = min (vs.size + 1) x.length → Q (.str (Txt.slice x (some (vs.size : Int)) (some ((vs.size : Int) + 1))) t') { s with heap := h', toks := tk' }),
  wpAny (model Challenge.rw_to0089_01.prog w) (ktrTop dp un gd cn cs L a ccd cl outer) (call (.ref f) [.int 1 t]) Q E s
theorem news_mid {h₀ h : Heap} {L : Addr} {q1 a b c d : Addr × Obj} {r : List (Addr × Obj)} (N : News h₀ L h (q1 :: a :: b :: c :: d :: r)) : News h₀ L h (q1 :: r) := fun q hq => by
 rcases List.mem_cons.mp hq with rfl | hq
 ·exact N _ (.head _)
 ·exact N _ (.tail _ (.tail _ (.tail _ (.tail _ (.tail _ hq)))))
theorem lex_arr {h₀ h : Heap} {L : Addr} {l2 x2 d2 f c g l1 x1 d1 b e pt : Addr × Obj} {r : List (Addr × Obj)} (N : News h₀ L h (l2 :: x2 :: d2 :: f :: c :: g :: l1 :: x1 :: d1 :: b :: e :: pt :: r)) : News h₀ L h (x2 :: d2 :: l2 :: x1 :: d1 :: g :: ([f, c, b, e] ++ pt :: r)) := by
 intros q hq
 refine N q ?_
 simp only [List.cons_append, List.nil_append, List.mem_cons] at hq ⊢
 rcases hq with h | h | h | h | h | h | h | h | h | h | h | h <;> simp [h]
theorem lex_ask {h₀ h : Heap} {L l2 x2 d2 f c g l1 x1 d1 b e pt : Addr} {o1 o2 o3 o4 o5 o6 o7 o8 o9 o10 o11 o12 : Obj} {news : List (Addr × Obj)} {R : Prop} (N : News h₀ L h ((l2, o1) :: (x2, o2) :: (d2, o3) :: (f, o4) :: (c, o5) :: (g, o6) :: (l1, o7) :: (x1, o8) :: (d1, o9) :: (b, o10) :: (e, o11) :: (pt, o12) :: news))
  (k : ∀ f' o4' c' o5' g' b' o10' e' o11', f' = f → o4' = o4 → c' = c → o5' = o5 → g' = g → b' = b → o10' = o10 → e' = e → o11' = o11 → News h₀ L h ((l2, o1) :: (x2, o2) :: (d2, o3) :: (f', o4') :: (c', o5') :: (g', o6) :: (l1, o7) :: (x1, o8) :: (d1, o9) :: (b', o10') :: (e', o11') :: (pt, o12) :: news) → R) : R :=
 k _ _ _ _ _ _ _ _ _ rfl rfl rfl rfl rfl rfl rfl rfl rfl N
theorem lexer_spec (hfill : PR = PR) (B : Below A₀ base outer h₀) (F : Fr h₀ L s.heap m) (X : (K0.heap_1 w.params).In h₀) (T : Top p loose mean mg mb h₀) (hk : cs.kind = .function) (hd : dp + 14 < recursionLimit) (hu : un + 200 < cLine)
   (PT : Addr) (x : Str) (t : Tok) (news : List (Addr × Obj)) (hCd : CodeHd base 287 PT) (N : News h₀ L s.heap ((PT, tabObj #[]) :: news)) (hap : ∀ q ∈ news, q.1 ≠ PT)
   (hret : ∀ x2 d2 l2 x1 d1 l1 f g tk1 tk2 tkr keep h' tk' tv, Fr h₀ L h' m →
     News h₀ L h' ((x2, instObj 213 d2) :: (d2, dictOf (lexEs w.params tk2 1 (.ref x1) l2) 4) :: (l2, listOf #[] 0) :: (x1, instObj 213 d1) :: (d1, dictOf (lexEs w.params tk1 1 .none l1 ++ [⟨PySem.PyData.keyHash w.params (Str.ofString "read"), .str (Str.ofString "read") tkr, .ref f⟩]) 5) :: (g, listOf #[] 0) :: (keep ++ (PT, tabObj tv) :: news)) →
     PieceOk w x f g keep → FnIn f keep → (∀ q ∈ news, q.1 < d1) → (∀ q ∈ keep ++ (PT, tabObj tv) :: news, q.1 ≠ g) → (∀ q ∈ keep ++ (PT, tabObj tv) :: news, q.1 < d2) → @LT.lt Nat _ d1 x1 → @LT.lt Nat _ x1 g → @LT.lt Nat _ g d2 → @LT.lt Nat _ d2 x2 → @LT.lt Nat _ x2 l2 → Q (.ref x2) { s with heap := h', toks := tk' })
   :
   wpAny (model Challenge.rw_to0089_01.prog w) (ktrTop dp un gd cn cs L a ccd cl outer) (call (.ref 288) [.str x t]) Q E s := by
 fail "mk.a"
 case zl =>
  revert hfill B F X T hk hd hu hCd N hap hret
  revert w p loose mean mg mb dp un gd cn cs a ccd cl outer A₀ base h₀ L m s Q E PT x t news
  intro w p loose mean mg mb dp un gd cn cs a ccd cl outer A₀ base h₀ L m s Q E PT x t news hfill B F X T hk hd hu hCd N hap hret
  revert X; k_fill; intro X; refine wpAny_call ?_; first | k_dflt (fail "my.enter") | fail
  (repeat' first | ((with_reducible show wpAny _ _ (call (Value.ref 213) _) _ _ _); refine stop_of ?_) | fail "k1")
  unfold Stop
  k_dflt (refine' lexinit_spec rfl ?k1 ?k2 ?k3 ?k4 ?k5 ?k6 ?k7 _ _ ?hN (fun x1 d1 l1 h1 tk1 ts1 F1 N1 o1 o2 o3 => ?_); (case k1 | k2 | k3 | k4 | hN => k_asm); (case k5 => rfl); (case k6 => first | ktr_room | k_room); (case k7 => ktr_units))
  injections x1 d1 l1 h1 tk1 ts1 F1 N1 o1 o2 o3
  have hne1 : ∀ q ∈ news, q.1 ≠ d1 := fun q hq => Nat.ne_of_lt (o1 q (by fail "my.mem"))
  dsimp only [lexEs] at N1
  k_lt o1
  k_lt2 o2
  k_lt2 o3
  (repeat' first | ((with_reducible show wpAny _ _ (call (Value.ref 213) _) _ _ _); refine stop_of ?_) | fail "k1")
  unfold Stop
  k_dflt (refine' lexinit_spec rfl ?q1 ?q2 ?q3 ?q4 ?q5 ?q6 ?q7 _ _ ?qN (fun x2 d2 l2 h2 tk2 ts2 F2 N2 o4 o5 o6 => ?_); (case q1 | q2 | q3 | q4 | qN => k_asm); (case q5 => rfl); (case q6 => first | ktr_room | k_room); (case q7 => ktr_units))
  injections x2 d2 l2 h2 tk2 ts2 F2 N2 o4 o5 o6
  have l4 := o4
  k_lt l4
  k_lt2 o5
  k_lt2 o6
  k_steps
  rename News h₀ L _ _ => N9
  refine lex_ask N9 fun f w4 c w5 g b w10 e w11 e1 e2 e3 e4 e5 e6 e7 e8 e9 N8 => ?_
  injections f w4 c w5 g b w10 e w11 e1 e2 e3 e4 e5 e6 e7 e8 e9 N8
  subst e1 e3 e5
  have hP : PieceOk w x f g [(f, w4), (c, w5), (b, w10), (e, w11)] := by
    intro p loose mean mg mb dp un gd cn cs a ccd cl outer A₀ base h₀ L m s Q E B F X T hk hd hu t news vs n N hkp hap hx hvs hret
    have N1 : News h₀ L s.heap ((g, listOf vs n) :: (f, w4) :: (c, w5) :: (b, w10) :: (e, w11) :: news) := fun q hq => by
      rcases List.mem_cons.mp hq with rfl | hq
      ·exact N _ (.head _)
      rcases List.mem_append.mp (show q ∈ [(f, w4), (c, w5), (b, w10), (e, w11)] ++ news from hq) with hq | hq
      ·exact N _ (.tail _ (hkp q hq))
      ·exact N _ (.tail _ hq)
    subst e2 e4 e7 e9 e6 e8
    have hsz : vs.size + (pcS x vs.size).cps.size ≤ sizeLine := by
      have := pcS_one x hvs
      rw [sizeLine_eq]; omega
    revert X
    k_fill
    intro X
    k_dflt (refine wpAny_call ?_; refine' code_nest ?k1 ?k2 ?k3 ?k4 ?k5 ?kA ?kF ?kK ?k6 ?k7 ?k8 ?k9 ?kB ?_ ?c2 ?c3 ?c4 ?c5; (case kA | kF => exact rfl); (case kK => assumption); (case k1 | k2 | k3 | k4 | k5 => k_asm); (case k6 => k_mem); (case k7 => exact codeRec_news (by k_asm) (by k_mem) (by assumption) (by assumption)); (case k8 => first | ktr_room | k_room); (case k9 => exact BindsTo.of_eq rfl); (case c5 => decide); (case kB => exact locs rfl); (case c2 | c3 | c4 => exact rfl); k_whole; intro g' L' h' FG' F' N' B' X' T'; (try dsimp only); (try k_lift B'); (try k_fold))
    (repeat' first | ((with_reducible show wpAny _ _ (call (Value.builtin _) [Value.ref _, Value.str _ _]) _ _ _); k_dflt (refine' ext_str_K ?k0 ?k1 ?k2 ?k3 _ _ ?k4 ?_; (case k0 => exact rfl); (case k1 | k2 => k_asm); (case k3 => k_updF); (case k4 => assumption)); (intro _ _ _ _ _ _ _)) | fail "k1")
    rename _ = vs.size + _ => hac
    rename News h₀ L _ _ => N7
    exact hret _ _ _ _ _ (by k_asm) (news_mid N7) (hac.trans (pcS_size x hvs))
  have hxg : @LT.lt Nat _ x1 g := by omega
  have hdx : @LT.lt Nat _ d1 x1 := by omega
  have hgf : @LT.lt Nat _ g c ∧ @LT.lt Nat _ c f ∧ @LT.lt Nat _ f d2 ∧ @LT.lt Nat _ d2 x2 ∧ @LT.lt Nat _ x2 l2 := by omega
  have hbe : @LT.lt Nat _ b d1 ∧ @LT.lt Nat _ e d1 := by rw [e6, e8]; exact ⟨o1.1, o1.2.1⟩
  have hPT : @LT.lt Nat _ PT d1 := o1.2.2.1
  have hn1 : ∀ q ∈ news, @LT.lt Nat _ q.1 d1 := allLt_mem o1.2.2.2
  clear hne1 hap
  obtain ⟨g1, g2, g3, g4, g5⟩ := hgf
  obtain ⟨g6, g7⟩ := hbe
  have hall : ∀ oP : Obj, ∀ q ∈ [(f, w4), (c, w5), (b, w10), (e, w11)] ++ (PT, oP) :: news, (@Ne Nat q.1 g) ∧ @LT.lt Nat _ q.1 d2 := by
    clear o1 o2 o3 o4 o5 o6 e6 e8
    intro oP q hq
    simp only [List.cons_append, List.nil_append, List.mem_cons] at hq
    rcases hq with rfl | rfl | rfl | rfl | rfl | hq
    · exact ⟨by dsimp only; omega, by dsimp only; omega⟩
    · exact ⟨by dsimp only; omega, by dsimp only; omega⟩
    · exact ⟨by dsimp only; omega, by dsimp only; omega⟩
    · exact ⟨by dsimp only; omega, by dsimp only; omega⟩
    · exact ⟨by dsimp only; omega, by dsimp only; omega⟩
    · have := hn1 q hq
      exact ⟨by omega, by omega⟩
  refine hret x2 d2 l2 x1 d1 l1 f g ts1 ts2 _ [(f, w4), (c, w5), (b, w10), (e, w11)] _ _ _ (by k_asm) (lex_arr N8) hP (e2 ▸ ⟨_, _, _, _, .head _⟩) hn1 (fun q hq => (hall _ q hq).1) (fun q hq => (hall _ q hq).2) hdx hxg (by omega) g4 g5
 fail "mk.b"
end
section
noncomputable abbrev d1Es (P : Params) (tk1 : Nat → Tok) (l1 : Addr) (tkr : Tok) (f : Addr) : List DictEntry := lexEs P tk1 1 .none l1 ++ [⟨PySem.PyData.keyHash P (Str.ofString "read"), .str (Str.ofString "read") tkr, .ref f⟩]
theorem lx_front {h₀ h : Heap} {L : Addr} {a b c d e g : Addr × Obj} {r : List (Addr × Obj)} (N : News h₀ L h (a :: b :: c :: d :: e :: g :: r)) : News h₀ L h (g :: a :: b :: c :: d :: e :: r) := by
 intros q hq
 refine N q ?_
 simp only [List.mem_cons] at hq ⊢
 rcases hq with h | h | h | h | h | h | h <;> simp [h]
theorem lx_back {h₀ h : Heap} {L : Addr} {a b c d e g : Addr × Obj} {r : List (Addr × Obj)} (N : News h₀ L h (g :: a :: b :: c :: d :: e :: r)) : News h₀ L h (a :: b :: c :: d :: e :: g :: r) := by
 intros q hq
 refine N q ?_
 simp only [List.mem_cons] at hq ⊢
 rcases hq with h | h | h | h | h | h | h <;> simp [h]
theorem lx_apart {x2 d2 l2 x1 d1 g : Addr} {a b c d e : Obj} {r : List (Addr × Obj)} (hap : ∀ q ∈ r, q.1 ≠ g) (o1 : @LT.lt Nat _ d1 x1) (o2 : @LT.lt Nat _ x1 g) (o3 : @LT.lt Nat _ g d2) (o4 : @LT.lt Nat _ d2 x2) (o5 : @LT.lt Nat _ x2 l2) :
  ∀ q ∈ (x2, a) :: (d2, b) :: (l2, c) :: (x1, d) :: (d1, e) :: r, q.1 ≠ g := by
 intros q hq
 simp only [List.mem_cons] at hq
 rcases hq with rfl | rfl | rfl | rfl | rfl | hq
 ·exact Nat.ne_of_gt (show @LT.lt Nat _ g x2 by omega)
 ·exact Nat.ne_of_gt o3
 ·exact Nat.ne_of_gt (show @LT.lt Nat _ g l2 by omega)
 ·exact Nat.ne_of_lt o2
 ·exact Nat.ne_of_lt (show @LT.lt Nat _ d1 g by omega)
 ·exact hap q hq
theorem readc_code (hfill : PR = PR) (B : Below A₀ base outer h₀) (F : Fr h₀ L s.heap m) (X : (K0.heap_1 w.params).In h₀) (T : Top p loose mean mg mb h₀) (hk : cs.kind = .function) (hd : dp + 6 < recursionLimit) (hu : un + 100 < cLine)
    (x2 d2 l2 x1 d1 l1 f g : Addr) (tk2 tk1 : Nat → Tok) (tkr : Tok) (ln : Int) (vs : Array Value) (n : Nat) (x : Str) (rest keep : List (Addr × Obj))
    (N : News h₀ L s.heap ((x2, instObj 213 d2) :: (d2, dictOf (lexEs w.params tk2 ln (.ref x1) l2) 4) :: (l2, listOf #[] 0) :: (x1, instObj 213 d1) :: (d1, dictOf (d1Es w.params tk1 l1 tkr f) 5) :: (g, listOf vs n) :: rest))
    (hP : PieceOk w x f g keep) (hF : FnIn f keep) (hkp : ∀ q ∈ keep, q ∈ rest) (hap : ∀ q ∈ rest, q.1 ≠ g) (hap2 : ∀ q ∈ rest, q.1 ≠ d2) (o1 : @LT.lt Nat _ d1 x1) (o2 : @LT.lt Nat _ x1 g) (o3 : @LT.lt Nat _ g d2) (o4 : @LT.lt Nat _ d2 x2) (o5 : @LT.lt Nat _ x2 l2)
    (hx : x.length ≤ 3000) (hvs : vs.size ≤ x.length)
    (hret : ∀ h' tk' n' t' vs' tk2', Fr h₀ L h' m →
      News h₀ L h' ((x2, instObj 213 d2) :: (d2, dictOf (lexEs w.params tk2' (if pcS x vs.size = Str.ofString "\n" then ln + 1 else ln) (.ref x1) l2) 4) :: (l2, listOf #[] 0) :: (x1, instObj 213 d1) :: (d1, dictOf (d1Es w.params tk1 l1 tkr f) 5) :: (g, listOf vs' n') :: rest) →
      vs'.size = min (vs.size + 1) x.length → Q (.str (pcS x vs.size) t') { s with heap := h', toks := tk' }) :
    codeAny (model Challenge.rw_to0089_01.prog w) (ktrTop dp un gd cn cs L a ccd cl outer) (.call (.ref 196) ⟨[.ref x2], []⟩) (fun r s' => match r with | .ok (.ret v) => Q v s' | .ok _ => False | .error e => E e s') s := by
  fail "mk.a"
  case zl =>
   revert hfill B F X T hk hd hu N hP hF hkp hap hap2 o1 o2 o3 o4 o5 hx hvs hret
   revert w p loose mean mg mb dp un gd cn cs a ccd cl outer A₀ base h₀ L m s Q E x2 d2 l2 x1 d1 l1 f g tk2 tk1 tkr ln vs n x rest keep
   intro w p loose mean mg mb dp un gd cn cs a ccd cl outer A₀ base h₀ L m s Q E x2 d2 l2 x1 d1 l1 f g tk2 tk1 tkr ln vs n x rest keep hfill B F X T hk hd hu N hP hF hkp hap hap2 o1 o2 o3 o4 o5 hx hvs hret
   obtain ⟨oc, od, fd, sl, hfm⟩ := hF
   have hfm' := hkp _ hfm
   dsimp only [d1Es, lexEs, List.cons_append, List.nil_append] at N
   revert X
   k_fill
   intro X
   k_dflt (fail "my.enter")
   (repeat' first | ((with_reducible show wpAny _ _ (getMethod (Value.ref _) _ _) _ _ _); walk_at "last getMethod ref") | ((with_reducible show wpAny _ _ (call (Value.ref _) [Value.int 1 _]) _ _ _); refine stop_of ?_) | ((with_reducible show FnAt ..); (k_dflt (exact FnAt.of (by k_asm) (by fail "my.mem")))) | ((with_reducible show wpAny _ _ (callWith _ (Prod.fst (Value.ref _, _)) _ _ _) _ _ _); k_dflt (refine' callWith_F ?k1 ?_; (case k1 => exact FnAt.of (by k_asm) (by fail "my.mem")); k_whole)) | fail "k1")
   unfold Stop
   rename News _ _ _ _ => N1
   k_dflt (refine' hP ?k1 ?k2 ?k3 ?k4 ?k5 ?k6 ?k7 _ _ vs n (lx_front N1) ?kp ?ap hx hvs (fun h2 tkq n2 t2 vs2 F2 N3 hz => ?_); (case k1 | k2 | k3 | k4 => k_asm); (case k5 => rfl); (case k6 => first | ktr_room | k_room); (case k7 => ktr_units); (case kp => (intro q hq; have := hkp q hq; fail "my.mem")))
   injections h2 tkq n2 t2 vs2 F2 N3 hz
   case ap => exact lx_apart hap o1 o2 o3 o4 o5
   have N4 := lx_back N3
   clear N3
   k_steps
   · rename (_ == Str.ofString "\n") = _ => hc
     rename News h₀ L _ _ => N7
     first
     | (rw [if_pos (show pcS x vs.size = Str.ofString "\n" from beq_iff_eq.mp hc)] at hret
        exact hret _ _ _ _ _ (fun i => [_, _, _, _, _, _].getD i 0) (by k_asm) N7 hz)
     | (rw [if_neg (show ¬ pcS x vs.size = Str.ofString "\n" from beq_eq_false_iff_ne.mp hc)] at hret
        exact hret _ _ _ _ _ tk2 (by k_asm) N7 hz)
   · rename (_ == Str.ofString "\n") = _ => hc
     rename News h₀ L _ _ => N7
     first
     | (rw [if_pos (show pcS x vs.size = Str.ofString "\n" from beq_iff_eq.mp hc)] at hret
        exact hret _ _ _ _ _ (fun i => [_, _, _, _, _, _].getD i 0) (by k_asm) N7 hz)
     | (rw [if_neg (show ¬ pcS x vs.size = Str.ofString "\n" from beq_eq_false_iff_ne.mp hc)] at hret
        exact hret _ _ _ _ _ tk2 (by k_asm) N7 hz)
  fail "mk.b"
end
section
noncomputable abbrev citO (f sent : Value) (b : Bool) : Obj := { cls := .type "callable_iterator", data := .fields #[f, sent, .bool b] }
theorem owner_cit : Manifest.owners.lookup (String.ofList ['r', 'o', 't', 'a', 'r', 'e', 't', 'i', '_', 'e', 'l', 'b', 'a', 'l', 'l', 'a', 'c'].reverse) = some Manifest.sig_callable_iterator := by kernel_rfl
theorem slot_cit_next : Slot "callable_iterator" "__next__" "callable_iterator.__next__" :=
 .of (owner := "callable_iterator") (n := "__next__") (by rw [typeLookup_type, builtinLookup_eq_fast]; kernel_rfl) (by decide +kernel) (by decide +kernel) (by decide +kernel)
  (by first | exact .inl (by decide +kernel) | exact .inr (by decide +kernel)) (by rw [isSubtype_type]; kernel_rfl)
theorem entry_cit_next : entryFor table "callable_iterator.__next__" = some Builtin.«callable_iterator.__next__» := entryFor_of_tree (by kernel_rfl)
theorem args_cit_next_1 (a : Value) : argsOk "callable_iterator.__next__" ⟨[a], []⟩ := by
 unfold argsOk; rw [signature?_of (id := "callable_iterator.__next__") (n := ['_', '_', 't', 'x', 'e', 'n', '_', '_']) (o := ['r', 'o', 't', 'a', 'r', 'e', 't', 'i', '_', 'e', 'l', 'b', 'a', 'l', 'l', 'a', 'c']) (by kernel_rfl) owner_cit]; kernel_rfl
theorem slot_cit_iter : Slot "callable_iterator" "__iter__" "callable_iterator.__iter__" :=
 .of (owner := "callable_iterator") (n := "__iter__") (by rw [typeLookup_type, builtinLookup_eq_fast]; kernel_rfl) (by decide +kernel) (by decide +kernel) (by decide +kernel)
  (by first | exact .inl (by decide +kernel) | exact .inr (by decide +kernel)) (by rw [isSubtype_type]; kernel_rfl)
theorem args_cit_iter_1 (a : Value) : argsOk "callable_iterator.__iter__" ⟨[a], []⟩ := by
 unfold argsOk; rw [signature?_of (id := "callable_iterator.__iter__") (n := ['_', '_', 'r', 'e', 't', 'i', '_', '_']) (o := ['r', 'o', 't', 'a', 'r', 'e', 't', 'i', '_', 'e', 'l', 'b', 'a', 'l', 'l', 'a', 'c']) (by kernel_rfl) owner_cit]; kernel_rfl
theorem entry_cit_iter : entryFor table "callable_iterator.__iter__" = some Builtin.«dict_keyiterator.__iter__» :=
 entryFor_alias (id' := "dict_keyiterator.__iter__") (by kernel_rfl) (by first | rfl | decide +kernel | (unfold String.splitOn; simp +decide [String.splitOnAux])) (by decide +kernel) (by kernel_rfl)
section
variable {prog : Program} {w : World} {A : Around} {E : Value → Shared → Prop} {s : Shared}
theorem callBorrowed_of {M : Model} {f : Value} {pos : List Value} {Q : Value → Shared → Prop} (h : wpAny M A (call f pos) Q E s) : wpAny M A (callBorrowed f pos) Q E s := by
 fail "mk.a"
 case zl =>
  revert h
  revert A E s M f pos Q
  intro A E s M f pos Q h
  intro Γ p hΓ
  have := h Γ p hΓ
  unfold call at this
  rw [Sem.wp_runValue] at this
  unfold callBorrowed
  rw [Sem.wp_call]
  refine cast ?_ this
  congr 1
  funext r s'
  cases r with
  | error e => rfl
  | ok f => cases f <;> rfl
 fail "mk.b"
theorem pyIter_cit {it : Addr} {f sent : Value} {b : Bool} {Q : Value → Shared → Prop} (hit : s.heap.get? it = some (citO f sent b)) (h : Q (.ref it) s) : wpAny (model prog w) A (pyIter (.ref it)) Q E s := by
 fail "mk.a"
 case zl =>
  revert hit h
  revert prog w A E s it f sent b Q
  intro prog w A E s it f sent b Q hit h
  have hT : s.TypeIs (.ref it) "callable_iterator" := ⟨_, hit, rfl⟩
  refine wpAny_pyIter_slot hT slot_cit_iter (wpAny_call_entry slot_cit_iter hT entry_cit_iter ?_ (args_cit_iter_1 _))
  show wpAny _ _ (ret (.ref it)) _ _ s
  exact wpAny_pure ⟨_, rfl, "callable_iterator", _, hT, slot_cit_next.lookup, h⟩
 fail "mk.b"
theorem borrows_meth {M : Model} {b f : Addr} {x : Value} {o : Obj} {fn : FuncData} {Q : Bool → Shared → Prop} (hb : s.heap.get? b = some (methodObj (.ref f) x)) (hf : s.heap.get? f = some o) (hd : o.data = .func fn) (h : Q true s) :
   wpAny M A (borrowsExactly (.ref b)) Q E s := by
 fail "mk.a"
 case zl =>
  revert hb hf hd h
  revert A E s M b f x o fn Q
  intro A E s M b f x o fn Q hb hf hd h
  unfold borrowsExactly
  refine wpAny_bind (wpAny_load hb ?_)
  show wpAny _ _ (do match (← load f).data with | .func _ => pure true | _ => pure false) _ _ s
  refine wpAny_bind (wpAny_load hf ?_)
  rw [hd]
  exact wpAny_pure h
 fail "mk.b"
theorem pyNext_cit {it b f : Addr} {x : Value} {sent : Str} {st : Tok} {o : Obj} {fn : FuncData} {Q : Option Value → Shared → Prop} (hh : A.handled = none)
   (hit : s.heap.get? it = some (citO (.ref b) (.str sent st) false)) (hb : s.heap.get? b = some (methodObj (.ref f) x)) (hf : s.heap.get? f = some o) (hd : o.data = .func fn)
   (h : wpAny (model prog w) A.in1 (call (.ref b) []) (fun v s' => s'.heap.get? it = some (citO (.ref b) (.str sent st) false) ∧ s'.heap.get? b = some (methodObj (.ref f) x) ∧ s'.heap.get? f = some o ∧ ∃ y t, v = .str y t ∧ (y ≠ sent → Q (some v) s') ∧ (y = sent → ∀ h', Heap.ExtBut it s'.heap h' → h'.get? it = some (citO .none .none true) → Q none { s' with heap := h' })) (fun _ _ => False) s) :
   wpAny (model prog w) A (pyNext (.ref it)) Q E s := by
 fail "mk.a"
 case zl =>
  revert hh hit hb hf hd h
  revert prog w A E s it b f x sent st o fn Q
  intro prog w A E s it b f x sent st o fn Q hh hit hb hf hd h
  have hT : s.TypeIs (.ref it) "callable_iterator" := ⟨_, hit, rfl⟩
  unfold pyNext
  refine wpAny_bind (wpAny_attempt (wpAny_callSpecial?_slot (name := Str.ofString "__next__") hT slot_cit_next
    (wpAny_call_entry slot_cit_next hT entry_cit_next ?_ (args_cit_next_1 _))))
  show wpAny _ _ (field (.ref it) 2 >>= _) _ _ _
  refine wpAny_bind (wpAny_field hit rfl (x := .bool false) rfl ?_)
  show wpAny _ _ (field (.ref it) 0 >>= _) _ _ _
  refine wpAny_bind (wpAny_field hit rfl (x := .ref b) rfl ?_)
  refine wpAny_bind (wpAny_attempt ?_)
  unfold callOutOfASlot
  refine wpAny_bind (borrows_meth hb hf hd ?_)
  rw [if_pos rfl]
  refine callBorrowed_of (wpAny_mono h (fun v s₁ h₁ => ?_) fun e s₁ h₁ => ?_)
  injections v s₁ h₁
  injections e s₁ h₁
  · obtain ⟨hit1, hb1, hf1, y, t, pz2⟩ := h₁
    rcases pz2 with ⟨rfl, pz3⟩
    obtain ⟨hne, heq⟩ := pz3
    show wpAny _ _ (field (.ref it) 2 >>= _) _ _ _
    refine wpAny_bind (wpAny_field hit1 rfl (x := .bool false) rfl ?_)
    simp only [show (Value.bool false == Value.bool true) = false from rfl, Bool.false_eq_true, if_false]
    refine wpAny_bind (wpAny_field hit1 rfl (x := .str sent st) rfl ?_)
    refine wpAny_bind (wpAny_holding (wpAny_eqBool_str ?_))
    by_cases hy : sent = y
    ·simp only [hy, decide_true, Bool.not_true, Bool.false_eq_true, if_false]
     refine wpAny_bind (wpAny_rule (wpAny_bind ?_))
     show wpAny _ _ (do slotLetsGo "callable_iterator.__next__" (← field (.ref it) 0) _; setField (.ref it) 0 .none; setField (.ref it) 1 .none; setField (.ref it) 2 (.bool true)) _ _ _
     refine wpAny_bind (wpAny_field hit1 rfl (x := .ref b) rfl ?_)
     refine wpAny_bind ?_
     ·unfold slotLetsGo
      refine wpAny_bind (borrows_meth hb1 hf1 hd ?_)
      rw [if_pos rfl]
      refine wpAny_pure ?_
      refine wpAny_bind (wpAny_setField_rec hit1 (by simp) fun h₂ hit₂ hs₂ => ?_)
      injections h₂ hit₂ hs₂
      refine wpAny_bind (wpAny_setField_rec hit₂ (by simp) fun h₃ hit₃ hs₃ => ?_)
      injections h₃ hit₃ hs₃
      refine wpAny_setField_rec hit₃ (by simp) fun h₄ hit₄ hs₄ => ?_
      injections h₄ hit₄ hs₄
      show wpAny _ _ (newExc (.type "StopIteration") [] >>= _) _ _ _
      refine wpAny_bind ?_
      simp only [newExc, newTuple]
      refine wpAny_bind (wpAny_newObj_type ?_ (by size_fits))
      refine wpAny_bind (m := firstArgMember _ _) (wpAny_of_eq (a := Value.none) (by first | rfl | (simp only [firstArgMember]; rfl)) ?_)
      refine wpAny_newObj_type ?_ (by size_fits)
      simp only [raiseNew]
      refine wpAny_bind (wpAny_handled ?_)
      first | rw [show A.in1.handled = none from hh] | rw [hh]
      refine wpAny_bind (wpAny_pure (wpAny_throw ?_))
      refine wpAny_bind (wpAny_isInstance (T := "StopIteration") (b := true) ⟨_, Heap.get?_push_size _ rfl, rfl⟩ isSubtype_stop ?_)
      exact wpAny_pure (heq hy.symm _ ((Heap.ExtBut.push (Heap.ExtBut.push (fun b o hb ho => hs₄.extBut b o hb (hs₃.extBut b o hb (hs₂.extBut b o hb ho))) _) _)) (Heap.get?_push_of_some _ (Heap.get?_push_of_some _ hit₄)))
    ·simp only [hy, decide_false, Bool.not_false, if_true]
     exact wpAny_pure ⟨_, rfl, wpAny_pure (hne (Ne.symm hy))⟩
  · exact h₁.elim
 fail "mk.b"
theorem pyNext_over {it : Addr} {f sent : Value} {Q : Option Value → Shared → Prop} (hh : A.handled = none) (hit : s.heap.get? it = some (citO f sent true))
   (h : ∀ h', (∀ b o, s.heap.get? b = some o → h'.get? b = some o) → Q none { s with heap := h' }) : wpAny (model prog w) A (pyNext (.ref it)) Q E s := by
 fail "mk.a"
 case zl =>
  revert hh hit h
  revert prog w A E s it f sent Q
  intro prog w A E s it f sent Q hh hit h
  have hT : s.TypeIs (.ref it) "callable_iterator" := ⟨_, hit, rfl⟩
  unfold pyNext
  refine wpAny_bind (wpAny_attempt (wpAny_callSpecial?_slot (name := Str.ofString "__next__") hT slot_cit_next
    (wpAny_call_entry slot_cit_next hT entry_cit_next ?_ (args_cit_next_1 _))))
  show wpAny _ _ (field (.ref it) 2 >>= _) _ _ _
  refine wpAny_bind (wpAny_field hit rfl (x := .bool true) rfl ?_)
  simp only [show (Value.bool true == Value.bool true) = true from rfl, if_true]
  refine wpAny_bind (wpAny_rule ?_)
  refine wpAny_bind ?_
  show wpAny _ _ (newExc (.type "StopIteration") [] >>= _) _ _ _
  refine wpAny_bind ?_
  simp only [newExc, newTuple]
  refine wpAny_bind (wpAny_newObj_type ?_ (by size_fits))
  refine wpAny_bind (m := firstArgMember _ _) (wpAny_of_eq (a := Value.none) (by first | rfl | (simp only [firstArgMember]; rfl)) ?_)
  refine wpAny_newObj_type ?_ (by size_fits)
  simp only [raiseNew]
  refine wpAny_bind (wpAny_handled ?_)
  first | rw [show A.in1.handled = none from hh] | rw [hh]
  refine wpAny_bind (wpAny_pure (wpAny_throw ?_))
  refine wpAny_bind (wpAny_isInstance (T := "StopIteration") (b := true) ⟨_, Heap.get?_push_size _ rfl, rfl⟩ isSubtype_stop ?_)
  exact wpAny_pure (h _ fun b o e => Heap.get?_push_of_some _ (Heap.get?_push_of_some _ e))
 fail "mk.b"
end
theorem entry_iter : entryFor table "iter" = some Builtin.«iter» := entryFor_of_tree (by kernel_rfl)
theorem args_iter_2 (a b : Value) : argsOk "iter" ⟨[a, b], []⟩ := by kernel_rfl
theorem look_method_call : ∃ r, typeLookup (.type "method") "__call__" = pure (some r) := ⟨.builtin "method.__call__", by rw [typeLookup_type, builtinLookup_eq_fast]; kernel_rfl⟩
section
variable {prog : Program} {w : World} {A : Around} {E : Value → Shared → Prop} {s : Shared} {h₀ : Heap} {L : Addr} {m : Str → Option Value} {news : List (Addr × Obj)}
theorem iter2_K {b f : Addr} {x : Value} {sent : Str} {t : Tok} {Q : Value → Shared → Prop} (F : Fr h₀ L s.heap m) (N : News h₀ L s.heap news) (hb : (b, methodObj (.ref f) x) ∈ news)
   (h : ∀ I h', Fr h₀ L h' m → News h₀ L h' ((I, citO (.ref b) (.str sent t) false) :: news) → (∀ q ∈ news, q.1 < I) → Q (.ref I) { s with heap := h' }) :
   wpAny (model prog w) A (call (.builtin "iter") [.ref b, .str sent t]) Q E s := by
 fail "mk.a"
 case zl =>
  revert F N hb h
  revert prog w A E s h₀ L m news b f x sent t Q
  intro prog w A E s h₀ L m news b f x sent t Q F N hb h
  have hT : s.TypeIs (.ref b) "method" := ⟨_, (N _ hb).1, rfl⟩
  refine call_function_entry (by decide +kernel) (by decide +kernel) entry_iter (args_iter_2 _ _) ?_
  unfold Builtin.«iter»
  refine wpAny_bind (m := someArgs "iter" 1 2 _) (wpAny_of_eq (a := [Value.ref b, Value.str sent t]) (by first | rfl | kernel_rfl!) ?_)
  dsimp only
  obtain ⟨r, hr⟩ := look_method_call
  refine wpAny_bind (wpAny_specialOf (name := Str.ofString "__call__") hT hr ?_)
  refine wpAny_ite_split (fun hab => absurd hab (by simp)) (fun pu4 => ?_)
  injections pu4
  refine wpAny_bind (wpAny_rule ?_)
  refine wpAny_bind (wpAny_newObj_type (wpAny_pure ⟨_, rfl, ?_⟩))
  exact h _ _ (F.push _) (News.push F N _) (fun q hq => Heap.lt_size (N q hq).1)
 fail "mk.b"
end
end
section
section
variable {w : World} {A : Around} {E : Value → Shared → Prop} {s : Shared} {h₀ : Heap} {env : Env} {x : Str} {px : Pos} {iter : PySem.Expr} {body : List Stmt} {pos : Pos} {Q : Flow → Shared → Prop}
inductive InvC (h₀ : Heap) (L : Addr) (J : Nat → (Str → Option Value) → List (Addr × Obj) → Prop) (s : Shared) (n : Nat) (s' : Shared) : Prop
 | mk (h' : PySem.Heap) (tk' : Nat) (m' : PySem.Str → Option PySem.Value) (news' : List (PySem.Addr × PySem.Obj)) (h : s' = { s with heap := h', toks := tk' } ∧ Fr h₀ L h' m' ∧ News h₀ L h' news' ∧ J n m' news') : InvC h₀ L J s n s'
def TurnC (h₀ : Heap) (L : Addr) (Q : Flow → Shared → Prop) (J : Nat → (Str → Option Value) → List (Addr × Obj) → Prop) (s : Shared) (n : Nat) (f : Flow) (s₃ : Shared) : Prop :=
 match f with
 | .next | .cont => ∃ k, k < n ∧ InvC h₀ L J s k s₃
 | .brk => Q .next s₃
 | .ret v => Q (.ret v) s₃
theorem TurnC.intro {L : Addr} {J : Nat → (Str → Option Value) → List (Addr × Obj) → Prop} {n k : Nat} {h' : Heap} {tk' : Nat} {m' : Str → Option Value} {news' : List (Addr × Obj)} (hk : k < n) (F : Fr h₀ L h' m') (N : News h₀ L h' news') (hJ : J k m' news') :
 TurnC h₀ L Q J s n .next { s with heap := h', toks := tk' } := ⟨k, hk, h', tk', m', news', rfl, F, N, hJ⟩
theorem TurnC.cont {L : Addr} {J : Nat → (Str → Option Value) → List (Addr × Obj) → Prop} {n k : Nat} {h' : Heap} {tk' : Nat} {m' : Str → Option Value} {news' : List (Addr × Obj)} (hk : k < n) (F : Fr h₀ L h' m') (N : News h₀ L h' news') (hJ : J k m' news') :
 TurnC h₀ L Q J s n .cont { s with heap := h', toks := tk' } := ⟨k, hk, h', tk', m', news', rfl, F, N, hJ⟩
def NextC (w : World) (A : Around) (h₀ : Heap) (env : Env) (x : Str) (body : List Stmt) (Q : Flow → Shared → Prop) (E : Value → Shared → Prop) (J : Nat → (Str → Option Value) → List (Addr × Obj) → Prop) (s : Shared) (n : Nat) (m : Str → Option Value) (o : Option Value) (s₁ : Shared) : Prop :=
 match o with
 | none => Q .next s₁
 | some v => ∃ h1 tk1 news1, s₁ = { s with heap := h1, toks := tk1 } ∧ Fr h₀ env.locals h1 m ∧ News h₀ env.locals h1 news1 ∧
  ∀ h2 tk2, Fr h₀ env.locals h2 (fun y => if y = x then some v else m y) → News h₀ env.locals h2 news1 → wpAny (model Challenge.rw_to0089_01.prog w) A (execs body env) (TurnC h₀ env.locals Q J s n) E { s with heap := h2, toks := tk2 }
def ForC (w : World) (A : Around) (h₀ : Heap) (env : Env) (x : Str) (body : List Stmt) (Q : Flow → Shared → Prop) (E : Value → Shared → Prop) (J : Nat → (Str → Option Value) → List (Addr × Obj) → Prop) (n : Nat) (I : Addr) (xv : Value) (s : Shared) : Prop :=
 xv = .ref I ∧ (∃ f sent b, s.heap.get? I = some (citO f sent b)) ∧ InvC h₀ env.locals J s n s ∧
 ∀ n m news h tk, Fr h₀ env.locals h m → News h₀ env.locals h news → J n m news → wpAny (model Challenge.rw_to0089_01.prog w) A (pyNext (.ref I)) (NextC w A h₀ env x body Q E J s n m) E { s with heap := h, toks := tk }
theorem for_cit {mF : Str → Option Value} (_F₀ : Fr h₀ env.locals s.heap mF) (J : Nat → (Str → Option Value) → List (Addr × Obj) → Prop) (n : Nat) (I : Addr) (hx : env.kindOf x = some .local) (hp : (env.scope.kind == .class || (env.scope.kind == .module && env.locals != env.globals)) = false)
   (h : wpAny (model Challenge.rw_to0089_01.prog w) A (eval iter env) (ForC w A h₀ env x body Q E J n I) E s)
   (hs : ∀ x, foldedSetIterable iter env x = pure x := by intros _; rfl)
   (hE : PassesOwn (model Challenge.rw_to0089_01.prog w) A env E := by passes_own) :
   wpAny (model Challenge.rw_to0089_01.prog w) A (exec (.For (.Name x px) iter body [] pos) env) Q E s := by
 fail "mk.a"
 case zl =>
  revert _F₀ hx hp h hs hE
  revert w A E s h₀ env x px iter body pos Q mF J n I
  intro w A E s h₀ env x px iter body pos Q mF J n I _F₀ hx hp h hs hE
  refine wpAny_For (wpAny_mono h (fun xv s₁ h₁ => ?_) fun _ _ e => e) hs
  injections xv s₁ h₁
  rcases h₁ with ⟨rfl, pz2⟩
  rcases pz2 with ⟨pz4, pz3⟩
  obtain ⟨f, sent, b, hit⟩ := pz4
  obtain ⟨hI, turn⟩ := pz3
  refine pyIter_cit hit ?_
  refine codeAny_forLoop (InvC h₀ env.locals J s₁) (fun n s' hI => ?_) n hI
  injections n s' hI
  obtain ⟨h', tk', m', news', pz6⟩ := hI
  rcases pz6 with ⟨rfl, pz7⟩
  obtain ⟨F, N, hJ⟩ := pz7
  refine wpAny_mono (wpAny_passesOwn hE (turn n m' news' h' tk' F N hJ)) (fun o s₂ h₂ => ?_) fun _ _ e => e
  injections o s₂ h₂
  cases o with
  | none => exact wpAny_execs_nil h₂
  | some v =>
    obtain ⟨h1, tk1, news1, pz9⟩ := h₂
    rcases pz9 with ⟨rfl, pz10⟩
    obtain ⟨F1, N1, body⟩ := pz10
    refine wpAny_assign_Name (wpAny_storeName_local hx F1.ns (fun h₂ hn₂ hs₂ => ?_) hp)
    injections h₂ hn₂ hs₂
    have F₂ := F1.set hn₂ hs₂
    have N₂ := N1.set hs₂
    refine wpAny_mono (wpAny_passesOwn hE (body h₂ (tk1 + 1) F₂ N₂)) (fun f s₃ h₃ => ?_) fun _ _ e => e
    injections f s₃ h₃
    cases f <;> exact h₃
 fail "mk.b"
end
end
section
theorem fn_at (P : Params) : ∃ o fn, (K0.heap_1 P).lookup 196 = some o ∧ o.data = .func fn := ⟨_, _, rfl, rfl⟩
theorem nx_front {h₀ h : Heap} {L : Addr} {i q a b c d e g : Addr × Obj} {r : List (Addr × Obj)} (N : News h₀ L h (i :: q :: a :: b :: c :: d :: e :: g :: r)) : News h₀ L h (a :: b :: c :: d :: e :: g :: i :: q :: r) := by
 intros q hq
 refine N q ?_
 simp only [List.mem_cons] at hq ⊢
 rcases hq with h | h | h | h | h | h | h | h | h <;> simp [h]
theorem nx_back {h₀ h : Heap} {L : Addr} {i q a b c d e g : Addr × Obj} {r : List (Addr × Obj)} (N : News h₀ L h (a :: b :: c :: d :: e :: g :: i :: q :: r)) : News h₀ L h (i :: q :: a :: b :: c :: d :: e :: g :: r) := by
 intros q hq
 refine N q ?_
 simp only [List.mem_cons] at hq ⊢
 rcases hq with h | h | h | h | h | h | h | h | h <;> simp [h]
theorem nextc_spec (hfill : PR = PR) (B : Below A₀ base outer h₀) (F : Fr h₀ L s.heap m) (X : (K0.heap_1 w.params).In h₀) (T : Top p loose mean mg mb h₀) (hk : cs.kind = .function) (hd : dp + 7 < recursionLimit) (hu : un + 110 < cLine) {R : Option Value → Shared → Prop}
  (x2 d2 l2 x1 d1 l1 f g I q : Addr) (tk2 tk1 : Nat → Tok) (tkr t : Tok) (ln : Int) (vs : Array Value) (n : Nat) (x : Str) (rest keep : List (Addr × Obj))
  (N : News h₀ L s.heap ((I, citO (.ref q) (.str (Str.ofString "") t) false) :: (q, methodObj (.ref 196) (.ref x2)) :: (x2, instObj 213 d2) :: (d2, dictOf (lexEs w.params tk2 ln (.ref x1) l2) 4) :: (l2, listOf #[] 0) :: (x1, instObj 213 d1) :: (d1, dictOf (d1Es w.params tk1 l1 tkr f) 5) :: (g, listOf vs n) :: rest))
  (hP : PieceOk w x f g keep) (hF : FnIn f keep) (hkp : ∀ q ∈ keep, q ∈ rest) (hap : ∀ q ∈ rest, q.1 ≠ g) (hap2 : ∀ q ∈ rest, q.1 ≠ d2) (hapI : ∀ q ∈ rest, q.1 ≠ I) (o1 : @LT.lt Nat _ d1 x1) (o2 : @LT.lt Nat _ x1 g) (o3 : @LT.lt Nat _ g d2) (o4 : @LT.lt Nat _ d2 x2) (o5 : @LT.lt Nat _ x2 l2)
  (o6 : @LT.lt Nat _ l2 q) (o7 : @LT.lt Nat _ q I)
  (hx : x.length ≤ 3000) (hvs : vs.size ≤ x.length)
  (hitem : ∀ c h' tk' n' t' vs' tk2', x.cps[vs.size]? = some c → Fr h₀ L h' m →
   News h₀ L h' ((I, citO (.ref q) (.str (Str.ofString "") t) false) :: (q, methodObj (.ref 196) (.ref x2)) :: (x2, instObj 213 d2) :: (d2, dictOf (lexEs w.params tk2' (nlC c ln) (.ref x1) l2) 4) :: (l2, listOf #[] 0) :: (x1, instObj 213 d1) :: (d1, dictOf (d1Es w.params tk1 l1 tkr f) 5) :: (g, listOf vs' n') :: rest) →
   vs'.size = vs.size + 1 → R (some (.str ⟨#[c]⟩ t')) { s with heap := h', toks := tk' })
  (hend : ∀ h' tk' n' vs' tk2', vs.size = x.length → Fr h₀ L h' m →
   News h₀ L h' ((I, citO .none .none true) :: (q, methodObj (.ref 196) (.ref x2)) :: (x2, instObj 213 d2) :: (d2, dictOf (lexEs w.params tk2' ln (.ref x1) l2) 4) :: (l2, listOf #[] 0) :: (x1, instObj 213 d1) :: (d1, dictOf (d1Es w.params tk1 l1 tkr f) 5) :: (g, listOf vs' n') :: rest) →
   vs'.size = x.length → R none { s with heap := h', toks := tk' }) :
  wpAny (model Challenge.rw_to0089_01.prog w) (ktrTop dp un gd cn cs L a ccd cl outer) (pyNext (.ref I)) R E s := by
 rcases fn_at w.params with ⟨o, fn, ho, hd⟩
 have hn := N (I, citO (.ref q) (.str (Str.ofString "") t) false) (.head _)
 refine pyNext_cit (f := 196) (x := .ref x2) (o := o) (fn := fn) rfl hn.1 (N (q, methodObj (.ref 196) (.ref x2)) (.tail _ (.head _))).1 (F.keep _ _ (X _ _ ho)) hd ?_
 refine wpAny_call (ks_codeAny_call_bound (N (q, methodObj (.ref 196) (.ref x2)) (.tail _ (.head _))).1 ?_)
 have N2 := nx_front N
 have hapI' : ∀ q ∈ rest, q.1 ≠ I := hapI
 have hne : ∀ (y : Nat), @LT.lt Nat _ y q → (∀ r ∈ rest, r.1 ≠ y) → ∀ r ∈ (I, citO (.ref q) (.str (Str.ofString "") t) false) :: (q, methodObj (.ref 196) (.ref x2)) :: rest, r.1 ≠ y := fun y hy h r hr => by
  rcases List.mem_cons.mp hr with rfl | hr
  ·exact Nat.ne_of_gt (Nat.lt_trans hy o7)
  rcases List.mem_cons.mp hr with rfl | hr
  ·exact Nat.ne_of_gt hy
  ·exact h r hr
 refine readc_code (dp := dp) (un := un + 1) hfill B F X T hk (by omega) (by omega) x2 d2 l2 x1 d1 l1 f g tk2 tk1 tkr ln vs n x ((I, citO (.ref q) (.str (Str.ofString "") t) false) :: (q, methodObj (.ref 196) (.ref x2)) :: rest) keep N2 hP hF (fun r hr => .tail _ (.tail _ (hkp r hr))) (hne g (by omega) hap) (hne d2 (by omega) hap2) o1 o2 o3 o4 o5 hx hvs ?_
 intros h' tk' n' t' vs' tk2' F' N' hz
 have N3 := nx_back N'
 refine ⟨(N3 _ (.head _)).1, (N3 _ (.tail _ (.head _))).1, F'.keep _ _ (X _ _ ho), _, _, rfl, fun hn1 => ?_, fun he h2 hb hI => ?_⟩
 ·have hlt : vs.size < x.length := by
   rcases Nat.lt_or_eq_of_le hvs with h | h
   ·exact h
   ·exact absurd (by rw [h, pcS_end]; rfl) hn1
  rw [pcS_lt x hlt] at N3 ⊢
  refine hitem _ h' tk' n' t' vs' tk2' (Array.getElem?_eq_getElem hlt) F' ?_ (by omega)
  have e : (if (⟨#[x.cps[vs.size]'hlt]⟩ : Str) = Str.ofString "\n" then ln + 1 else ln) = nlC (x.cps[vs.size]'hlt) ln := by
   unfold nlC
   have : ((⟨#[x.cps[vs.size]'hlt]⟩ : Str) = Str.ofString "\n") ↔ x.cps[vs.size]'hlt = 10 := by
    rw [show Str.ofString "\n" = ⟨#[10]⟩ by decide]
    simp
   by_cases hc : x.cps[vs.size]'hlt = 10
   ·rw [if_pos (this.mpr hc), if_pos hc]
   ·rw [if_neg (fun h => hc (this.mp h)), if_neg hc]
  rw [e] at N3
  exact N3
 ·have hend' : vs.size = x.length := by
   rcases Nat.lt_or_eq_of_le hvs with h | h
   ·rw [pcS_lt x h] at he
    exact absurd (congrArg (fun s : Str => s.cps.size) he) (by show ¬ (1 = 0); decide)
   ·exact h
  rw [hend', pcS_end] at N3
  have N4 : News h₀ L h' ((I, citO (.ref q) (.str (Str.ofString "") t) false) :: (q, methodObj (.ref 196) (.ref x2)) :: (x2, instObj 213 d2) :: (d2, dictOf (lexEs w.params tk2' ln (.ref x1) l2) 4) :: (l2, listOf #[] 0) :: (x1, instObj 213 d1) :: (d1, dictOf (d1Es w.params tk1 l1 tkr f) 5) :: (g, listOf vs' n') :: rest) := N3
  have hIL := N4 _ (.head _)
  refine hend h2 tk' n' vs' tk2' hend' ⟨F'.ns.at' fun o e => hb _ o (Ne.symm hIL.2.1) e, fun b o e => hb b o (fun q => by rw [q, hIL.2.2] at e; cases e) (F'.keep b o e), F'.above⟩ ?_ (by omega)
  intros r hr
  rcases List.mem_cons.mp hr with rfl | hr
  ·exact ⟨hI, hIL.2⟩
  ·have hr' := N4 r (.tail _ hr)
   refine ⟨hb _ _ ?_ hr'.1, hr'.2⟩
   simp only [List.mem_cons] at hr
   rcases hr with rfl | rfl | rfl | rfl | rfl | rfl | rfl | hr
   ·exact Nat.ne_of_lt o7
   ·exact Nat.ne_of_lt (show @LT.lt Nat _ x2 I by omega)
   ·exact Nat.ne_of_lt (show @LT.lt Nat _ d2 I by omega)
   ·exact Nat.ne_of_lt (show @LT.lt Nat _ l2 I by omega)
   ·exact Nat.ne_of_lt (show @LT.lt Nat _ x1 I by omega)
   ·exact Nat.ne_of_lt (show @LT.lt Nat _ d1 I by omega)
   ·exact Nat.ne_of_lt (show @LT.lt Nat _ g I by omega)
   ·exact hapI r hr
end
section
section
variable {w : World} {A : Around} {E : Value → Shared → Prop} {s : Shared} {h₀ : Heap} {env : Env}
def TurnWh (h₀ : Heap) (L : Addr) (Q : Flow → Shared → Prop) (J : Nat → (Str → Option Value) → List (Addr × Obj) → Array GenState → Prop) (k : Nat) (s : Shared) (f : Flow) (s₃ : Shared) : Prop :=
 match f with
 | .next | .cont => ∃ k' h' tk' g' m' news', k' < k ∧ s₃ = { s with heap := h', toks := tk', gens := g' } ∧ Fr h₀ L h' m' ∧ News h₀ L h' news' ∧ J k' m' news' g'
 | .brk => Q .next s₃
 | .ret v => Q (.ret v) s₃
theorem TurnWh.intro {L : Addr} {Q : Flow → Shared → Prop} {J : Nat → (Str → Option Value) → List (Addr × Obj) → Array GenState → Prop} {k k' : Nat} {h' : Heap} {tk' : Nat} {g' : Array GenState} {m' : Str → Option Value} {news' : List (Addr × Obj)}
 (hk : k' < k) (F : Fr h₀ L h' m') (N : News h₀ L h' news') (hJ : J k' m' news' g') : TurnWh h₀ L Q J k s .next { s with heap := h', toks := tk', gens := g' } := ⟨k', h', tk', g', m', news', hk, rfl, F, N, hJ⟩
def WhT (w : World) (A : Around) (h₀ : Heap) (env : Env) (Q : Flow → Shared → Prop) (E : Value → Shared → Prop) (body : List Stmt) (J : Nat → (Str → Option Value) → List (Addr × Obj) → Array GenState → Prop) (k : Nat) (s : Shared) (b : Bool) (s₂ : Shared) : Prop :=
 if b = true then wpAny (model Challenge.rw_to0089_01.prog w) A (execs body env) (TurnWh h₀ env.locals Q J k s) E s₂ else Q .next s₂
theorem while1 {test : PySem.Expr} {body : List Stmt} {pos : Pos} {Q : Flow → Shared → Prop} {m : Str → Option Value} {news : List (Addr × Obj)}
   (J : Nat → (Str → Option Value) → List (Addr × Obj) → Array GenState → Prop) (n : Nat) (F : Fr h₀ env.locals s.heap m) (N : News h₀ env.locals s.heap news) (hJ : J n m news s.gens)
   (turn : ∀ k m₁ news₁ h tk g, J k m₁ news₁ g → Fr h₀ env.locals h m₁ → News h₀ env.locals h news₁ →
     wpAny (model Challenge.rw_to0089_01.prog w) A (isTrue test env (eval test env)) (WhT w A h₀ env Q E body J k s) E { s with heap := h, toks := tk, gens := g })
   (hE : PassesOwn (model Challenge.rw_to0089_01.prog w) A env E := by passes_own) :
   wpAny (model Challenge.rw_to0089_01.prog w) A (exec (.While test body [] pos) env) Q E s := by
 fail "mk.a"
 case zl =>
  revert F N hJ turn hE
  revert w A E s h₀ env test body pos Q m news J n
  intro w A E s h₀ env test body pos Q m news J n F N hJ turn hE
  refine wpAny_While (codeAny_whileLoop (fun k s' => ∃ h' tk g m' news', s' = { s with heap := h', toks := tk, gens := g } ∧ Fr h₀ env.locals h' m' ∧ News h₀ env.locals h' news' ∧ J k m' news' g) ?_ n ⟨s.heap, s.toks, s.gens, m, news, rfl, F, N, hJ⟩)
  intro k s' pz1
  obtain ⟨h', tk, g, m', news', pz2⟩ := pz1
  rcases pz2 with ⟨rfl, pz3⟩
  obtain ⟨F', N', hJ'⟩ := pz3
  refine wpAny_mono (wpAny_passesOwn hE (turn k m' news' h' tk g hJ' F' N')) (fun b s₂ hb => ?_) fun _ _ e => e
  injections b s₂ hb
  unfold WhT at hb
  cases b with
  | true =>
    rw [if_pos rfl] at hb ⊢
    refine wpAny_mono (wpAny_passesOwn hE hb) (fun f s₃ h₃ => ?_) fun _ _ e => e
    injections f s₃ h₃
    cases f with
    | next => obtain ⟨k', h1, tk1, g1, m1, n1, hk, e, F1, N1, J1⟩ := h₃; exact ⟨k', hk, h1, tk1, g1, m1, n1, e, F1, N1, J1⟩
    | cont => obtain ⟨k', h1, tk1, g1, m1, n1, hk, e, F1, N1, J1⟩ := h₃; exact ⟨k', hk, h1, tk1, g1, m1, n1, e, F1, N1, J1⟩
    | brk => exact h₃
    | ret v => exact h₃
  | false =>
    rw [if_neg Bool.false_ne_true] at hb ⊢
    exact wpAny_execs_nil hb
 fail "mk.b"
end
end
section
theorem fr_name {h₀ h : Heap} {L : Addr} {m : Str → Option Value} (_F : Fr h₀ L h m) : ∃ m', m' = m := ⟨m, rfl⟩
theorem strip_spec (hfill : PR = PR) (B : Below A₀ base outer h₀) (F : Fr h₀ L s.heap m) (X : (K0.heap_1 w.params).In h₀) (T : Top p loose mean mg mb h₀) (hk : cs.kind = .function) (hd : dp + 4 < recursionLimit) (hu : un + 60 < cLine)
   (x : Str) (t t2 : Tok) (A : Int) (b : Nat) (news : List (Addr × Obj)) (N : News h₀ L s.heap news) (hA : 0 ≤ A ∧ A ≤ 1000) (hx : x.length ≤ 100000) (hbx : b < x.length)
   (hb : ∀ i : Nat, i < b → Txt.item x (i : Int) = Str.ofString " ") (hnb : ¬ Txt.item x (b : Int) = Str.ofString " ") (hlast : ¬ Txt.item x ((x.length : Int) - 1) = Str.ofString " ")
   (hret : ∀ (i : Nat) h' tk' t', i = min b A.toNat → Fr h₀ L h' m → News h₀ L h' news → Q (.str (Txt.slice x (some (i : Int)) (some ((x.length : Int) - 1 + 1))) t') { s with heap := h', toks := tk' })
   :
   wpAny (model Challenge.rw_to0089_01.prog w) (ktrTop dp un gd cn cs L a ccd cl outer) (call (.ref 175) [.str x t, .int A t2]) Q E s := by
 fail "mk.a"
 case zl =>
  revert hfill B F X T hk hd hu N hA hx hbx hb hnb hlast hret
  revert w p loose mean mg mb dp un gd cn cs a ccd cl outer A₀ base h₀ L m s Q E x t t2 A b news
  intro w p loose mean mg mb dp un gd cn cs a ccd cl outer A₀ base h₀ L m s Q E x t t2 A b news hfill B F X T hk hd hu N hA hx hbx hb hnb hlast hret
  revert X; k_fill; intro X; refine wpAny_call ?_; first | k_dflt (fail "my.enter") | fail
  (repeat' first | (fail "g17"; (refine stop_of ?_)) | fail "k1")
  unfold Stop
  rename Fr _ _ _ _ => F1
  obtain ⟨mL, eL⟩ := fr_name F1
  k_dflt (refine' while1 (fun k m₁ nw g => g = s.gens ∧ nw = news ∧ ∃ (i : Nat), k = A.toNat - i ∧ i ≤ b ∧ (i : Int) ≤ A ∧ (∃ ta, m₁ (Str.ofString "amount") = some (.int (A - i) ta)) ∧ (∃ tl, m₁ (Str.ofString "lpos") = some (.int i tl)) ∧ ∀ y, y ≠ Str.ofString "amount" → y ≠ Str.ofString "lpos" → m₁ y = mL y) A.toNat F1 ?N ?J ?turn)
  case N => k_asm
  case J =>
    refine ⟨rfl, rfl, 0, by omega, by omega, by omega, ?_, ?_, fun y _ _ => by rw [eL]⟩
    ·rw [show A - ((0 : Nat) : Int) = A by omega]
     exact ⟨_, rfl⟩
    ·exact ⟨_, rfl⟩
  case turn =>
    intro k m₁ nw h4 tk4 g4 pz1
    rcases pz1 with ⟨rfl, pz2⟩
    rcases pz2 with ⟨rfl, pz3⟩
    obtain ⟨i, pz4⟩ := pz3
    rcases pz4 with ⟨rfl, pz5⟩
    obtain ⟨hib, hiA, pz6⟩ := pz5
    rcases pz6 with ⟨pz8, pz7⟩
    obtain ⟨ta, hma⟩ := pz8
    rcases pz7 with ⟨pz10, pz9⟩
    obtain ⟨tl, hml⟩ := pz10
    have hmo := pz9
    clear pz9
    intro F4 N4
    have em : m₁ = fun y => if y = Str.ofString "amount" then some (.int (A - i) ta) else if y = Str.ofString "lpos" then some (.int i tl) else mL y := by
     funext y
     by_cases h1 : y = Str.ofString "amount"
     ·rw [if_pos h1, h1]; exact hma
     ·rw [if_neg h1]
      by_cases h2 : y = Str.ofString "lpos"
      ·rw [if_pos h2, h2]; exact hml
      ·rw [if_neg h2]; exact hmo y h1 h2
    clear hma hml hmo
    subst em
    subst eL
    have hidx : (i : Int) < x.length := by omega
    (repeat' first | ((with_reducible show WhT ..); (refine stop_of ?_)) | fail "k1")
    ·unfold Stop WhT
     rw [if_pos rfl]
     have hib2 : i ≠ b := by
      intro h
      subst h
      simp_all
     (repeat' first | ((with_reducible show TurnWh ..); (refine stop_of ?_)) | fail "k1")
     unfold Stop
     refine TurnWh.intro (k' := A.toNat - (i + 1)) (st1 hiA (by assumption)) (by k_asm) (by k_asm) ⟨rfl, rfl, i + 1, rfl, by omega, st4 hiA (by assumption), ?_, ?_, fun y h1 h2 => ?_⟩
     injections y h1 h2
     ·rw [show A - ((i + 1 : Nat) : Int) = A - i - 1 by omega]
      exact ⟨_, rfl⟩
     ·rw [show ((i + 1 : Nat) : Int) = (i : Int) + 1 by omega]
      exact ⟨_, rfl⟩
     ·simp only [if_neg h1, if_neg h2]
    ·unfold Stop WhT
     rw [if_neg Bool.false_ne_true]
     have hib2 : i = b := by
      rcases Nat.lt_or_ge i b with h | h
      ·have := hb i h
       simp_all
      ·omega
     dsimp only
     (repeat' first | (fail "g17"; (refine stop_of ?_)) | fail "k1")
     unfold Stop
     rename Fr _ _ _ _ => F2
     obtain ⟨mR, eR⟩ := fr_name F2
     k_dflt (refine' while1 (fun k m₁ nw' g => k = 0 ∧ g = s.gens ∧ nw' = nw ∧ m₁ = mR) 0 F2 ?N2 ?J2 ?turn2)
     case N2 => k_asm
     case J2 => exact ⟨rfl, rfl, rfl, eR.symm⟩
     case turn2 =>
      intro k5 m5 nw5 h5 tk5 g5 pz11
      rcases pz11 with ⟨rfl, pz12⟩
      rcases pz12 with ⟨rfl, pz13⟩
      rcases pz13 with ⟨rfl, pz14⟩
      rcases pz14 with rfl
      intro F5 N5
      subst eR
      (repeat' first | ((with_reducible show WhT ..); (refine stop_of ?_)) | fail "k1")
      all_goals (unfold Stop WhT)
      all_goals first
       | (rw [if_neg Bool.false_ne_true]; dsimp only; k_steps; exact hret i _ _ _ (st2 hiA hib2) (by k_asm) (by fail "my.news"))
       | (exfalso; omega)
       | (exfalso; simp_all)
    ·unfold Stop WhT
     rw [if_neg Bool.false_ne_true]
     dsimp only
     (repeat' first | (fail "g17"; (refine stop_of ?_)) | fail "k1")
     unfold Stop
     rename Fr _ _ _ _ => F2
     obtain ⟨mR, eR⟩ := fr_name F2
     k_dflt (refine' while1 (fun k m₁ nw' g => k = 0 ∧ g = s.gens ∧ nw' = nw ∧ m₁ = mR) 0 F2 ?N2 ?J2 ?turn2)
     case N2 => k_asm
     case J2 => exact ⟨rfl, rfl, rfl, eR.symm⟩
     case turn2 =>
      intro k5 m5 nw5 h5 tk5 g5 pz15
      rcases pz15 with ⟨rfl, pz16⟩
      rcases pz16 with ⟨rfl, pz17⟩
      rcases pz17 with ⟨rfl, pz18⟩
      rcases pz18 with rfl
      intro F5 N5
      subst eR
      (repeat' first | ((with_reducible show WhT ..); (refine stop_of ?_)) | fail "k1")
      all_goals (unfold Stop WhT)
      all_goals first
       | (rw [if_neg Bool.false_ne_true]; dsimp only; k_steps; exact hret i _ _ _ (st3 hib (by assumption)) (by k_asm) (by fail "my.news"))
       | (exfalso; omega)
       | (exfalso; simp_all)
 fail "mk.b"
end
section
local macro_rules | `(tactic| k_steps) => dy "w8" #[]
theorem lx_two {h₀ h : Heap} {L : Addr} {i q : Addr × Obj} {r : List (Addr × Obj)} (N : News h₀ L h (i :: q :: r)) : News h₀ L h r := fun a b => N a (.tail _ (.tail _ b))
theorem fr_keepAll {h₀ h h' : Heap} {L : Addr} {m : Str → Option Value} (F : Fr h₀ L h m) (hk : ∀ b o, h.get? b = some o → h'.get? b = some o) : Fr h₀ L h' m := ⟨F.ns.at' fun o e => hk _ o e, fun b o e => hk b o (F.keep b o e), F.above⟩
theorem news_keepAll {h₀ h h' : Heap} {L : Addr} {news : List (Addr × Obj)} (N : News h₀ L h news) (hk : ∀ b o, h.get? b = some o → h'.get? b = some o) : News h₀ L h' news := fun q hq => ⟨hk _ _ (N q hq).1, (N q hq).2⟩
theorem tok_ask {h₀ h : Heap} {L I q : Addr} {z : Str} {t0 : Tok} {o2 : Obj} {news : List (Addr × Obj)} {R : Prop} (N : News h₀ L h ((I, citO (.ref q) (.str z t0) false) :: (q, o2) :: news)) (k : ∀ I' q' t', I' = I → q' = q → t' = t0 → R) : R := k _ _ _ rfl rfl rfl
noncomputable abbrev lx8 (P : Params) (o : Obj) (I q x2 d2 l2 x1 d1 l1 f g : Addr) (tk1 : Nat → Tok) (tkr : Tok) (rest : List (Addr × Obj)) (tk2 : Nat → Tok) (ln : Int) (vs : Array Value) (n : Nat) : List (Addr × Obj) :=
 (I, o) :: (q, methodObj (.ref 196) (.ref x2)) :: (x2, instObj 213 d2) :: (d2, dictOf (lexEs P tk2 ln (.ref x1) l2) 4) :: (l2, listOf #[] 0) :: (x1, instObj 213 d1) :: (d1, dictOf (d1Es P tk1 l1 tkr f) 5) :: (g, listOf vs n) :: rest
local macro_rules | `(tactic| walk_at "exec For Name Name cons nil") => dy "w9" #[]
local macro_rules | `(tactic| walk_at "ForC") => dy "w6" #[]
local macro_rules | `(tactic| walk_at "TurnC") => dy "w6" #[]
local macro_rules | `(tactic| walk_at "call builtin:iter") => dy "w10" #[]
theorem token_spec (hfill : PR = PR) (B : Below A₀ base outer h₀) (F : Fr h₀ L s.heap m) (X : (K0.heap_1 w.params).In h₀) (T : Top p loose mean mg mb h₀) (hk : cs.kind = .function) (hd : dp + 8 < recursionLimit) (hu : un + 150 < cLine)
   (x2 d2 l2 x1 d1 l1 f g : Addr) (tk2 tk1 : Nat → Tok) (tkr : Tok) (ln : Int) (vs : Array Value) (n : Nat) (x : Str) (rest keep : List (Addr × Obj))
   (N : News h₀ L s.heap ((x2, instObj 213 d2) :: (d2, dictOf (lexEs w.params tk2 ln (.ref x1) l2) 4) :: (l2, listOf #[] 0) :: (x1, instObj 213 d1) :: (d1, dictOf (d1Es w.params tk1 l1 tkr f) 5) :: (g, listOf vs n) :: rest))
   (hP : PieceOk w x f g keep) (hF : FnIn f keep) (hkp : ∀ q ∈ keep, q ∈ rest) (hap : ∀ q ∈ rest, q.1 ≠ g) (hap2 : ∀ q ∈ rest, q.1 ≠ d2) (o1 : @LT.lt Nat _ d1 x1) (o2 : @LT.lt Nat _ x1 g) (o3 : @LT.lt Nat _ g d2) (o4 : @LT.lt Nat _ d2 x2) (o5 : @LT.lt Nat _ x2 l2)
   (hx : x.length ≤ 3000) (hvs : vs.size ≤ x.length) (hnq : ∀ c ∈ x.cps.toList, c ≠ 34 ∧ c ≠ 92)
   (hret : ∀ h' tk' n' t' vs' tk2', Fr h₀ L h' m →
     News h₀ L h' ((x2, instObj 213 d2) :: (d2, dictOf (lexEs w.params tk2' (tokA (x.cps.toList.drop vs.size) ln).2.2 (.ref x1) l2) 4) :: (l2, listOf #[] 0) :: (x1, instObj 213 d1) :: (d1, dictOf (d1Es w.params tk1 l1 tkr f) 5) :: (g, listOf vs' n') :: rest) →
     vs'.size ≤ x.length → x.cps.toList.drop vs'.size = (tokA (x.cps.toList.drop vs.size) ln).2.1 → Q (.str ⟨(tokA (x.cps.toList.drop vs.size) ln).1.toArray⟩ t') { s with heap := h', toks := tk' }) :
   wpAny (model Challenge.rw_to0089_01.prog w) (ktrTop dp un gd cn cs L a ccd cl outer) (call (.ref 203) [.ref x2]) Q E s := by
 fail "mk.a"
 case zl =>
  revert hfill B F X T hk hd hu N hP hF hkp hap hap2 o1 o2 o3 o4 o5 hx hvs hnq hret
  revert w p loose mean mg mb dp un gd cn cs a ccd cl outer A₀ base h₀ L m s Q E x2 d2 l2 x1 d1 l1 f g tk2 tk1 tkr ln vs n x rest keep
  intro w p loose mean mg mb dp un gd cn cs a ccd cl outer A₀ base h₀ L m s Q E x2 d2 l2 x1 d1 l1 f g tk2 tk1 tkr ln vs n x rest keep hfill B F X T hk hd hu N hP hF hkp hap hap2 o1 o2 o3 o4 o5 hx hvs hnq hret
  dsimp only [d1Es, lexEs, List.cons_append, List.nil_append] at N
  revert X; k_fill; intro X; refine wpAny_call ?_; first | k_dflt (fail "my.enter") | fail
  k_steps
  unfold Stop
  rename News _ _ _ _ => N9
  rename Fr _ _ _ _ => F9
  refine tok_ask N9 fun I q t0 e1 e2 e3 => ?_
  injections I q t0 e1 e2 e3
  subst e1 e2
  have oo : @LT.lt Nat _ l2 q ∧ @LT.lt Nat _ q I := by omega
  have hrI : ∀ r ∈ rest, r.1 ≠ I := by
    have hA : AllLt I rest := by
      rename _ ∧ _ ∧ _ ∧ _ ∧ _ ∧ _ ∧ _ ∧ AllLt I rest => hA0
      exact hA0.2.2.2.2.2.2.2
    exact fun r hr => Nat.ne_of_lt (allLt_mem hA r hr)
  obtain ⟨oq, oI⟩ := oo
  obtain ⟨mL, eL⟩ := fr_name F9
  generalize hR : tokA (x.cps.toList.drop vs.size) ln = R at hret
  k_dflt (refine' for_cit F9 (fun k m₁ nw => (∀ y, y ≠ Str.ofString "token" → y ≠ Str.ofString "ch" → m₁ y = mL y) ∧ ∃ vs' n' ln' tk' tt,
      (k = x.length + 2 - vs'.size ∧ vs'.size ≤ x.length ∧ m₁ (Str.ofString "token") = some (.str (Str.ofString "") tt) ∧ tokA (x.cps.toList.drop vs'.size) ln' = R ∧ nw = lx8 w.params (citO (.ref q) (.str (Str.ofString "") t0) false) I q x2 d2 l2 x1 d1 l1 f g tk1 tkr rest tk' ln' vs' n') ∨
      (k = 1 ∧ vs'.size = x.length ∧ m₁ (Str.ofString "token") = some (.str ⟨R.1.toArray⟩ tt) ∧ R.2.1 = [] ∧ R.2.2 = ln' ∧ nw = lx8 w.params (citO .none .none true) I q x2 d2 l2 x1 d1 l1 f g tk1 tkr rest tk' ln' vs' n')) (x.length + 2 - vs.size) I ?hx ?hp ?h)
  case hx => rfl
  case hp => rfl
  case h =>
    k_steps
    unfold Stop ForC
    rw [← e3] at N9
    dsimp only
    refine ⟨rfl, ⟨_, _, _, (N9 _ (.head _)).1⟩, ⟨_, _, _, _, rfl, by k_asm, by k_asm, fun y _ _ => by rw [eL], vs, _, ln, _, _, .inl ⟨rfl, hvs, by rfl, hR, rfl⟩⟩, ?_⟩
    clear N9 F9
    intro k m₁ nw h4 tk4 F4 N4 pz1
    obtain ⟨hmo, vs4, n4, ln4, tkz, tt, hJ⟩ := pz1
    rcases hJ with ⟨rfl, hv4, hmt, hR4, rfl⟩ | ⟨rfl, hv4, hmt, hr1, hr2, rfl⟩
    · have em : m₁ = fun y => if y = Str.ofString "token" then some (.str (Str.ofString "") tt) else if y = Str.ofString "ch" then m₁ (Str.ofString "ch") else mL y := by
       funext y
       by_cases h1 : y = Str.ofString "token"
       ·rw [if_pos h1, h1]; exact hmt
       ·rw [if_neg h1]
        by_cases h2 : y = Str.ofString "ch"
        ·rw [if_pos h2, h2]
        ·rw [if_neg h2]; exact hmo y h1 h2
      generalize m₁ (Str.ofString "ch") = uc at em
      clear hmo hmt
      subst em
      k_dflt (refine' nextc_spec rfl ?k1 ?k2 ?k3 ?k4 ?k5 ?k6 ?k7 x2 d2 l2 x1 d1 l1 f g I q tkz tk1 tkr t0 ln4 vs4 n4 x rest keep N4 hP hF hkp hap hap2 hrI o1 o2 o3 o4 o5 oq oI hx hv4 (fun c h5 tk5 n5 t5 vs5 tkw hc F5 N5 hz => ?item) (fun h5 tk5 n5 vs5 tkw hend F5 N5 hz => ?endc); (case k1 | k2 | k3 | k4 => k_asm); (case k5 => rfl); (case k6 => first | ktr_room | k_room); (case k7 => ktr_units))
      injections c h5 tk5 n5 t5 vs5 tkw hc F5 N5 hz
      injections h5 tk5 n5 vs5 tkw hend F5 N5 hz
      case item =>
       unfold NextC
       refine ⟨_, _, _, rfl, F5, N5, fun h6 tk6 F6 N6 => ?_⟩
       injections h6 tk6 F6 N6
       clear F4 N4 F5 N5
       dsimp only [d1Es, lexEs, List.cons_append, List.nil_append] at N6
       rw [eL] at F6
       have hcx : c ∈ x.cps.toList := by
        have hd := drop_at hc
        exact List.mem_of_mem_drop (hd ▸ List.mem_cons_self)
       have hcq := hnq c hcx
       k_steps
       all_goals first
        | (rename (_ == Str.ofString "\\") = true => hbad; exact absurd (bs_no hbad) hcq.2)
        | (rename (_ == Str.ofString "\"") = true => hbad; exact absurd (qt_no hbad) hcq.1)
        | skip
       ·rename (Builtin.Str.occurrences _ _ _ _ _).isEmpty = true => hoc
        rename News _ _ _ _ => N7
        rename Fr _ _ _ _ => F7
        have hw := ws_no hoc
        unfold Stop
        k_dflt (refine' for_cit F7 (fun k m₁ nw => (∀ y, y ≠ Str.ofString "token" → y ≠ Str.ofString "ch" → m₁ y = mL y) ∧ ∃ vs' n' ln' tk' tt acc,
          k = x.length + 2 - vs'.size ∧ vs'.size ≤ x.length ∧ acc.length ≤ vs'.size ∧ m₁ (Str.ofString "token") = some (.str ⟨acc.toArray⟩ tt) ∧ tokB acc (x.cps.toList.drop vs'.size) ln' = R ∧ nw = lx8 w.params (citO (.ref q) (.str (Str.ofString "") t0) false) I q x2 d2 l2 x1 d1 l1 f g tk1 tkr rest tk' ln' vs' n') (x.length + 2 - vs5.size) I ?hx2 ?hp2 ?h2)
        case hx2 => rfl
        case hp2 => rfl
        case h2 =>
         k_steps
         unfold Stop ForC
         dsimp only
         have hd := drop_at hc
         rw [hd] at hR4
         unfold tokA at hR4
         rw [if_neg (by rw [hw]; exact Bool.false_ne_true), ← hz] at hR4
         have hlt : vs4.size < x.length := by
          rcases Nat.lt_or_ge vs4.size x.length with h1 | h1
          ·exact h1
          ·rw [Array.getElem?_eq_none (by exact h1)] at hc
           cases hc
         have hnl : nlC c ln4 = ln4 := by
          unfold nlC
          rw [if_neg]
          intro h10
          rw [h10] at hw
          exact absurd hw (by decide)
         rw [hnl] at N7
         refine ⟨rfl, ⟨_, _, _, (N7 _ (.head _)).1⟩, ⟨_, _, _, _, rfl, by k_asm, N7, fun y h1 h2 => by simp only [if_neg h1, if_neg h2, eL], vs5, _, ln4, tkw, _, [c], rfl, by omega, by simp only [List.length_singleton]; omega, by rw [← str_nil_push]; rfl, hR4, rfl⟩, ?_⟩
         clear F6 N6 F7 N7 hR4 hc hd hcx hcq hoc hw hlt hnl
         intro k m₁ nw h7 tk7 F7 N7 pz2
         obtain ⟨hmo, vs6, n6, ln6, tky, tt2, acc, pz3⟩ := pz2
         rcases pz3 with ⟨rfl, pz4⟩
         obtain ⟨hv6, hacc, hmt, hR6, pz5⟩ := pz4
         rcases pz5 with rfl
         have em : m₁ = fun y => if y = Str.ofString "token" then some (.str ⟨acc.toArray⟩ tt2) else if y = Str.ofString "ch" then m₁ (Str.ofString "ch") else mL y := by
          funext y
          by_cases h1 : y = Str.ofString "token"
          ·rw [if_pos h1, h1]; exact hmt
          ·rw [if_neg h1]
           by_cases h2 : y = Str.ofString "ch"
           ·rw [if_pos h2, h2]
           ·rw [if_neg h2]; exact hmo y h1 h2
         generalize m₁ (Str.ofString "ch") = uc2 at em
         clear hmo hmt
         subst em
         k_dflt (refine' nextc_spec rfl ?k1 ?k2 ?k3 ?k4 ?k5 ?k6 ?k7 x2 d2 l2 x1 d1 l1 f g I q tky tk1 tkr t0 ln6 vs6 n6 x rest keep N7 hP hF hkp hap hap2 hrI o1 o2 o3 o4 o5 oq oI hx hv6 (fun c h5 tk5 n5 t5 vs5 tkw hc F5 N5 hz => ?item2) (fun h5 tk5 n5 vs5 tkw hend F5 N5 hz => ?endc2); (case k1 | k2 | k3 | k4 => k_asm); (case k5 => rfl); (case k6 => first | ktr_room | k_room); (case k7 => ktr_units))
         injections c h5 tk5 n5 t5 vs5 tkw hc F5 N5 hz
         injections h5 tk5 n5 vs5 tkw hend F5 N5 hz
         case item2 =>
          unfold NextC
          refine ⟨_, _, _, rfl, F5, N5, fun h6 tk6 F6 N6 => ?_⟩
          injections h6 tk6 F6 N6
          clear F7 N7 F5 N5
          dsimp only [d1Es, lexEs, List.cons_append, List.nil_append] at N6
          rw [eL] at F6
          have hd := drop_at hc
          have hcx : c ∈ x.cps.toList := List.mem_of_mem_drop (hd ▸ List.mem_cons_self)
          have hcq := hnq c hcx
          have hlt : vs6.size < x.length := by
           rcases Nat.lt_or_ge vs6.size x.length with h1 | h1
           ·exact h1
           ·rw [Array.getElem?_eq_none (by exact h1)] at hc
            cases hc
          have hsz : acc.length + 1 ≤ 3001 := by omega
          rw [hd] at hR6
          unfold tokB at hR6
          rw [← hz] at hR6
          k_steps
          all_goals first
           | (rename (_ == Str.ofString "\\") = true => hbad; exact absurd (bs_no hbad) hcq.2)
           | skip
          ·rename (Builtin.Str.occurrences _ _ _ _ _).isEmpty = true => hoc
           rename News _ _ _ _ => N7
           rename Fr _ _ _ _ => F7
           have hw := ws_no hoc
           have hnl : nlC c ln6 = ln6 := by
            unfold nlC
            rw [if_neg]
            intro h10
            rw [h10] at hw
            exact absurd hw (by decide)
           rw [hnl] at N7
           rw [if_neg (by rw [hw]; exact Bool.false_ne_true)] at hR6
           unfold Stop
           exact TurnC.intro (k := x.length + 2 - vs5.size) (by omega) F7 N7 ⟨fun y h1 h2 => by simp only [if_neg h1, if_neg h2, eL], vs5, _, ln6, tkw, _, acc ++ [c], rfl, by omega, by rw [List.length_append, List.length_singleton]; omega, by rw [← str_push]; rfl, hR6, rfl⟩
          ·rename (Builtin.Str.occurrences _ _ _ _ _).isEmpty = false => hoc
           have hw := ws_yes hoc
           rw [if_pos hw] at hR6
           unfold Stop
           try dsimp only
           k_steps
           unfold Stop
           dsimp only [TurnC]
           k_steps
           rename News h₀ L _ _ => N7
           subst hR6
           exact hret _ _ _ _ vs5 tkw (by k_asm) (lx_two N7) (by omega) rfl
         case endc2 =>
          unfold NextC
          clear F7 N7
          try dsimp only
          k_steps
          have hd : x.cps.toList.drop vs6.size = [] := by
           rw [hend]; exact List.drop_eq_nil_of_le (Nat.le_refl _)
          rw [hd] at hR6
          unfold tokB at hR6
          subst hR6
          rename News _ _ _ _ => N7
          rename Fr _ _ _ _ => F7
          unfold Stop
          exact TurnC.intro (k := 1) (by omega) F7 N7 ⟨fun y h1 h2 => by simp only [if_neg h1, if_neg h2, eL], vs5, _, _, tkw, _, .inr ⟨rfl, hz, rfl, rfl, rfl, rfl⟩⟩
       ·rename (Builtin.Str.occurrences _ _ _ _ _).isEmpty = false => hoc
        rename News _ _ _ _ => N7
        rename Fr _ _ _ _ => F7
        have hw := ws_yes hoc
        have hd := drop_at hc
        rw [hd] at hR4
        unfold tokA at hR4
        rw [if_pos hw, ← hz] at hR4
        have hlt : vs4.size < x.length := by
         rcases Nat.lt_or_ge vs4.size x.length with h1 | h1
         ·exact h1
         ·rw [Array.getElem?_eq_none (by exact h1)] at hc
          cases hc
        unfold Stop
        try dsimp only
        exact TurnC.cont (k := x.length + 2 - vs5.size) (by omega) F7 N7 ⟨fun y h1 h2 => by simp only [if_neg h1, if_neg h2, eL], vs5, _, _, tkw, _, .inl ⟨rfl, by omega, rfl, hR4, rfl⟩⟩
      case endc =>
       unfold NextC
       clear F4 N4
       rw [eL] at F5
       dsimp only
       k_steps
       have hd : x.cps.toList.drop vs4.size = [] := by
        rw [hend]; exact List.drop_eq_nil_of_le (Nat.le_refl _)
       rw [hd] at hR4
       unfold tokA at hR4
       subst hR4
       rename News _ _ _ _ => N7
       exact hret _ _ _ _ vs5 tkw (by k_asm) (lx_two N7) (by omega) (by rw [hz]; exact List.drop_eq_nil_of_le (Nat.le_refl _))
    · have em : m₁ = fun y => if y = Str.ofString "token" then some (.str ⟨R.1.toArray⟩ tt) else if y = Str.ofString "ch" then m₁ (Str.ofString "ch") else mL y := by
       funext y
       by_cases h1 : y = Str.ofString "token"
       ·rw [if_pos h1, h1]; exact hmt
       ·rw [if_neg h1]
        by_cases h2 : y = Str.ofString "ch"
        ·rw [if_pos h2, h2]
        ·rw [if_neg h2]; exact hmo y h1 h2
      generalize m₁ (Str.ofString "ch") = uc at em
      clear hmo hmt
      subst em
      k_dflt (refine' pyNext_over ?k1 ?k2 (fun h5 hk5 => ?k3); (case k1 => rfl); (case k2 => exact (N4 _ (.head _)).1))
      injections h5 hk5
      case k3 =>
       have F5 := fr_keepAll F4 hk5
       have N5 := news_keepAll N4 hk5
       clear F4 N4
       rw [eL] at F5
       unfold NextC
       dsimp only
       k_steps
       subst hr2
       rename News _ _ _ _ => N7
       exact hret _ _ _ _ vs4 tkz (by k_asm) (lx_two N7) (by omega) (by rw [hr1, hv4]; exact List.drop_eq_nil_of_le (Nat.le_refl _))
 fail "mk.b"
end
section
theorem one_ask {h₀ h : Heap} {L I : Addr} {o : Obj} {news : List (Addr × Obj)} {R : Prop} (N : News h₀ L h ((I, o) :: news)) (k : ∀ I', I' = I → R) : R := k _ rfl
theorem wd_front {h₀ h : Heap} {L : Addr} {i a b c d e g : Addr × Obj} {r : List (Addr × Obj)} (N : News h₀ L h (i :: a :: b :: c :: d :: e :: g :: r)) : News h₀ L h (a :: b :: c :: d :: e :: g :: i :: r) := by
 intros q hq
 refine N q ?_
 simp only [List.mem_cons] at hq ⊢
 rcases hq with h | h | h | h | h | h | h | h <;> simp [h]
theorem wd_back {h₀ h : Heap} {L : Addr} {i a b c d e g : Addr × Obj} {r : List (Addr × Obj)} (N : News h₀ L h (a :: b :: c :: d :: e :: g :: i :: r)) : News h₀ L h (i :: a :: b :: c :: d :: e :: g :: r) := by
 intros q hq
 refine N q ?_
 simp only [List.mem_cons] at hq ⊢
 rcases hq with h | h | h | h | h | h | h | h <;> simp [h]
theorem words_spec (hfill : PR = PR) (B : Below A₀ base outer h₀) (F : Fr h₀ L s.heap m) (X : (K0.heap_1 w.params).In h₀) (T : Top p loose mean mg mb h₀) (hk : cs.kind = .function) (hd : dp + 10 < recursionLimit) (hu : un + 200 < cLine)
   (x2 d2 l2 x1 d1 l1 f g : Addr) (tk2 tk1 : Nat → Tok) (tkr : Tok) (ln : Int) (vs : Array Value) (n : Nat) (x : Str) (rest keep : List (Addr × Obj))
   (N : News h₀ L s.heap ((x2, instObj 213 d2) :: (d2, dictOf (lexEs w.params tk2 ln (.ref x1) l2) 4) :: (l2, listOf #[] 0) :: (x1, instObj 213 d1) :: (d1, dictOf (d1Es w.params tk1 l1 tkr f) 5) :: (g, listOf vs n) :: rest))
   (hP : PieceOk w x f g keep) (hF : FnIn f keep) (hkp : ∀ q ∈ keep, q ∈ rest) (hap : ∀ q ∈ rest, q.1 ≠ g) (hap2 : ∀ q ∈ rest, q.1 ≠ d2) (o1 : @LT.lt Nat _ d1 x1) (o2 : @LT.lt Nat _ x1 g) (o3 : @LT.lt Nat _ g d2) (o4 : @LT.lt Nat _ d2 x2) (o5 : @LT.lt Nat _ x2 l2)
   (hx : x.length ≤ 3000) (hvs : vs.size ≤ x.length) (hnq : ∀ c ∈ x.cps.toList, c ≠ 34 ∧ c ≠ 92)
   (hret : ∀ h' tk' n' vs' tk2' wl ds dn, Fr h₀ L h' m →
     News h₀ L h' ((wl, listOf ds dn) :: (x2, instObj 213 d2) :: (d2, dictOf (lexEs w.params tk2' (wordsF (x.length + 1 - vs.size) (x.cps.toList.drop vs.size) ln).2 (.ref x1) l2) 4) :: (l2, listOf #[] 0) :: (x1, instObj 213 d1) :: (d1, dictOf (d1Es w.params tk1 l1 tkr f) 5) :: (g, listOf vs' n') :: rest) →
     (∀ q ∈ rest, q.1 < wl) → StrsAre ds.toList ((wordsF (x.length + 1 - vs.size) (x.cps.toList.drop vs.size) ln).1.map wordS) → Q (.ref wl) { s with heap := h', toks := tk' }) :
   wpAny (model Challenge.rw_to0089_01.prog w) (ktrTop dp un gd cn cs L a ccd cl outer) (call (.ref 295) [.ref x2]) Q E s := by
 fail "mk.a"
 case zl =>
  revert hfill B F X T hk hd hu N hP hF hkp hap hap2 o1 o2 o3 o4 o5 hx hvs hnq hret
  revert w p loose mean mg mb dp un gd cn cs a ccd cl outer A₀ base h₀ L m s Q E x2 d2 l2 x1 d1 l1 f g tk2 tk1 tkr ln vs n x rest keep
  intro w p loose mean mg mb dp un gd cn cs a ccd cl outer A₀ base h₀ L m s Q E x2 d2 l2 x1 d1 l1 f g tk2 tk1 tkr ln vs n x rest keep hfill B F X T hk hd hu N hP hF hkp hap hap2 o1 o2 o3 o4 o5 hx hvs hnq hret
  dsimp only [d1Es, lexEs, List.cons_append, List.nil_append] at N
  revert X; k_fill; intro X; refine wpAny_call ?_; first | k_dflt (fail "my.enter") | fail
  (repeat' first | ((with_reducible show wpAny _ _ (call (Value.ref 203) _) _ _ _); refine stop_of ?_) | fail "k1")
  unfold Stop
  rename News _ _ _ _ => N9
  refine one_ask N9 fun wl e1 => ?_
  injections wl e1
  subst e1
  have hA : AllLt wl rest ∧ @LT.lt Nat _ g wl ∧ @LT.lt Nat _ d2 wl := by
    rename _ ∧ _ ∧ _ ∧ _ ∧ _ ∧ _ ∧ AllLt wl rest => hA0
    exact ⟨hA0.2.2.2.2.2.2, hA0.2.2.2.2.2.1, hA0.2.1⟩
  obtain ⟨hA, hgw, hdw⟩ := hA
  have hrw := allLt_mem hA
  have hapw : ∀ o, ∀ q ∈ (wl, o) :: rest, q.1 ≠ g := fun o q hq => by
    rcases List.mem_cons.mp hq with rfl | hq
    · exact Nat.ne_of_gt hgw
    · exact hap q hq
  have hapw2 : ∀ o, ∀ q ∈ (wl, o) :: rest, q.1 ≠ d2 := fun o q hq => by
    rcases List.mem_cons.mp hq with rfl | hq
    · exact Nat.ne_of_gt hdw
    · exact hap2 q hq
  k_dflt (refine' token_spec rfl ?k1 ?k2 ?k3 ?k4 ?k5 ?k6 ?k7 x2 d2 l2 x1 d1 l1 f g tk2 tk1 tkr ln vs n x _ keep (wd_front N9) hP hF (fun q hq => .tail _ (hkp q hq)) (hapw _) (hapw2 _) o1 o2 o3 o4 o5 hx hvs hnq (fun h1 tq n1 t1 vs1 tkv F1 N1 hv1 hd1 => ?_); (case k1 | k2 | k3 | k4 => k_asm); (case k5 => rfl); (case k6 => first | ktr_room | k_room); (case k7 => ktr_units))
  injections h1 tq n1 t1 vs1 tkv F1 N1 hv1 hd1
  have N2 := wd_back N1
  clear N1 N9
  (repeat' first | (fail "g17"; (refine stop_of ?_)) | fail "k1")
  unfold Stop
  rename Fr _ _ _ _ => F9
  rename News _ _ _ _ => N8
  obtain ⟨mL, eL⟩ := fr_name F9
  generalize hR : tokA (x.cps.toList.drop vs.size) ln = R at hd1 N8 F9 eL
  generalize hW : wordsF (x.length + 1 - vs.size) (x.cps.toList.drop vs.size) ln = W at hret
  have hlen : ∀ k : Nat, (x.cps.toList.drop k).length = x.length - k := fun k => by rw [List.length_drop]; rfl
  have hvw : x.length + 1 - vs.size = (x.length - vs.size) + 1 := Nat.succ_sub (by assumption)
  rw [hvw] at hW
  unfold wordsF at hW
  rw [hR] at hW
  have hRw := tokA_word (x.cps.toList.drop vs.size) ln
  rw [hR, hlen] at hRw
  have hRw : R.1.length ≤ x.length := Nat.le_trans hRw (Nat.sub_le _ _)
  have hRl := tokA_len (x.cps.toList.drop vs.size) ln
  rw [hR, hlen, ← hd1, hlen] at hRl
  k_dflt (refine' while1 (fun k m₁ nw gg => gg = s.gens ∧ (∀ y, y ≠ Str.ofString "word" → m₁ y = mL y) ∧ ∃ vs' n' ln' tk' tt ds dn, ∃ (cur : List Nat) (zs : List (List Nat)),
      m₁ (Str.ofString "word") = some (.str (wordS cur) tt) ∧ cur.length ≤ x.length ∧ vs'.size ≤ x.length ∧ ds.size ≤ vs'.size ∧ (cur ≠ [] → ds.size < vs'.size ∧ x.length - vs'.size < k) ∧ StrsAre ds.toList (zs.map wordS) ∧
      (cur ≠ [] → zs ++ cur :: (wordsF k (x.cps.toList.drop vs'.size) ln').1 = W.1 ∧ (wordsF k (x.cps.toList.drop vs'.size) ln').2 = W.2) ∧ (cur = [] → zs = W.1 ∧ ln' = W.2) ∧
      nw = (wl, listOf ds dn) :: (x2, instObj 213 d2) :: (d2, dictOf (lexEs w.params tk' ln' (.ref x1) l2) 4) :: (l2, listOf #[] 0) :: (x1, instObj 213 d1) :: (d1, dictOf (d1Es w.params tk1 l1 tkr f) 5) :: (g, listOf vs' n') :: rest) (x.length - vs.size) F9 N8 ?J ?turn)
  case J =>
    refine ⟨rfl, fun y _ => by rw [eL], vs1, _, _, tkv, _, #[], _, R.1, [], by rfl, hRw, hv1, Nat.zero_le _, fun hc => ?_, .nil, fun hc => ?_, fun hc => ?_, rfl⟩
    injections hc
    injections hc
    injections hc
    · have := hRl.2 hc
      exact ⟨by simp only [List.size_toArray, List.length_nil]; exact wo3 this, by omega⟩
    · rw [if_neg hc] at hW
      rw [← hW, ← hd1]
      exact ⟨rfl, rfl⟩
    · rw [if_pos hc] at hW
      rw [← hW]
      exact ⟨rfl, rfl⟩
  case turn =>
    clear N8 F9 hRl hW hvw hd1 hv1
    intro k m₁ nw h4 tk4 g4 pz1
    rcases pz1 with ⟨rfl, pz2⟩
    obtain ⟨hmo, vs2, n2, ln2, tky, tt, ds, dn, cur, zs, hmw, hcl, hv2, hds, hcur, hS, hW1, hW2, pz3⟩ := pz2
    rcases pz3 with rfl
    intro F4 N4
    have em : m₁ = fun y => if y = Str.ofString "word" then some (.str (wordS cur) tt) else mL y := by
      funext y
      by_cases h1 : y = Str.ofString "word"
      ·rw [if_pos h1, h1]; exact hmw
      ·rw [if_neg h1]; exact hmo y h1
    clear hmw hmo
    subst em
    rw [eL] at F4
    have hdsz : ds.size ≤ 3000 := by omega
    have hfit : ¬ (((wordS cur).length : Int) ≥ 2 ^ 63) := by
      have : (wordS cur).length = cur.length := by simp [Str.length]
      rw [this]
      omega
    (repeat' first | ((with_reducible show WhT ..); (refine stop_of ?_)) | fail "k1")
    unfold Stop WhT
    by_cases hc0 : cur = []
    · have hb : ((((wordS cur).length : Nat) : Int) != 0) = false := by subst hc0; rfl
      rw [hb, if_neg Bool.false_ne_true]
      dsimp only
      k_steps
      obtain ⟨ez, el⟩ := hW2 hc0
      subst el
      rw [ez] at hS
      rename News h₀ L _ _ => N7
      exact hret _ _ _ _ _ wl ds dn (by k_asm) N7 hrw hS
    · have hb : ((((wordS cur).length : Nat) : Int) != 0) = true := by
       cases cur with
       | nil => exact absurd rfl hc0
       | cons a r =>
        have : ((((wordS (a :: r)).length : Nat) : Int)) = ((r.length + 1 : Nat) : Int) := by simp [Str.length]
        rw [this]
        simp
        omega
      rw [hb, if_pos rfl]
      obtain ⟨hc1, hc2⟩ := hcur hc0
      (repeat' first | ((with_reducible show wpAny _ _ (call (Value.ref 203) _) _ _ _); refine stop_of ?_) | fail "k1")
      unfold Stop
      rename News _ _ _ _ => N9
      generalize hR2 : tokA (x.cps.toList.drop vs2.size) ln2 = R2
      injections R2 hR2
      k_dflt (refine' token_spec rfl ?k1 ?k2 ?k3 ?k4 ?k5 ?k6 ?k7 x2 d2 l2 x1 d1 l1 f g tky tk1 tkr ln2 vs2 n2 x _ keep (wd_front N9) hP hF (fun q hq => .tail _ (hkp q hq)) (hapw _) (hapw2 _) o1 o2 o3 o4 o5 hx hv2 hnq (fun h1 tq n1 t1 vs1 tkv F1 N1 hv1 hd1 => ?_); (case k1 | k2 | k3 | k4 => k_asm); (case k5 => rfl); (case k6 => first | ktr_room | k_room); (case k7 => ktr_units))
      injections h1 tq n1 t1 vs1 tkv F1 N1 hv1 hd1
      have N2 := wd_back N1
      clear N1 N9
      rw [hR2] at N2 hd1 ⊢
      have hRw := tokA_word (x.cps.toList.drop vs2.size) ln2
      rw [hR2, hlen] at hRw
      have hRl := tokA_len (x.cps.toList.drop vs2.size) ln2
      rw [hR2, hlen, ← hd1, hlen] at hRl
      obtain ⟨hRa, hRb⟩ := hRl
      have pz4 : ∃ k', k = k' + 1 := ⟨k - 1, pk hc2⟩
      obtain ⟨k', pz5⟩ := pz4
      rcases pz5 with rfl
      have hW3 := hW1 hc0
      unfold wordsF at hW3
      rw [hR2, ← hd1] at hW3
      (repeat' first | ((with_reducible show TurnWh ..); (refine stop_of ?_)) | fail "k1")
      unfold Stop
      rename News _ _ _ _ => N7
      rename Fr _ _ _ _ => F7
      refine TurnWh.intro (k' := k') (by omega) F7 N7 ⟨rfl, fun y h1 => by simp only [if_neg h1, eL], vs1, _, _, tkv, _, _, _, R2.1, zs ++ [cur], by rfl, Nat.le_trans hRw (Nat.sub_le _ _), hv1, ?_, fun hc => ?_, ?_, fun hc => ?_, fun hc => ?_, rfl⟩
      injections hc
      injections hc
      injections hc
      ·rw [Array.size_push]; exact wo2 hc1 hv2 hRa
      ·have := hRb hc
       rw [Array.size_push]
       exact ⟨wo1 hc1 this, Nat.lt_of_lt_of_le this (Nat.le_of_lt_succ hc2)⟩
      ·rw [List.map_append]
       exact strs_push hS
      ·rw [if_neg hc] at hW3
       rw [← hW3.1, ← hW3.2]
       exact ⟨by simp, rfl⟩
      ·rw [if_pos hc] at hW3
       exact ⟨hW3.1, hW3.2⟩
 fail "mk.b"
end
section
theorem objs_at {h : Heap} : ∀ (l : List Addr), (∀ b ∈ l, ∃ o, h.get? b = some o) → ∃ X : List (Addr × Obj), X.map (·.1) = l ∧ ∀ q ∈ X, h.get? q.1 = some q.2
 | [], _ => ⟨[], rfl, fun q hq => by cases hq⟩
 | b :: r, hb => by
  rcases hb b (.head _) with ⟨o, ho⟩
  rcases objs_at r fun c hc => hb c (.tail _ hc) with ⟨X, h1, h2⟩
  refine ⟨(b, o) :: X, by simp [h1], fun q hq => ?_⟩
  rcases List.mem_cons.mp hq with rfl | hq
  ·exact ho
  ·exact h2 q hq
def TurnZ (h₀ : Heap) (L : Addr) (J : Nat → (Str → Option Value) → List (Addr × Obj) → Prop) (wr : List Addr) (X : List (Addr × Obj)) (i : Nat) (s₁ : Shared) (f : Flow) (s₂ : Shared) : Prop :=
 ∃ h' tk' m' news', f = .next ∧ s₂ = { s₁ with heap := h', toks := tk' } ∧ Fr h₀ L h' m' ∧ News h₀ L h' (news' ++ X) ∧ (∀ q ∈ news', q.1 ∉ wr) ∧ J (i + 1) m' news'
theorem TurnZ.intro {h₀ : Heap} {L : Addr} {J : Nat → (Str → Option Value) → List (Addr × Obj) → Prop} {wr : List Addr} {X : List (Addr × Obj)} {i : Nat} {s₁ : Shared} {h' : Heap} {tk' : Nat} {m' : Str → Option Value} {news' : List (Addr × Obj)}
 (F : Fr h₀ L h' m') (N : News h₀ L h' (news' ++ X)) (off : ∀ q ∈ news', q.1 ∉ wr) (hJ : J (i + 1) m' news') : TurnZ h₀ L J wr X i s₁ .next { s₁ with heap := h', toks := tk' } := ⟨h', tk', m', news', rfl, rfl, F, N, off, hJ⟩
theorem for_walkT {w : World} {A : Around} {E : Value → Shared → Prop} {s₂ : Shared} {h₀ : Heap} {env : Env} {x1 x2 : Str} {p1 p2 px : Pos} {kk : Nat} {body : List Stmt} {Q : Flow → Shared → Prop} {I : Addr} {fp wr : List Addr} {n : Nat} {Pt : Nat → Array Value → Prop} {St : Nat → Heap → Prop} {Mid : Nat → Addr → Heap → Prop} {m₀ : Str → Option Value} {news : List (Addr × Obj)}
   (W : WalksT Challenge.rw_to0089_01.prog w A I fp wr n Pt St Mid) (hA : A.handled = none) (wr' : List Addr) (fx : List (Addr × Obj)) (hwr : ∀ b ∈ wr, b ∈ wr') (hSto : ∀ i h, St i h → ∀ b ∈ wr', ∃ o, h.get? b = some o)
   (hfp : ∀ b ∈ fp, b ∈ wr' ∨ ∃ o, (b, o) ∈ fx) (hPt : ∀ i vs, Pt i vs → ∃ v1 v2, vs = #[v1, v2])
   (J : Nat → (Str → Option Value) → List (Addr × Obj) → Prop) (hJfx : ∀ i m nw, J i m nw → ∀ q ∈ fx, q ∈ nw) (hx1 : env.kindOf x1 = some .local) (hx2 : env.kindOf x2 = some .local) (hp : (env.scope.kind == .class || (env.scope.kind == .module && env.locals != env.globals)) = false)
   (hL : env.locals ∉ wr') (hn0 : ∀ b ∈ wr', h₀.get? b = none) (hst : St 0 s₂.heap) (F : Fr h₀ env.locals s₂.heap m₀) (N : News h₀ env.locals s₂.heap news) (off : ∀ q ∈ news, q.1 ∉ wr') (hJ0 : J 0 m₀ news)
   (turn : ∀ X i v1 v2 m₁ news₁ h tk, i < n → Pt i #[v1, v2] → X.map (·.1) = wr' → (∀ q ∈ news₁, q.1 ∉ wr') → J i m₁ news₁ → Fr h₀ env.locals h (fun y => if y = x2 then some v2 else if y = x1 then some v1 else m₁ y) → News h₀ env.locals h (news₁ ++ X) →
     wpAny (model Challenge.rw_to0089_01.prog w) A (execs body env) (TurnZ h₀ env.locals J wr' X i s₂) E { s₂ with heap := h, toks := tk })
   (done : ∀ m₁ news₁ h tk, J n m₁ news₁ → Fr h₀ env.locals h m₁ → News h₀ env.locals h news₁ → Q .next { s₂ with heap := h, toks := tk })
   (hE : PassesOwn (model Challenge.rw_to0089_01.prog w) A env E) :
   codeAny (model Challenge.rw_to0089_01.prog w) A (.forLoop (.Tuple [.Name x1 p1, .Name x2 p2] kk px) (.ref I) body [] env) (fun r s' => match r with | .ok f => Q f s' | .error e => cameBackBy (model Challenge.rw_to0089_01.prog w) A env E e s') s₂ := by
 fail "mk.a"
 case zl =>
  revert W hA hwr hSto hfp hPt hJfx hx1 hx2 hp hL hn0 hst F N off hJ0 turn done hE
  revert w A E s₂ h₀ env x1 x2 p1 p2 px kk body Q I fp wr n Pt St Mid m₀ news wr' fx J
  intro w A E s₂ h₀ env x1 x2 p1 p2 px kk body Q I fp wr n Pt St Mid m₀ news wr' fx J W hA hwr hSto hfp hPt hJfx hx1 hx2 hp hL hn0 hst F N off hJ0 turn done hE
  refine codeAny_forLoop_any
    (fun k s' => ∃ h' tk m' news' i, s' = { s₂ with heap := h', toks := tk } ∧ St i h' ∧ Fr h₀ env.locals h' m' ∧ News h₀ env.locals h' news' ∧ (∀ q ∈ news', q.1 ∉ wr') ∧ J i m' news' ∧ i ≤ n ∧ k = n + 1 - i) ?_ (n + 1)
    ⟨s₂.heap, s₂.toks, m₀, news, 0, rfl, hst, F, N, off, hJ0, Nat.zero_le _, rfl⟩
  intro k s' pz1
  obtain ⟨h', tk, m', news', i, pz2⟩ := pz1
  rcases pz2 with ⟨rfl, pz3⟩
  obtain ⟨hst', F', N', off', hJ, hi, pz4⟩ := pz3
  rcases pz4 with rfl
  have next : ∀ h h₁ : Heap, Fr h₀ env.locals h m' → News h₀ env.locals h news' → (∀ b o, b ∉ wr → h.get? b = some o → h₁.get? b = some o) → Fr h₀ env.locals h₁ m' ∧ News h₀ env.locals h₁ news' := fun h h₁ F N hk₁ =>
    ⟨⟨F.ns.at' fun o e => hk₁ _ o (fun hb => hL (hwr _ hb)) e, fun b o e => hk₁ b o (fun hb => by rw [hn0 b (hwr b hb)] at e; cases e) (F.keep b o e), F.above⟩, fun p hp => ⟨hk₁ _ _ (fun hb => off' p hp (hwr _ hb)) (N p hp).1, (N p hp).2⟩⟩
  by_cases hlt : i < n
  · refine W.item i _ _ _ hlt hst' fun T vals h₁ tk₁ hPv hT hTup hMid hk₁ => ?_
    injections T vals h₁ tk₁ hPv hT hTup hMid hk₁
    obtain ⟨F₁, N₁⟩ := next _ _ F' N' hk₁
    have pz5 := hPt i vals hPv
    obtain ⟨v1, v2, pz6⟩ := pz5
    rcases pz6 with rfl
    have hTn : T ∉ wr := W.apart i T h₁ hMid
    refine W.go _ _ _ i T _ _ _ hMid fun h₂ hst₂ hk₂ => ?_
    injections h₂ hst₂ hk₂
    obtain ⟨F₂, N₂⟩ := next _ _ F₁ N₁ hk₂
    have hTup₂ : h₂.IsTuple T #[v1, v2] := hTup.at fun o e => hk₂ T o hTn e
    refine kcp_assign hA hTup₂ hx1 hx2 hp F₂.ns fun h₃ tk₃ hns₃ hk₃ => ?_
    injections h₃ tk₃ hns₃ hk₃
    have F₃ : Fr h₀ env.locals h₃ (fun y => if y = x2 then some v2 else if y = x1 then some v1 else m' y) :=
      ⟨hns₃, fun b o e => hk₃ b o (Nat.ne_of_lt (Nat.lt_of_lt_of_le (Heap.lt_size e) F₂.above)) (F₂.keep b o e), F₂.above⟩
    have N₃ : News h₀ env.locals h₃ news' := fun q hq => ⟨hk₃ _ _ (N₂ q hq).2.1 (N₂ q hq).1, (N₂ q hq).2⟩
    obtain ⟨X, hX1, hX2⟩ := objs_at (h := h₂) wr' (hSto _ _ hst₂)
    have hXw : ∀ q ∈ X, q.1 ∈ wr' := fun q hq => hX1 ▸ List.mem_map_of_mem hq
    have NX : News h₀ env.locals h₃ (news' ++ X) := fun q hq => by
      rcases List.mem_append.mp hq with hq | hq
      ·exact N₃ q hq
      ·have hne : q.1 ≠ env.locals := fun e => hL (e ▸ hXw q hq)
       exact ⟨hk₃ _ _ hne (hX2 q hq), hne, hn0 _ (hXw q hq)⟩
    refine wpAny_mono (wpAny_passesOwn hE (turn X i v1 v2 m' news' h₃ tk₃ hlt hPv hX1 off' hJ F₃ NX)) (fun f s₃ h₄ => ?_) fun _ _ e => e
    injections f s₃ h₄
    obtain ⟨h₅, tk₅, m₅, news₅, pz8⟩ := h₄
    rcases pz8 with ⟨rfl, pz9⟩
    rcases pz9 with ⟨rfl, pz10⟩
    obtain ⟨F₅, N₅, off₅, hJ₅⟩ := pz10
    refine ⟨n + 1 - (i + 1), by omega, h₅, tk₅, m₅, news₅, i + 1, rfl, W.frame _ _ _ hst₂ (fun b hb o e => ?_), F₅, fun q hq => N₅ q (List.mem_append_left _ hq), off₅, hJ₅, hlt, rfl⟩
    injections b hb o e
    rcases hfp b hb with hb | ⟨o', hb⟩
    · have pz11 : ∃ q ∈ X, q.1 = b := by
       rw [← hX1] at hb
       obtain ⟨q, hq, e⟩ := List.mem_map.mp hb
       exact ⟨q, hq, e⟩
      obtain ⟨q, hq, pz12⟩ := pz11
      rcases pz12 with rfl
      have e2 := hX2 q hq
      rw [e] at e2
      cases e2
      exact (N₅ q (List.mem_append_right _ hq)).1
    · have e2 := (N₂ _ (hJfx _ _ _ hJ _ hb)).1
      have e3 := (N₅ _ (List.mem_append_left _ (hJfx _ _ _ hJ₅ _ hb))).1
      rw [e] at e2
      cases e2
      exact e3
  · have hin : i = n := by omega
    subst hin
    refine W.done _ _ _ hst' fun h₁ tk₁ hk₁ => wpAny_execs_nil ?_
    obtain ⟨F₁, N₁⟩ := next _ _ F' N' hk₁
    exact done m' news' h₁ tk₁ hJ F₁ N₁
 fail "mk.b"
end
section
section
variable {w : World} {A : Around} {E : Value → Shared → Prop} {s : Shared} {h₀ : Heap} {env : Env} {x1 x2 : Str} {p1 p2 px : Pos} {kk : Nat} {iter : PySem.Expr} {body : List Stmt} {pos : Pos} {Q : Flow → Shared → Prop}
inductive ForT (w : World) (A : Around) (h₀ : Heap) (env : Env) (x1 x2 : Str) (body : List Stmt) (Q : Flow → Shared → Prop) (E : Value → Shared → Prop) (xv : Value) (s₁ : Shared) : Prop
 | mk (I : Addr) (fp wr : List Addr) (n : Nat) (Pt : Nat → Array Value → Prop) (St : Nat → Heap → Prop) (Mid : Nat → Addr → Heap → Prop) (wr' : List Addr) (fx : List (Addr × Obj)) (m₀ : Str → Option Value) (news : List (Addr × Obj)) (J : Nat → (Str → Option Value) → List (Addr × Obj) → Prop) (h : xv = .ref I ∧ WalksT Challenge.rw_to0089_01.prog w A I fp wr n Pt St Mid ∧ (∀ b ∈ wr, b ∈ wr') ∧ (∀ i h, St i h → ∀ b ∈ wr', ∃ o, h.get? b = some o) ∧
  (∀ b ∈ fp, b ∈ wr' ∨ ∃ o, (b, o) ∈ fx) ∧ (∀ i vs, Pt i vs → ∃ v1 v2, vs = #[v1, v2]) ∧ (∀ i m nw, J i m nw → ∀ q ∈ fx, q ∈ nw) ∧ env.locals ∉ wr' ∧ (∀ b ∈ wr', h₀.get? b = none) ∧ St 0 s₁.heap ∧ Fr h₀ env.locals s₁.heap m₀ ∧ News h₀ env.locals s₁.heap news ∧
  (∀ q ∈ news, q.1 ∉ wr') ∧ J 0 m₀ news ∧
  (∀ X i v1 v2 m₁ news₁ h tk, i < n → Pt i #[v1, v2] → X.map (·.1) = wr' → (∀ q ∈ news₁, q.1 ∉ wr') → J i m₁ news₁ → Fr h₀ env.locals h (fun y => if y = x2 then some v2 else if y = x1 then some v1 else m₁ y) → News h₀ env.locals h (news₁ ++ X) →
   wpAny (model Challenge.rw_to0089_01.prog w) A (execs body env) (TurnZ h₀ env.locals J wr' X i s₁) E { s₁ with heap := h, toks := tk }) ∧
  (∀ m₁ news₁ h tk, J n m₁ news₁ → Fr h₀ env.locals h m₁ → News h₀ env.locals h news₁ → Q .next { s₁ with heap := h, toks := tk })) : ForT w A h₀ env x1 x2 body Q E xv s₁
theorem for_T1 {mF : Str → Option Value} (_F₀ : Fr h₀ env.locals s.heap mF) (hA : A.handled = none) (hx1 : env.kindOf x1 = some .local) (hx2 : env.kindOf x2 = some .local) (hp : (env.scope.kind == .class || (env.scope.kind == .module && env.locals != env.globals)) = false)
   (h : wpAny (model Challenge.rw_to0089_01.prog w) A (eval iter env) (ForT w A h₀ env x1 x2 body Q E) E s)
   (hs : ∀ x, foldedSetIterable iter env x = pure x := by intros _; rfl)
   (hE : PassesOwn (model Challenge.rw_to0089_01.prog w) A env E := by passes_own) :
   wpAny (model Challenge.rw_to0089_01.prog w) A (exec (.For (.Tuple [.Name x1 p1, .Name x2 p2] kk px) iter body [] pos) env) Q E s := by
 fail "mk.a"
 case zl =>
  revert _F₀ hA hx1 hx2 hp h hs hE
  revert w A E s h₀ env x1 x2 p1 p2 px kk iter body pos Q mF
  intro w A E s h₀ env x1 x2 p1 p2 px kk iter body pos Q mF _F₀ hA hx1 hx2 hp h hs hE
  refine wpAny_For (wpAny_mono h (fun xv s₁ h₁ => ?_) fun _ _ e => e) hs
  injections xv s₁ h₁
  obtain ⟨I, fp, wr, n, Pt, St, Mid, wr', fx, m₀, news, J, pz2⟩ := h₁
  rcases pz2 with ⟨rfl, pz3⟩
  obtain ⟨W, a1, a2, a3, a4, a5, a6, a7, a8, a9, a10, a11, a12, a13, a14⟩ := pz3
  refine W.self 0 s₁ _ _ a8 ?_
  exact for_walkT W hA wr' fx a1 a2 a3 a4 J a5 hx1 hx2 hp a6 a7 a8 a9 a10 a11 a12 a13 a14 hE
 fail "mk.b"
theorem ForT.zip {z TI TO i1 i2 l1 l2 : Addr} {n1 n2 : Nat} {xs ys : Array Value} {m₀ : Str → Option Value} {news : List (Addr × Obj)} (hA : A.handled = none) (D : ZipApart z TI TO i1 i2 l1 l2) (J : Nat → (Str → Option Value) → List (Addr × Obj) → Prop)
   (hz : IsZip s.heap z TI TO .none) (hTI : IsPair s.heap TI (.ref i1) (.ref i2)) (hTO : IsPair s.heap TO .none .none) (h1 : s.heap.IsListIter i1 l1 0) (h2 : s.heap.IsListIter i2 l2 0)
   (hJfx : ∀ i m nw, J i m nw → (l1, listOf xs n1) ∈ nw ∧ (l2, listOf ys n2) ∈ nw) (hL : env.locals ∉ [z, TI, TO, i1, i2]) (h0 : ∀ b ∈ [z, TI, TO, i1, i2], h₀.get? b = none) (F : Fr h₀ env.locals s.heap m₀) (N : News h₀ env.locals s.heap news) (off : ∀ q ∈ news, q.1 ∉ [z, TI, TO, i1, i2]) (hJ0 : J 0 m₀ news)
   (turn : ∀ X i x y m₁ news₁ h tk, xs[i]? = some x → ys[i]? = some y → X.map (·.1) = [z, TI, TO, i1, i2] → (∀ q ∈ news₁, q.1 ∉ [z, TI, TO, i1, i2]) → J i m₁ news₁ → Fr h₀ env.locals h (fun k => if k = x2 then some y else if k = x1 then some x else m₁ k) → News h₀ env.locals h (news₁ ++ X) →
     wpAny (model Challenge.rw_to0089_01.prog w) A (execs body env) (TurnZ h₀ env.locals J [z, TI, TO, i1, i2] X i s) E { s with heap := h, toks := tk })
   (done : ∀ m₁ news₁ h tk, J (min xs.size ys.size) m₁ news₁ → Fr h₀ env.locals h m₁ → News h₀ env.locals h news₁ → Q .next { s with heap := h, toks := tk }) : ForT w A h₀ env x1 x2 body Q E (.ref z) s := by
 fail "mk.a"
 case zl =>
  revert hA D hz hTI hTO h1 h2 hJfx hL h0 F N off hJ0 turn done
  revert w A E s h₀ env x1 x2 body Q z TI TO i1 i2 l1 l2 n1 n2 xs ys m₀ news J
  intro w A E s h₀ env x1 x2 body Q z TI TO i1 i2 l1 l2 n1 n2 xs ys m₀ news J hA D hz hTI hTO h1 h2 hJfx hL h0 F N off hJ0 turn done
  have hl1 := N _ (hJfx _ _ _ hJ0).1
  have hl2 := N _ (hJfx _ _ _ hJ0).2
  refine ⟨z, _, _, _, _, _, _, [z, TI, TO, i1, i2], [(l1, listOf xs n1), (l2, listOf ys n2)], m₀, news, J, rfl, WalksT.zip2 hA z TI TO i1 i2 l1 l2 D xs ys, fun b hb => by simp at hb ⊢; rcases hb with rfl | rfl | rfl | rfl <;> simp, fun i h st b hb => ?_, fun b hb => ?_, fun i vs hv => ?_, fun i m nw hj q hq => ?_, hL, h0,
    ⟨hz, hTI, ⟨_, _, hTO⟩, h1, h2, ⟨_, hl1.1, rfl, n1, rfl⟩, ⟨_, hl2.1, rfl, n2, rfl⟩⟩, F, N, off, hJ0, fun X i v1 v2 m₁ news₁ h tk hi hv hX off hJ F N => ?_, done⟩
  · obtain ⟨a1, a2, pz5⟩ := st
    rcases pz5 with ⟨pz7, pz6⟩
    obtain ⟨a, b', a3⟩ := pz7
    rcases pz6 with ⟨pz9, pz8⟩
    obtain ⟨o4, a4, pu10⟩ := pz9
    rcases pz8 with ⟨pz12, pz11⟩
    obtain ⟨o5, a5, pu13⟩ := pz12
    simp at hb
    rcases hb with rfl | rfl | rfl | rfl | rfl
    · exact ⟨_, a1⟩
    · exact ⟨_, a2⟩
    · exact ⟨_, a3⟩
    · exact ⟨_, a4⟩
    · exact ⟨_, a5⟩
  · simp at hb ⊢
    rcases hb with rfl | rfl | rfl | rfl | rfl | rfl | rfl <;> simp
  · obtain ⟨x, y, pu15, pu16, pz17⟩ := hv
    rcases pz17 with rfl
    exact ⟨x, y, rfl⟩
  · simp at hq
    rcases hq with rfl | rfl
    · exact (hJfx _ _ _ hj).1
    · exact (hJfx _ _ _ hj).2
  · obtain ⟨x, y, ex, ey, e⟩ := hv
    cases e
    exact turn X i v1 v2 m₁ news₁ h tk ex ey hX off hJ F N
 fail "mk.b"
theorem zip_K {Qv : Value → Shared → Prop} {L : Addr} {m : Str → Option Value} {news : List (Addr × Obj)} {l1 l2 : Addr} {xs ys : Array Value} (F : Fr h₀ L s.heap m) (N : News h₀ L s.heap news) (hl1 : s.heap.IsList l1 xs) (hl2 : s.heap.IsList l2 ys)
   (h : ∀ z TI TO i1 i2 h', ZipApart z TI TO i1 i2 l1 l2 → IsZip h' z TI TO .none → IsPair h' TI (.ref i1) (.ref i2) → IsPair h' TO .none .none → h'.IsListIter i1 l1 0 → h'.IsListIter i2 l2 0 → Fr h₀ L h' m → News h₀ L h' news →
     (∀ q ∈ news, ∀ b ∈ [z, TI, TO, i1, i2], @LT.lt Nat _ q.1 b) → (∀ b ∈ [z, TI, TO, i1, i2], @LT.lt Nat _ L b) → (∀ b ∈ [z, TI, TO, i1, i2], h₀.get? b = none) → Qv (.ref z) { s with heap := h' }) :
   wpAny (model Challenge.rw_to0089_01.prog w) A (call (.type "zip") [.ref l1, .ref l2]) Qv E s := by
 fail "mk.a"
 case zl =>
  revert F N hl1 hl2 h
  revert w A E s h₀ Qv L m news l1 l2 xs ys
  intro w A E s h₀ Qv L m news l1 l2 xs ys F N hl1 hl2 h
  refine call_zip_2 hl1 hl2 fun h' a1 a2 a3 a4 a5 hsz hk => ?_
  injections h' a1 a2 a3 a4 a5 hsz hk
  have l1' : l1 < s.heap.objs.size := let ⟨_, e, _⟩ := hl1; Heap.lt_size e
  have l2' : l2 < s.heap.objs.size := let ⟨_, e, _⟩ := hl2; Heap.lt_size e
  have hge : ∀ b ∈ [s.heap.objs.size + 4, s.heap.objs.size + 2, s.heap.objs.size + 3, s.heap.objs.size, s.heap.objs.size + 1], @LE.le Nat _ s.heap.objs.size b := fun b hb => by
    simp at hb
    rcases hb with rfl | rfl | rfl | rfl | rfl <;> omega
  have hL := F.ns.lt
  refine h _ _ _ _ _ h' (zipApart_new l1' l2') a1 a2 a3 a4 a5 ⟨F.ns.at' fun o e => hk _ o e, fun b o e => hk b o (F.keep b o e), F.above⟩ (fun q hq => ⟨hk _ _ (N q hq).1, (N q hq).2⟩) (fun q hq b hb => Nat.lt_of_lt_of_le (Heap.lt_size (N q hq).1) (hge b hb)) (fun b hb => Nat.lt_of_lt_of_le hL (hge b hb)) fun b hb => ?_
  injections b hb
  cases e : h₀.get? b with
  | none => rfl
  | some o => exact absurd (Heap.lt_size (F.keep b o e)) (Nat.not_lt.mpr (hge b hb))
 fail "mk.b"
theorem ForT.enum {e it l : Addr} {n1 : Nat} {xs : Array Value} {m₀ : Str → Option Value} {news : List (Addr × Obj)} (hA : A.handled = none) (hei : e ≠ it) (hle : l ≠ e) (hli : l ≠ it) (J : Nat → (Str → Option Value) → List (Addr × Obj) → Prop)
   (hz : IsEnum s.heap e it 0 .none) (h1 : s.heap.IsListIter it l 0)
   (hJfx : ∀ i m nw, J i m nw → (l, listOf xs n1) ∈ nw) (hL : env.locals ∉ [e, it]) (h0 : ∀ b ∈ [e, it], h₀.get? b = none) (F : Fr h₀ env.locals s.heap m₀) (N : News h₀ env.locals s.heap news) (off : ∀ q ∈ news, q.1 ∉ [e, it]) (hJ0 : J 0 m₀ news)
   (turn : ∀ X i t x m₁ news₁ h tk, xs[i]? = some x → X.map (·.1) = [e, it] → (∀ q ∈ news₁, q.1 ∉ [e, it]) → J i m₁ news₁ → Fr h₀ env.locals h (fun k => if k = x2 then some x else if k = x1 then some (.int (i : Nat) t) else m₁ k) → News h₀ env.locals h (news₁ ++ X) →
     wpAny (model Challenge.rw_to0089_01.prog w) A (execs body env) (TurnZ h₀ env.locals J [e, it] X i s) E { s with heap := h, toks := tk })
   (done : ∀ m₁ news₁ h tk, J xs.size m₁ news₁ → Fr h₀ env.locals h m₁ → News h₀ env.locals h news₁ → Q .next { s with heap := h, toks := tk }) : ForT w A h₀ env x1 x2 body Q E (.ref e) s := by
 fail "mk.a"
 case zl =>
  revert hA hei hle hli hz h1 hJfx hL h0 F N off hJ0 turn done
  revert w A E s h₀ env x1 x2 body Q e it l n1 xs m₀ news J
  intro w A E s h₀ env x1 x2 body Q e it l n1 xs m₀ news J hA hei hle hli hz h1 hJfx hL h0 F N off hJ0 turn done
  have hl1 := N _ (hJfx _ _ _ hJ0)
  refine ⟨e, _, _, _, _, _, _, [e, it], [(l, listOf xs n1)], m₀, news, J, rfl, WalksT.enumerate hA e it l hei hle hli xs, fun b hb => hb, fun i h st b hb => ?_, fun b hb => ?_, fun i vs hv => ?_, fun i m nw hj q hq => ?_, hL, h0,
    ⟨⟨_, hz⟩, h1, ⟨_, hl1.1, rfl, n1, rfl⟩⟩, F, N, off, hJ0, fun X i v1 v2 m₁ news₁ h tk hi hv hX off hJ F N => ?_, done⟩
  · rcases st with ⟨pz20, pz19⟩
    obtain ⟨o, a1⟩ := pz20
    rcases pz19 with ⟨pz22, pz21⟩
    obtain ⟨o4, a4, pu23⟩ := pz22
    simp at hb
    rcases hb with rfl | rfl
    · exact ⟨_, a1⟩
    · exact ⟨_, a4⟩
  · simp at hb ⊢
    rcases hb with rfl | rfl | rfl <;> simp
  · obtain ⟨t, x, pu25, pz26⟩ := hv
    rcases pz26 with rfl
    exact ⟨_, x, rfl⟩
  · simp at hq
    rw [hq]
    exact hJfx _ _ _ hj
  · obtain ⟨t, x, ex, e'⟩ := hv
    cases e'
    exact turn X i t v2 m₁ news₁ h tk ex hX off hJ F N
 fail "mk.b"
theorem enum_K {Qv : Value → Shared → Prop} {L : Addr} {m : Str → Option Value} {news : List (Addr × Obj)} {l : Addr} {xs : Array Value} {n1 : Nat} (F : Fr h₀ L s.heap m) (N : News h₀ L s.heap news) (hl : (l, listOf xs n1) ∈ news)
   (h : ∀ e it h', e ≠ it → l ≠ e → l ≠ it → IsEnum h' e it 0 .none → h'.IsListIter it l 0 → Fr h₀ L h' m → News h₀ L h' news →
     (∀ q ∈ news, ∀ b ∈ [e, it], @LT.lt Nat _ q.1 b) → (∀ b ∈ [e, it], @LT.lt Nat _ L b) → (∀ b ∈ [e, it], h₀.get? b = none) → Qv (.ref e) { s with heap := h' }) :
   wpAny (model Challenge.rw_to0089_01.prog w) A (call (.type "enumerate") [.ref l]) Qv E s := by
 fail "mk.a"
 case zl =>
  revert F N hl h
  revert w A E s h₀ Qv L m news l xs n1
  intro w A E s h₀ Qv L m news l xs n1 F N hl h
  refine call_enumerate_1 (N _ hl).1 fun h' a1 a2 hsz hk => ?_
  injections h' a1 a2 hsz hk
  have l1' := Heap.lt_size (N _ hl).1
  have hge : ∀ b ∈ [s.heap.objs.size + 1, s.heap.objs.size], @LE.le Nat _ s.heap.objs.size b := fun b hb => by
    simp at hb
    rcases hb with rfl | rfl <;> omega
  have hL := F.ns.lt
  refine h _ _ h' (Nat.succ_ne_self _) (Nat.ne_of_lt (Nat.lt_succ_of_lt l1')) (Nat.ne_of_lt l1') a1 a2 ⟨F.ns.at' fun o e => hk _ o e, fun b o e => hk b o (F.keep b o e), F.above⟩ (fun q hq => ⟨hk _ _ (N q hq).1, (N q hq).2⟩) (fun q hq b hb => Nat.lt_of_lt_of_le (Heap.lt_size (N q hq).1) (hge b hb)) (fun b hb => Nat.lt_of_lt_of_le hL (hge b hb)) fun b hb => ?_
  injections b hb
  cases e : h₀.get? b with
  | none => rfl
  | some o => exact absurd (Heap.lt_size (F.keep b o e)) (Nat.not_lt.mpr (hge b hb))
 fail "mk.b"
end
end
section
open LCg in
inductive SrcT (w : World) (A : Around) (h₀ : Heap) (L : Addr) (m : Str → Option Value) (env : Env) (elt : PySem.Expr) (x1 x2 : Str) (scope : Scope) (cl : List (Str × Addr)) (Fin : Shared → List Value → List (Addr × Obj) → Prop) (xv : Value) (s₁ : Shared) : Prop
 | mk (I : Addr) (fp wr : List Addr) (n : Nat) (Pt : Nat → Array Value → Prop) (St : Nat → Heap → Prop) (Mid : Nat → Addr → Heap → Prop) (wr' : List Addr) (fx : List (Addr × Obj)) (news : List (Addr × Obj)) (R : Nat → List Value → Prop) (h : xv = .ref I ∧ WalksT Challenge.rw_to0089_01.prog w A I fp wr n Pt St Mid ∧ (∀ b ∈ wr, b ∈ wr') ∧ (∀ b ∈ wr', b ∈ fp) ∧ (∀ i h, St i h → ∀ b ∈ wr', ∃ o, h.get? b = some o) ∧
  (∀ b ∈ fp, b ∈ wr' ∨ ∃ o, (b, o) ∈ fx) ∧ (∀ i vs, Pt i vs → ∃ v1 v2, vs = #[v1, v2]) ∧ (∀ q ∈ fx, q ∈ news) ∧ L ∉ wr' ∧ (∀ b ∈ wr', h₀.get? b = none) ∧ (∀ b ∈ fp, b < s₁.heap.objs.size) ∧ n ≤ 100000 ∧ St 0 s₁.heap ∧ Fr h₀ L s₁.heap m ∧ News h₀ L s₁.heap news ∧
  (∀ q ∈ news, q.1 ∉ wr') ∧ R 0 [] ∧
  (∀ X i v1 v2 ys C oC D m₂ h tk (E' : Value → Shared → Prop), i < n → Pt i #[v1, v2] → R i ys → NsObj oC m₂ → m₂ x1 = some v1 → m₂ x2 = some v2 → Fr h₀ L h m → News h₀ L h ((C, oC) :: (D, lst ys) :: (news ++ X)) →
   wpAny (model Challenge.rw_to0089_01.prog w) A (eval elt (compEnvC scope cl C env)) (MapEnd h₀ L m { s₁ with heap := h, toks := tk } ((C, oC) :: (D, lst ys) :: (news ++ X)) (fun y => R (i + 1) (ys ++ [y]))) E' { s₁ with heap := h, toks := tk }) ∧
  (∀ ys, R n ys → Fin s₁ ys news)) : SrcT w A h₀ L m env elt x1 x2 scope cl Fin xv s₁
def FinT (h₀ : Heap) (L : Addr) (m : Str → Option Value) (Q : Value → Shared → Prop) (s : Shared) (ys : List Value) (news : List (Addr × Obj)) : Prop :=
 ∀ D h tk, Fr h₀ L h m → News h₀ L h ((D, LCg.lst ys) :: news) → (∀ q ∈ news, q.1 < D) → Q (.ref D) { s with heap := h, toks := tk }
def FinU (h₀ : Heap) (L : Addr) (m : Str → Option Value) (y : Str) (Q : Flow → Shared → Prop) (s : Shared) (ys : List Value) (news : List (Addr × Obj)) : Prop :=
 ∀ D h tk, Fr h₀ L h (fun z => if z = y then some (.ref D) else m z) → News h₀ L h ((D, LCg.lst ys) :: news) → (∀ q ∈ news, q.1 < D) → Q .next { s with heap := h, toks := tk }
open LCg in
theorem block_W {w : World} {A : Around} {E : Value → Shared → Prop} {s₁ : Shared} {h₀ : Heap} {L : Addr} {m : Str → Option Value} {env : Env} {elt iter : PySem.Expr} {x1 x2 : Str} {p1 p2 tp : Pos} {kk : Nat} {scope : Scope} {cl : List (Str × Addr)} {pos : Pos} {Fin : Shared → List Value → List (Addr × Obj) → Prop} {RR : Value → Addr → Result → Shared → Prop} {xv : Value}
   (hh : A.handled = none) (hcell : ∀ y ∈ scope.names, y.2 ≠ .cell) (hkind : scope.kind = .function) (hx1 : scope.names.lookup x1 = some .local) (hx2 : scope.names.lookup x2 = some .local) (hxx : x1 ≠ x2)
   (h₁ : SrcT w A h₀ L m env elt x1 x2 scope cl Fin xv s₁)
   (hRR : ∀ D C h tk m' ys news, Fr h₀ L h m → News h₀ L h ((D, lst ys) :: news) → (∀ q ∈ news, q.1 < D) → h.Ns C m' → h₀.get? C = none → C ≠ L → D ≠ C → (∀ q ∈ news, q.1 ≠ C) → Fin s₁ ys news → RR (.ref D) C (.ok .next) { s₁ with heap := h, toks := tk }) :
   wpAny (model Challenge.rw_to0089_01.prog w) A (pyIter xv) (fun it s₂ => wpAny (model Challenge.rw_to0089_01.prog w) A (newList []) (fun acc s₃ => wpAny (model Challenge.rw_to0089_01.prog w) A (newFunctionEnv scope env.globals cl [] env.qual none .none (some env)) (fun cenv s₄ =>
     codeAny (model Challenge.rw_to0089_01.prog w) A (.compStart (.ListComp elt [⟨.Tuple [.Name x1 p1, .Name x2 p2] kk tp, iter, [], 0⟩] scope pos) 0 it acc { cenv with scope := relabel scope env }) (RR acc cenv.locals) s₄) E s₃) E s₂) E s₁ := by
 fail "mk.a"
 case zl =>
  revert hh hcell hkind hx1 hx2 hxx h₁ hRR
  revert w A E s₁ h₀ L m env elt iter x1 x2 p1 p2 tp kk scope cl pos Fin RR xv
  intro w A E s₁ h₀ L m env elt iter x1 x2 p1 p2 tp kk scope cl pos Fin RR xv hh hcell hkind hx1 hx2 hxx h₁ hRR
  obtain ⟨I, fp, wr, n, Pt, St, Mid, wr', fx, news, R, pz2⟩ := h₁
  rcases pz2 with ⟨rfl, pz3⟩
  obtain ⟨W, hwr, hwf, hSto, hfp, hPt, hfx, hL, hn0, hfl, hn, hst, F, N, off, hR0, step, fin⟩ := pz3
  refine W.self 0 s₁ _ _ hst ?_
  refine wpAny_newObj_type (wpAny_newFunctionEnv hcell (by intro y hy; simp at hy) (fun h₁ hns₁ hsb₁ => ?_) hkind)
  injections h₁ hns₁ hsb₁
  dsimp only at hns₁ hsb₁ ⊢
  generalize hH2 : s₁.heap.push { cls := .type "list", dict := none, data := .seq ([] : List Value).toArray } = H2 at hns₁ hsb₁ ⊢
  have hsz : H2.objs.size = s₁.heap.objs.size + 1 := by rw [← hH2, Heap.size_push]
  have old : ∀ b o, s₁.heap.get? b = some o → h₁.get? b = some o := fun b o e => by
    have hb := Heap.lt_size e
    exact hsb₁.extBut b o (by rw [hsz]; exact Nat.ne_of_lt (Nat.lt_succ_of_lt hb)) (Heap.get?_push_of_some _ (hH2 ▸ Heap.get?_push_of_some _ e))
  have hDC : s₁.heap.objs.size ≠ H2.objs.size := by rw [hsz]; exact Nat.ne_of_lt (Nat.lt_succ_self _)
  have hacc : h₁.get? s₁.heap.objs.size = some (lst []) := hsb₁.extBut _ _ hDC (Heap.get?_push_of_some _ (hH2 ▸ Heap.get?_push_size _ rfl))
  have hLlt : L < s₁.heap.objs.size := F.ns.lt
  have fresh₀ : ∀ a, s₁.heap.objs.size ≤ a → h₀.get? a = none := fun a ha => by
    cases e : h₀.get? a with
    | none => rfl
    | some o' => exact absurd (Heap.lt_size (F.keep a o' e)) (Nat.not_lt.mpr ha)
  have hge : s₁.heap.objs.size ≤ H2.objs.size := by rw [hsz]; exact Nat.le_succ _
  have nf : ∀ b, b < s₁.heap.objs.size → b ≠ s₁.heap.objs.size ∧ b ≠ H2.objs.size := fun b hb => ⟨Nat.ne_of_lt hb, Nat.ne_of_lt (Nat.lt_of_lt_of_le hb hge)⟩
  have hnl : ∀ q ∈ news, q.1 < s₁.heap.objs.size := fun q hq => Heap.lt_size (N q hq).1
  have hD₀ := fresh₀ _ (Nat.le_refl s₁.heap.objs.size)
  have hC₀ := fresh₀ _ hge
  have hF₁ : Fr h₀ L h₁ m := ⟨F.ns.at' fun o e => old _ o e, fun b o e => old b o (F.keep b o e), F.above⟩
  have hst₁ : St 0 h₁ := W.frame _ _ _ hst fun b _ o e => old b o e
  generalize hC : H2.objs.size = C at hns₁ hDC nf hC₀
  generalize hD : s₁.heap.objs.size = D at hacc hDC nf hLlt hnl hD₀ hfl
  have loop : ∀ s₃ : Shared, s₃ = { s₁ with heap := h₁, toks := s₁.toks + ([] : List (Str × Value)).length } →
      codeAny (model Challenge.rw_to0089_01.prog w) A (.compLoop (.ListComp elt [⟨.Tuple [.Name x1 p1, .Name x2 p2] kk tp, iter, [], 0⟩] scope pos) 0 (.ref I) (.ref D) (compEnvC scope cl C env))
       (RR (.ref D) C) s₃ := by
    intro s₃ pz4
    rcases pz4 with rfl
    refine LCp.codeAny_compLoop_pair
      (fun k s' => ∃ h' tk i ys m', s' = { s₁ with heap := h', toks := tk } ∧ i ≤ n ∧ k = n + 1 - i ∧ ys.length = i ∧ St i h' ∧ Fr h₀ L h' m ∧ h'.Ns C m' ∧ News h₀ L h' ((D, lst ys) :: news) ∧ R i ys) ?_ (n + 1)
      ⟨h₁, _, 0, [], _, rfl, Nat.zero_le _, rfl, rfl, hst₁, hF₁, hns₁, fun p hp => ?_, hR0⟩
    · intro k s' pz5
      obtain ⟨h', tk, i, ys, m', pz6⟩ := pz5
      rcases pz6 with ⟨rfl, pz7⟩
      obtain ⟨hi, pz8⟩ := pz7
      rcases pz8 with ⟨rfl, pz9⟩
      obtain ⟨hyl, hst', F', hn', N', hR⟩ := pz9
      have hwlt : ∀ b ∈ wr', b < D := fun b hb => hfl b (hwf b hb)
      have hCw : C ∉ wr := fun h => (nf C (hwlt C (hwr C h))).2 rfl
      have hDw : D ∉ wr := fun h => (nf D (hwlt D (hwr D h))).1 rfl
      have next : ∀ (h h₂ : Heap), Fr h₀ L h m → News h₀ L h ((D, lst ys) :: news) → (∀ b o, b ∉ wr → h.get? b = some o → h₂.get? b = some o) → Fr h₀ L h₂ m ∧ News h₀ L h₂ ((D, lst ys) :: news) := fun h h₂ F N hk =>
       ⟨⟨F.ns.at' fun o e => hk _ o (fun hb => hL (hwr _ hb)) e, fun b o e => hk b o (fun hb => by rw [hn0 b (hwr b hb)] at e; cases e) (F.keep b o e), F.above⟩, fun q hq => ⟨hk _ _ (by
        rcases List.mem_cons.mp hq with rfl | hq
        ·exact hDw
        ·exact fun hb => off q hq (hwr _ hb)) (N q hq).1, (N q hq).2⟩⟩
      by_cases hlt : i < n
      ·refine W.item i _ _ _ hlt hst' fun T vals h₂ tk₂ hPv hT hTup hMid hk₂ => ?_
       injections T vals h₂ tk₂ hPv hT hTup hMid hk₂
       obtain ⟨F₂, N₂⟩ := next _ _ F' N' hk₂
       have pz10 := hPt i vals hPv
       obtain ⟨v1, v2, pz11⟩ := pz10
       rcases pz11 with rfl
       have hTn : T ∉ wr := W.apart i T h₂ hMid
       refine W.go _ _ _ i T _ _ _ hMid fun h₃ hst₃ hk₃ => ?_
       injections h₃ hst₃ hk₃
       obtain ⟨F₃, N₃⟩ := next _ _ F₂ N₂ hk₃
       have hn₃ : h₃.Ns C m' := (hn'.at' fun o e => hk₂ _ o hCw e).at' fun o e => hk₃ _ o hCw e
       refine kcp_assign hh (hTup.at fun o e => hk₃ T o hTn e) (lookup_relabel_local hx1) (lookup_relabel_local hx2) (by simp [compEnvC, relabel, hkind]) hn₃ fun h₄ tk₄ hn₄ hk₄ => ?_
       injections h₄ tk₄ hn₄ hk₄
       replace hk₄ : ∀ c o, c ≠ C → h₃.get? c = some o → h₄.get? c = some o := hk₄
       have hLC : L ≠ C := fun e => (nf L hLlt).2 e
       have F₄ : Fr h₀ L h₄ m := ⟨F₃.ns.at' fun o e => hk₄ _ o hLC e, fun b o e => hk₄ b o (fun q => by rw [q, hC₀] at e; cases e) (F₃.keep b o e), F₃.above⟩
       have N₄ : News h₀ L h₄ ((D, lst ys) :: news) := fun q hq => ⟨hk₄ _ _ (by
        rcases List.mem_cons.mp hq with rfl | hq
        ·exact hDC
        ·exact (nf _ (hnl q hq)).2) (N₃ q hq).1, (N₃ q hq).2⟩
       obtain ⟨X, hX1, hX2⟩ := objs_at (h := h₃) wr' (hSto _ _ hst₃)
       have hXw : ∀ q ∈ X, q.1 ∈ wr' := fun q hq => hX1 ▸ List.mem_map_of_mem hq
       obtain ⟨oC, heC, hoC⟩ := ns_obj hn₄
       have N₅ : News h₀ L h₄ ((C, oC) :: (D, lst ys) :: (news ++ X)) := fun q hq => by
        rcases List.mem_cons.mp hq with rfl | hq
        ·exact ⟨heC, Ne.symm hLC, hC₀⟩
        rcases List.mem_cons.mp hq with rfl | hq
        ·exact N₄ _ (.head _)
        rcases List.mem_append.mp hq with hq | hq
        ·exact N₄ q (.tail _ hq)
        ·have hw := hXw q hq
         exact ⟨hk₄ _ _ (fun e => (nf _ (hwlt _ hw)).2 e) (hX2 q hq), fun e => hL (e ▸ hw), hn0 _ hw⟩
       have hst₄ : St (i + 1) h₄ := W.frame _ _ _ hst₃ fun b hb o e => hk₄ b o (fun q => (nf b (hfl b hb)).2 q) e
       refine wpAny_mono (step X i v1 v2 ys C oC D _ h₄ tk₄ _ hlt hPv hR hoC (by simp [hxx]) (by simp) F₄ N₅) (fun y s₅ h₅ => ?_) fun _ _ e => e
       injections y s₅ h₅
       obtain ⟨h₆, tk₆, pz13⟩ := h₅
       rcases pz13 with ⟨rfl, pz14⟩
       obtain ⟨F₆, N₆, hR₆⟩ := pz14
       have zD := (N₆ _ (.tail _ (.head _))).1
       refine append_at (hsz := by show ys.toArray.size ≤ sizeLine; rw [List.size_toArray, hyl, sizeLine_eq]; omega) zD fun h₇ hs₇ hD₇ => ?_
       injections h₇ hs₇ hD₇
       have hst₆ : St (i + 1) h₆ := W.frame _ _ _ hst₄ fun b hb o e => by
        rcases hfp b hb with hb' | ⟨o', hb'⟩
        ·have pz15 : ∃ q ∈ X, q.1 = b := by
          rw [← hX1] at hb'
          obtain ⟨q, hq, e⟩ := List.mem_map.mp hb'
          exact ⟨q, hq, e⟩
         obtain ⟨q, hq, pz16⟩ := pz15
         rcases pz16 with rfl
         have e2 := (N₅ _ (.tail _ (.tail _ (List.mem_append_right _ hq)))).1
         rw [e] at e2
         cases e2
         exact (N₆ _ (.tail _ (.tail _ (List.mem_append_right _ hq)))).1
        ·have e2 := (N₅ _ (.tail _ (.tail _ (List.mem_append_left _ (hfx _ hb'))))).1
         rw [e] at e2
         cases e2
         exact (N₆ _ (.tail _ (.tail _ (List.mem_append_left _ (hfx _ hb'))))).1
       have hLD : L ≠ D := Nat.ne_of_lt hLlt
       refine ⟨n + 1 - (i + 1), by omega, h₇, tk₆, i + 1, ys ++ [y], _, rfl, hlt, rfl, by rw [List.length_append, List.length_singleton, hyl], W.frame _ _ _ hst₆ fun b hb o e => hs₇.extBut b o (fun q => (nf b (hfl b hb)).1 q) e,
        ⟨F₆.ns.at' fun o e => hs₇.extBut _ o hLD e, fun b o e => hs₇.extBut b o (fun q => by rw [q, hD₀] at e; cases e) (F₆.keep b o e), F₆.above⟩, (hoC.ns (N₆ _ (.head _)).1).sameBut hs₇ (Ne.symm hDC), fun q hq => ?_, hR₆⟩
       rcases List.mem_cons.mp hq with rfl | hq
       ·exact ⟨hD₇.trans (congrArg some (lst_snoc ys y)), Ne.symm hLD, hD₀⟩
       ·have z := N₆ q (.tail _ (.tail _ (List.mem_append_left _ hq)))
        exact ⟨hs₇.extBut _ _ (nf _ (hnl q hq)).1 z.1, z.2⟩
      ·obtain rfl : i = n := Nat.le_antisymm hi (Nat.not_lt.mp hlt)
       refine W.done _ _ _ hst' fun h₂ tk₂ hk₂ => ?_
       injections h₂ tk₂ hk₂
       obtain ⟨F₂, N₂⟩ := next _ _ F' N' hk₂
       exact hRR D C h₂ tk₂ m' ys news F₂ N₂ hnl (hn'.at' fun o e => hk₂ _ o hCw e) hC₀ (fun e => (nf L hLlt).2 e.symm) hDC (fun q hq => (nf _ (hnl q hq)).2) (fin ys hR)
    · rcases List.mem_cons.mp hp with rfl | hp
      ·exact ⟨hacc, Nat.ne_of_gt hLlt, hD₀⟩
      ·exact ⟨old _ _ (N p hp).1, (N p hp).2⟩
  exact codeAny_compStart_list (loop _ rfl) (W.self 0 _ _ _ hst₁ (loop _ rfl))
 fail "mk.b"
open LCg in
open LCg in
theorem Assign_ListComp_W {w : World} {A : Around} {E : Value → Shared → Prop} {s : Shared} {h₀ : Heap} {m : Str → Option Value} {env : Env} {elt iter : PySem.Expr} {x1 x2 y : Str} {p1 p2 tp py : Pos} {kk : Nat} {scope : Scope} {cl : List (Str × Addr)} {pos spos : Pos} {Q : Flow → Shared → Prop}
   (_F₀ : Fr h₀ env.locals s.heap m) (hh : A.handled = none) (hsw : swapsWith (.ListComp elt [⟨.Tuple [.Name x1 p1, .Name x2 p2] kk tp, iter, [], 0⟩] scope pos) (some (.Name y py)) spos.line env = pure true)
   (hclos : closureFor scope env = pure cl) (hcell : ∀ y ∈ scope.names, y.2 ≠ .cell) (hkind : scope.kind = .function)
   (hnames : ∀ y ∈ scope.names, y.2 = .local → scope.names.lookup y.1 = some .local) (hx1 : scope.names.lookup x1 = some .local) (hx2 : scope.names.lookup x2 = some .local) (hxx : x1 ≠ x2)
   (hy : env.kindOf y = some .local) (hp : (env.scope.kind == .class || (env.scope.kind == .module && env.locals != env.globals)) = false)
   (h : wpAny (model Challenge.rw_to0089_01.prog w) A (eval iter env) (SrcT w A h₀ env.locals m env elt x1 x2 scope cl (FinU h₀ env.locals m y Q)) E s)
   (hs : ∀ x, foldedSetIterable iter env x = pure x := by intros _; rfl) :
   wpAny (model Challenge.rw_to0089_01.prog w) A (exec (.Assign [.Name y py] (.ListComp elt [⟨.Tuple [.Name x1 p1, .Name x2 p2] kk tp, iter, [], 0⟩] scope pos) spos) env) Q E s := by
 fail "mk.a"
 case zl =>
  revert _F₀ hh hsw hclos hcell hkind hnames hx1 hx2 hxx hy hp h hs
  revert w A E s h₀ m env elt iter x1 x2 y p1 p2 tp py kk scope cl pos spos Q
  intro w A E s h₀ m env elt iter x1 x2 y p1 p2 tp py kk scope cl pos spos Q _F₀ hh hsw hclos hcell hkind hnames hx1 hx2 hxx hy hp h hs
  rw [exec_Assign_Name_used _ _ _ _ hsw]
  refine wpAny_bind (wpAny_standAt (wpAny_bind ?_))
  show wpAny _ A (do let _ ← comprehension (.ListComp elt [⟨.Tuple [.Name x1 p1, .Name x2 p2] kk tp, iter, [], 0⟩] scope pos) scope env _ (newList []) false (eval iter env) (some (assign (.Name y py) env))) _ _ s
  refine wpAny_bind (wpAny_mono (wpAny_comprehension_free (use := some (assign (.Name y py) env)) (Q := fun _ s' => Q .next s') rfl hs hclos hkind hnames
    (wpAny_mono h (fun xv s₁ h₁ => ?_) fun _ _ e => e)) (fun _ s' hq => wpAny_pure (wpAny_pure hq)) fun _ _ e => e)
  refine block_W hh hcell hkind hx1 hx2 hxx h₁ fun D C h tk m' ys news F N lt hn hC hCL hDC off fin => ?_
  injections D C h tk m' ys news F N lt hn hC hCL hDC off fin
  show wpAny _ A (assign (.Name y py) env (.ref D)) _ _ _
  refine wpAny_assign_Name (wpAny_storeName_local hy F.ns (fun h₂ hn₂ hs₂ => ?_) hp)
  injections h₂ hn₂ hs₂
  have F₂ := F.set hn₂ hs₂
  have N₂ := N.set hs₂
  refine ⟨m', hn.sameBut hs₂ hCL, fun h'' hs'' => fin D h'' _ ⟨F₂.ns.at' fun o e => hs''.extBut _ o (Ne.symm hCL) e, fun b o e => hs''.extBut b o (fun q => by rw [q, hC] at e; cases e) (F₂.keep b o e), F₂.above⟩ (fun q hq => ⟨hs''.extBut _ _ ?_ (N₂ q hq).1, (N₂ q hq).2⟩) lt⟩
  rcases List.mem_cons.mp hq with rfl | hq
  · exact hDC
  · exact off q hq
 fail "mk.b"
open LCg in
theorem SrcT.zip {w : World} {A : Around} {h₀ : Heap} {L : Addr} {m : Str → Option Value} {env : Env} {elt : PySem.Expr} {x1 x2 : Str} {scope : Scope} {cl : List (Str × Addr)} {Fin : Shared → List Value → List (Addr × Obj) → Prop} {s : Shared} {z TI TO i1 i2 l1 l2 : Addr} {n1 n2 : Nat} {xs ys : Array Value} {news : List (Addr × Obj)}
   (hA : A.handled = none) (D : ZipApart z TI TO i1 i2 l1 l2) (R : Nat → List Value → Prop)
   (hz : IsZip s.heap z TI TO .none) (hTI : IsPair s.heap TI (.ref i1) (.ref i2)) (hTO : IsPair s.heap TO .none .none) (h1 : s.heap.IsListIter i1 l1 0) (h2 : s.heap.IsListIter i2 l2 0)
   (m1 : (l1, listOf xs n1) ∈ news) (m2 : (l2, listOf ys n2) ∈ news) (hL : ∀ b ∈ [z, TI, TO, i1, i2], @LT.lt Nat _ L b) (h0 : ∀ b ∈ [z, TI, TO, i1, i2], h₀.get? b = none) (F : Fr h₀ L s.heap m) (N : News h₀ L s.heap news) (off : ∀ q ∈ news, ∀ b ∈ [z, TI, TO, i1, i2], @LT.lt Nat _ q.1 b)
   (hn : min xs.size ys.size ≤ 100000) (hR0 : R 0 [])
   (step : ∀ X i x y vs C oC D m₂ h tk (E' : Value → Shared → Prop), xs[i]? = some x → ys[i]? = some y → R i vs → NsObj oC m₂ → m₂ x1 = some x → m₂ x2 = some y → Fr h₀ L h m → News h₀ L h ((C, oC) :: (D, lst vs) :: (news ++ X)) →
     wpAny (model Challenge.rw_to0089_01.prog w) A (eval elt (compEnvC scope cl C env)) (MapEnd h₀ L m { s with heap := h, toks := tk } ((C, oC) :: (D, lst vs) :: (news ++ X)) (fun y => R (i + 1) (vs ++ [y]))) E' { s with heap := h, toks := tk })
   (fin : ∀ vs, R (min xs.size ys.size) vs → Fin s vs news) : SrcT w A h₀ L m env elt x1 x2 scope cl Fin (.ref z) s := by
 fail "mk.a"
 case zl =>
  revert hA D hz hTI hTO h1 h2 m1 m2 hL h0 F N off hn hR0 step fin
  revert w A h₀ L m env elt x1 x2 scope cl Fin s z TI TO i1 i2 l1 l2 n1 n2 xs ys news R
  intro w A h₀ L m env elt x1 x2 scope cl Fin s z TI TO i1 i2 l1 l2 n1 n2 xs ys news R hA D hz hTI hTO h1 h2 m1 m2 hL h0 F N off hn hR0 step fin
  have hl1 := N _ m1
  have hl2 := N _ m2
  refine ⟨z, _, _, _, _, _, _, [z, TI, TO, i1, i2], [(l1, listOf xs n1), (l2, listOf ys n2)], news, R, rfl, WalksT.zip2 hA z TI TO i1 i2 l1 l2 D xs ys, fun b hb => by simp at hb ⊢; rcases hb with rfl | rfl | rfl | rfl <;> simp, fun b hb => by simp at hb ⊢; rcases hb with rfl | rfl | rfl | rfl | rfl <;> simp, fun i h st b hb => ?_, fun b hb => ?_, fun i vs hv => ?_, fun q hq => ?_,
    fun hb => Nat.lt_irrefl _ (hL _ hb), h0, fun b hb => ?_, hn, ⟨hz, hTI, ⟨_, _, hTO⟩, h1, h2, ⟨_, hl1.1, rfl, n1, rfl⟩, ⟨_, hl2.1, rfl, n2, rfl⟩⟩, F, N, fun q hq hb => Nat.lt_irrefl _ (off q hq _ hb), hR0, fun X i v1 v2 vs C oC DD m₂ h tk E' hi hv hR hoC e1 e2 F N => ?_, fin⟩
  · obtain ⟨a1, a2, pz18⟩ := st
    rcases pz18 with ⟨pz20, pz19⟩
    obtain ⟨a, b', a3⟩ := pz20
    rcases pz19 with ⟨pz22, pz21⟩
    obtain ⟨o4, a4, pu23⟩ := pz22
    rcases pz21 with ⟨pz25, pz24⟩
    obtain ⟨o5, a5, pu26⟩ := pz25
    simp at hb
    rcases hb with rfl | rfl | rfl | rfl | rfl
    · exact ⟨_, a1⟩
    · exact ⟨_, a2⟩
    · exact ⟨_, a3⟩
    · exact ⟨_, a4⟩
    · exact ⟨_, a5⟩
  · simp at hb ⊢
    rcases hb with rfl | rfl | rfl | rfl | rfl | rfl | rfl <;> simp
  · obtain ⟨x, y, pu28, pu29, pz30⟩ := hv
    rcases pz30 with rfl
    exact ⟨x, y, rfl⟩
  · simp at hq
    rcases hq with rfl | rfl
    · exact m1
    · exact m2
  · obtain ⟨o4, a4, pu32⟩ := h1
    obtain ⟨o5, a5, pu34⟩ := h2
    simp at hb
    rcases hb with rfl | rfl | rfl | rfl | rfl | rfl | rfl
    · exact Heap.lt_size hz
    · exact Heap.lt_size hTI
    · exact Heap.lt_size hTO
    · exact Heap.lt_size a4
    · exact Heap.lt_size a5
    · exact Heap.lt_size hl1.1
    · exact Heap.lt_size hl2.1
  · obtain ⟨x, y, ex, ey, e⟩ := hv
    cases e
    exact step X i v1 v2 vs C oC DD m₂ h tk E' ex ey hR hoC e1 e2 F N
 fail "mk.b"
end
section
theorem deg_ask {h₀ h : Heap} {L a b c : Addr} {o1 o2 o3 : Obj} {r : List (Addr × Obj)} {R : Prop} (_N : News h₀ L h ((a, o1) :: (b, o2) :: (c, o3) :: r)) (k : ∀ b' c', b' = b → c' = c → R) : R := k _ _ rfl rfl
theorem strs_at {vs : List Value} {zs : List Str} (h : StrsAre vs zs) : ∀ {i : Nat} {v : Value}, vs[i]? = some v → ∃ z t, zs[i]? = some z ∧ v = .str z t := by
 induction h with
 | nil => intros i v hv; simp at hv
 | cons k t h ih =>
  intros i v hv
  cases i with
  | zero => exact ⟨k, t, rfl, (by simpa using hv.symm)⟩
  | succ j => exact ih (by simpa using hv)
theorem ints_push {ds : Array Value} {dI : List Int} (h : IntsAre ds.toList dI) (k : Int) (t : Tok) : IntsAre (ds.push (.int k t)).toList (dI ++ [k]) := by
 rw [Array.toList_push]
 exact ints_snoc h k t
theorem off_new {d e it op g w : Addr} {news X rest : List (Addr × Obj)} {od o1 o2 o3 o4 o5 : Obj} (hX : X.map (·.1) = [e, it]) (hr : news ++ X = rest) (hA : AllLt d rest) (off : ∀ q ∈ (op, o1) :: (g, o2) :: (w, o3) :: news, q.1 ∉ [e, it]) :
  ∀ q ∈ (d, od) :: (g, o4) :: (w, o5) :: news, q.1 ∉ [e, it] := by
 intros q hq hb
 rcases List.mem_cons.mp hq with rfl | hq
 ·rw [← hX] at hb
  rcases List.mem_map.mp hb with ⟨r, hr', he⟩
  have := allLt_mem hA r (hr ▸ List.mem_append_right _ hr')
  rw [he] at this
  exact Nat.lt_irrefl _ this
 rcases List.mem_cons.mp hq with rfl | hq
 ·exact off (g, o2) (.tail _ (.head _)) hb
 rcases List.mem_cons.mp hq with rfl | hq
 ·exact off (w, o3) (.tail _ (.tail _ (.head _))) hb
 ·exact off q (.tail _ (.tail _ (.tail _ hq))) hb
theorem filt_mem {op dg wl I D : Addr} {o1 o2 o3 oI oD : Obj} {rest : List (Addr × Obj)} (h1 : @LT.lt Nat _ op I) (h2 : @LT.lt Nat _ dg I) (h3 : @LT.lt Nat _ wl I) (h4 : ∀ q ∈ rest, q.1 ≠ I) :
  ∀ q ∈ (op, o1) :: (dg, o2) :: (wl, o3) :: rest, q ∈ ((I, oI) :: (D, oD) :: (op, o1) :: (dg, o2) :: (wl, o3) :: rest).filter fun q => q.1 != I := by
 intros q hq
 refine List.mem_filter.mpr ⟨.tail _ (.tail _ hq), ?_⟩
 have hne : q.1 ≠ I := by
  simp only [List.mem_cons] at hq
  rcases hq with rfl | rfl | rfl | hq
  ·exact Nat.ne_of_lt h1
  ·exact Nat.ne_of_lt h2
  ·exact Nat.ne_of_lt h3
  ·exact h4 q hq
 simpa using hne
theorem deg_mem {a b c d : Addr × Obj} {r : List (Addr × Obj)} {e : Addr × Obj} : ∀ q ∈ b :: c :: d :: r, q ∈ a :: e :: b :: c :: d :: r := fun q hq => .tail _ (.tail _ hq)
noncomputable abbrev slashes (x : Str) : Int := Txt.count x (Str.ofString "/")
noncomputable def pickTo (l : List Int) (j : Int) : List Int := l.take (kms_hi (some j) l.length)
theorem ints_take {vs : List Value} {ns : List Int} (h : IntsAre vs ns) : ∀ k, IntsAre (vs.take k) (ns.take k) := by
 induction h with
 | nil => intros k; simp; exact .nil
 | cons k t h ih =>
  intros j
  cases j with
  | zero => exact .nil
  | succ j => exact .cons k t (ih j)
theorem pick_to {vs : Array Value} {ns : List Int} (h : IntsAre vs.toList ns) (j : Int) : IntsAre (kms_pick vs.toList none (some j)).toArray.toList (pickTo ns j) := by
 unfold kms_pick pickTo kms_lo
 simp only [Nat.sub_zero, List.drop_zero]
 have hl : vs.toList.length = ns.length := IntsAre.length h
 rw [hl]
 exact ints_take h _
theorem turn_led {h₀ h : Heap} {L : Addr} {d op g w : Addr × Obj} {news X rest : List (Addr × Obj)} (N : News h₀ L h (d :: op :: g :: w :: rest)) (hr : news ++ X = rest) : News h₀ L h ((d :: g :: w :: news) ++ X) := fun q hq => by
 subst hr
 refine N q ?_
 simp only [List.cons_append, List.mem_cons, List.mem_append] at hq ⊢
 rcases hq with h | h | h | h | h <;> simp [h]
noncomputable def degStep (st : List Int × List Int) (i : Nat) (z : Str) : List Int × List Int :=
 (match st.2.getLast? with
  | none => st.1 ++ [0]
  | some h => (st.1 ++ [1]).set h.toNat ((st.1 ++ [1]).getD h.toNat 0 + 1), pickTo (st.2 ++ [(i : Int)]) ((st.2.length : Int) + 1 - slashes z))
noncomputable def degF : Nat → List Str → List Int × List Int
 | 0, _ => ([], [])
 | i + 1, zs => degStep (degF i zs) i (zs.getD i Str.empty)
theorem and4 {p q r t : Prop} (h : p ∧ q ∧ r ∧ t) : t ∧ q := ⟨h.2.2.2, h.2.1⟩
theorem deg_empty {dI oI : List Int} {i : Nat} {zs : List Str} {z : Str} (hst : (dI, oI) = degF i zs) (hos : IntsAre [] oI) (hz : zs[i]? = some z) : (dI ++ [0], pickTo (oI ++ [(i : Int)]) (1 - Txt.count z (Str.ofString "/"))) = degF (i + 1) zs := by
 have h0 : oI = [] := by cases hos; rfl
 subst h0
 unfold degF
 rw [← hst]
 have : zs.getD i Str.empty = z := by rw [List.getD_eq_getElem?_getD, hz]; rfl
 rw [this]
 simp [degStep]
theorem deg_one {dI oI : List Int} {i : Nat} {zs : List Str} {z : Str} {hI' : Int} {v : Value} (hst : (dI, oI) = degF i zs) (hoI : oI ≠ []) (hh : lastI oI = hI') (hz : zs[i]? = some z) {j : Int} (hl : j = (oI.length : Int) + 1 - Txt.count z (Str.ofString "/")) :
  ((if (#[v] : Array Value).size = 0 then dI ++ [1] else (dI ++ [1]).set hI'.toNat ((dI ++ [1]).getD hI'.toNat 0 + 1)), pickTo (oI ++ [(i : Int)]) j) = degF (i + 1) zs := by
 rw [if_neg (by simp)]
 unfold degF
 rw [← hst]
 have : zs.getD i Str.empty = z := by rw [List.getD_eq_getElem?_getD, hz]; rfl
 rw [this, hl]
 have hg : oI.getLast? = some hI' := by
  rw [← hh]
  unfold lastI
  cases h : oI.getLast? with
  | none => exact absurd (List.getLast?_eq_none_iff.mp h) hoI
  | some x => rw [List.getLastD_eq_getLast?, h]; rfl
 simp only [degStep, hg]
theorem degF_ok (zs : List Str) : ∀ i, (degF i zs).1.length = i ∧ (degF i zs).2.length ≤ i ∧ ∀ x ∈ (degF i zs).2, 0 ≤ x ∧ x < (i : Int)
 | 0 => ⟨rfl, Nat.le_refl _, fun x hx => by cases hx⟩
 | i + 1 => by
  rcases degF_ok zs i with ⟨h1, h2, h3⟩
  refine ⟨?_, ?_, fun x hx => ?_⟩
  ·show (degStep (degF i zs) i _).1.length = i + 1
   unfold degStep
   dsimp only
   split
   ·rw [List.length_append, h1]; rfl
   ·rw [List.length_set, List.length_append, h1]; rfl
  ·show (degStep (degF i zs) i _).2.length ≤ i + 1
   unfold degStep pickTo
   dsimp only
   rw [List.length_take, List.length_append, List.length_singleton]
   omega
  ·have hx' : x ∈ (degF i zs).2 ++ [(i : Int)] := List.mem_of_mem_take hx
   rcases List.mem_append.mp hx' with h | h
   ·have := h3 x h; omega
   ·rw [List.mem_singleton.mp h]; omega
theorem degrees_spec (hfill : PR = PR) (B : Below A₀ base outer h₀) (F : Fr h₀ L s.heap m) (X : (K0.heap_1 w.params).In h₀) (T : Top p loose mean mg mb h₀) (hk : cs.kind = .function) (hd : dp + 3 < recursionLimit) (hu : un + 60 < cLine)
   (wl : Addr) (ws : Array Value) (wn : Nat) (zs : List Str) (news : List (Addr × Obj)) (N : News h₀ L s.heap ((wl, listOf ws wn) :: news)) (hS : StrsAre ws.toList zs) (hzl : zs.length ≤ 1000)
   (hret : ∀ dg ds dn h' tk', Fr h₀ L h' m → News h₀ L h' ((dg, listOf ds dn) :: (wl, listOf ws wn) :: news) → IntsAre ds.toList (degF zs.length zs).1 → (∀ q ∈ news, q.1 < dg) → @LT.lt Nat _ wl dg → Q (.ref dg) { s with heap := h', toks := tk' })
   :
   wpAny (model Challenge.rw_to0089_01.prog w) (ktrTop dp un gd cn cs L a ccd cl outer) (call (.ref 350) [.ref wl]) Q E s := by
 fail "mk.a"
 case zl =>
  revert hfill B F X T hk hd hu N hS hzl hret
  revert w p loose mean mg mb dp un gd cn cs a ccd cl outer A₀ base h₀ L m s Q E wl ws wn zs news
  intro w p loose mean mg mb dp un gd cn cs a ccd cl outer A₀ base h₀ L m s Q E wl ws wn zs news hfill B F X T hk hd hu N hS hzl hret
  revert X; k_fill; intro X; refine wpAny_call ?_; first | k_dflt (fail "my.enter") | fail
  (repeat' first | (fail "g5"; refine stop_of ?_) | fail "k1")
  unfold Stop
  rename Fr _ _ _ _ => F9
  rename News _ _ _ _ => N9
  refine deg_ask N9 fun op0 dg e1 e2 => ?_
  injections op0 dg e1 e2
  subst e1 e2
  have hA : AllLt dg news ∧ @LT.lt Nat _ wl dg ∧ @LT.lt Nat _ dg op0 := by
    rename _ ∧ AllLt dg news => hA0
    rename _ ∧ _ ∧ AllLt op0 news => hA1
    exact ⟨hA0.2, hA0.1, hA1.1⟩
  obtain ⟨hA, hwd, hdo⟩ := hA
  have hnd := allLt_mem hA
  obtain ⟨mL, eL⟩ := fr_name F9
  have N8 : News _ _ _ ((op0, listOf #[] 0) :: (dg, listOf #[] 0) :: (wl, listOf ws wn) :: news) := fun q hq => N9 q (.tail _ hq)
  k_dflt (refine' for_T1 F9 rfl rfl rfl rfl ?h)
  (repeat' first | ((with_reducible show wpAny _ _ (call (Value.type "enumerate") _) _ _ _); refine stop_of ?_) | fail "k1")
  unfold Stop
  k_dflt (refine' enum_K F9 N8 ?m1 (fun e it h2 o1 o2 o3 z1 z2 F7 N7 lo lL g0 => ?_))
  injections e it h2 o1 o2 o3 z1 z2 F7 N7 lo lL g0
  case m1 => exact .tail _ (.tail _ (.head _))
  refine ForT.enum (l := wl) (n1 := wn) (xs := ws) rfl o1 o2 o3 (fun i m₁ nw => (∀ y, y ≠ Str.ofString "opened" → y ≠ Str.ofString "place" → y ≠ Str.ofString "word" → y ≠ Str.ofString "holder" → m₁ y = mL y) ∧ ∃ (op : Addr) (ds os : Array Value) (dn on : Nat) (dI oI : List Int), m₁ (Str.ofString "opened") = some (.ref op) ∧ nw = (op, listOf os on) :: (dg, listOf ds dn) :: (wl, listOf ws wn) :: news ∧ IntsAre ds.toList dI ∧ IntsAre os.toList oI ∧ @LT.lt Nat _ dg op ∧ (dI, oI) = degF i zs) z1 z2 ?_ ?_ g0 F7 N7 ?_ ?_ ?_ ?_
  · intro i m nw pz1
    obtain ⟨pu2, op, ds, os, dn, on, dI, oI, pu3, pz4⟩ := pz1
    rcases pz4 with ⟨rfl, pz5⟩
    exact .tail _ (.tail _ (.head _))
  · intro hb
    exact absurd (lL _ hb) (Nat.lt_irrefl _)
  · intro q hq hb
    exact absurd (lo q hq _ hb) (Nat.lt_irrefl _)
  · exact ⟨fun y _ _ _ _ => by rw [eL], op0, #[], #[], 0, 0, [], [], by rfl, rfl, .nil, .nil, hdo, rfl⟩
  · intro X i t v2 m₁ nw h tk hx hX off pz6
    obtain ⟨hmo, op, ds, os, dn, on, dI, oI, hop, pz7⟩ := pz6
    rcases pz7 with ⟨rfl, pz8⟩
    obtain ⟨hds, hos, hdop, hst⟩ := pz8
    intro F5 N5
    have em : m₁ = fun y => if y = Str.ofString "opened" then some (.ref op) else if y = Str.ofString "place" then m₁ (Str.ofString "place") else if y = Str.ofString "word" then m₁ (Str.ofString "word") else if y = Str.ofString "holder" then m₁ (Str.ofString "holder") else mL y := by
     funext y
     by_cases h1 : y = Str.ofString "opened"
     ·rw [if_pos h1, h1]; exact hop
     ·rw [if_neg h1]
      by_cases h2 : y = Str.ofString "place"
      ·rw [if_pos h2, h2]
      ·rw [if_neg h2]
       by_cases h3 : y = Str.ofString "word"
       ·rw [if_pos h3, h3]
       ·rw [if_neg h3]
        by_cases h4 : y = Str.ofString "holder"
        ·rw [if_pos h4, h4]
        ·rw [if_neg h4]; exact hmo y h1 h2 h3 h4
    generalize m₁ (Str.ofString "place") = u1 at em
    generalize m₁ (Str.ofString "word") = u2 at em
    generalize m₁ (Str.ofString "holder") = u3 at em
    clear hmo hop
    subst em
    rw [eL] at F5
    simp only [List.cons_append] at N5
    have pz9 := strs_at hS (by simpa using hx)
    obtain ⟨z, tz, hz, pz10⟩ := pz9
    rcases pz10 with rfl
    have hXm : ∀ q ∈ X, q.1 ∈ [e, it] := fun q hq => hX ▸ List.mem_map_of_mem hq
    have hd1 : ∀ q ∈ news ++ X, q.1 ≠ dg := fun q hq => by
     rcases List.mem_append.mp hq with hq | hq
     ·exact Nat.ne_of_lt (hnd q hq)
     ·exact fun h => off _ (.tail _ (.head _)) (h ▸ hXm q hq)
    have ho1 : ∀ q ∈ news ++ X, q.1 ≠ op := fun q hq => by
     rcases List.mem_append.mp hq with hq | hq
     ·exact Nat.ne_of_lt (Nat.lt_trans (hnd q hq) hdop)
     ·exact fun h => off _ (.head _) (h ▸ hXm q hq)
    generalize hrest : news ++ X = rest at N5 hd1 ho1
    have hil0 : i < zs.length := by
     rcases Nat.lt_or_ge i zs.length with h | h
     ·exact h
     ·rw [List.getElem?_eq_none h] at hz; cases hz
    obtain ⟨dk1, dk2, dk3⟩ := degF_ok zs i
    rw [← hst] at dk1 dk2 dk3
    have hdsz : ds.size ≤ 1000 := by
     have := IntsAre.length hds
     simp only [Array.length_toList] at this
     dsimp only at dk1
     omega
    have pz11 : ∃ l : List Value, os = l.toArray := ⟨os.toList, by simp⟩
    obtain ⟨osl, pz12⟩ := pz11
    rcases pz12 with rfl
    replace hos : IntsAre osl oI := hos
    have hosz : osl.length ≤ 1000 := by
     have := IntsAre.length hos
     dsimp only at dk2
     omega
    rcases List.eq_nil_or_concat osl with rfl | ⟨os', last, hcc⟩
    ·have hpk : kms_pick (([] : List Value).toArray.toList) (some (-1)) none = [] := rfl
     (repeat' first | (fail "g4"; k_dflt (refine' kms_slice_lit ?F ?N ?l ?p ?q ?e ?_ ?s ?t ?z; (case F | N => k_asm); (case l => first | kmk_list | is_list); (case p => kmk_part); (case q => first | kmk_part | exact IsPart.int _ _); (case e => first | assumption | exact rfl); (case s => with_unfolding_all rfl); (case t => kmk_pure); (case z => ((simp only [List.size_toArray, Array.size_push, PySem.sizeLine_eq]); omega)); intro D' h' F' N' l1); (try k_lt l1)) | (fail "g5"; refine stop_of ?_) | fail "k1")
     unfold Stop
     rename Fr _ _ _ _ => F6
     rename News _ _ _ _ => N6
     k_dflt (refine' for_list1 F6 (items := #[]) (k := 0) (fun i nw g => g = s.gens ∧ ∃ (ds' : Array Value) (dn' : Nat), IntsAre ds'.toList (dI ++ [0]) ∧ ∀ q ∈ (op, listOf ([] : List Value).toArray on) :: (dg, listOf ds' dn') :: (wl, listOf ws wn) :: rest, q ∈ nw) rfl rfl rfl ?h1)
     case h1 =>
      (repeat' first | (fail "g4"; k_dflt (refine' kms_slice_lit ?F ?N ?l ?p ?q ?e ?_ ?s ?t ?z; (case F | N => k_asm); (case l => first | kmk_list | is_list); (case p => kmk_part); (case q => first | kmk_part | exact IsPart.int _ _); (case e => first | assumption | exact rfl); (case s => with_unfolding_all rfl); (case t => kmk_pure); (case z => ((simp only [List.size_toArray, Array.size_push, PySem.sizeLine_eq]); omega)); intro D' h' F' N' l1); (try k_lt l1)) | ((with_reducible show ForL1 ..); (refine stop_of ?_)) | fail "k1")
      unfold Stop
      rename News _ _ _ _ => N7
      refine ForL1.intro (by k_asm) N7 (.head _) ⟨rfl, _, _, ints_push hds 0 _, deg_mem⟩ ?_ ?_
      ·intro I oI i v news₁ h tk g hv
       simp at hv
      ·intro u news₁ h5 tk5 g pz13
       rcases pz13 with ⟨rfl, pz14⟩
       obtain ⟨ds', dn', hI, hsub⟩ := pz14
       intro F8 N8
       have hdsz' : ds'.size ≤ 1001 := by
        have h9 := IntsAre.length hI
        have h10 := IntsAre.length hds
        simp only [Array.length_toList, List.length_append, List.length_singleton] at h9 h10
        omega
       have N9 := news_sub N8 hsub
       dsimp only
       (repeat' first | (fail "g4"; k_dflt (refine' kms_slice_lit ?F ?N ?l ?p ?q ?e ?_ ?s ?t ?z; (case F | N => k_asm); (case l => first | kmk_list | is_list); (case p => kmk_part); (case q => first | kmk_part | exact IsPart.int _ _); (case e => first | assumption | exact rfl); (case s => with_unfolding_all rfl); (case t => kmk_pure); (case z => ((simp only [List.size_toArray, Array.size_push, PySem.sizeLine_eq]); omega)); intro D' h' F' N' l1); (try k_lt l1)) | ((with_reducible show TurnZ ..); (refine stop_of ?_)) | fail "k1")
       all_goals
        unfold Stop
        rename Fr _ _ _ _ => F10
        rename News _ _ _ _ => N10
        refine TurnZ.intro F10 (turn_led N10 hrest) (off_new hX hrest (and4 (p := @LT.lt Nat _ op _) (q := @LT.lt Nat _ dg _) (r := @LT.lt Nat _ wl _) (by assumption)).1 off) ⟨fun y h1 h2 h3 h4 => by simp only [if_neg h1, if_neg h2, if_neg h3, if_neg h4, eL], _, _, _, _, _, _, _, by rfl, rfl, hI, pick_to (ints_push hos i t) _, (and4 (p := @LT.lt Nat _ op _) (r := @LT.lt Nat _ wl _) (t := AllLt _ rest) (by assumption)).2, ?_⟩
        exact deg_empty hst hos hz
    ·injections os' last hcc
     replace hcc : osl = os' ++ [last] := by rw [hcc, List.concat_eq_append]
     subst hcc
     have hoI : oI ≠ [] := by
      intro h0
      subst h0
      have := IntsAre.length hos
      simp at this
     obtain ⟨th, hlast⟩ := ints_last hos hoI
     rw [List.getLast?_concat] at hlast
     cases hlast
     generalize hhI : lastI oI = hI' at hos hosz N5 off
     have hpk : kms_pick ((os' ++ [Value.int hI' th]).toArray.toList) (some (-1)) none = [Value.int hI' th] := by
      unfold kms_pick kms_lo kms_hi
      simp
     have hrange : 0 ≤ hI' ∧ hI' ≤ ds.size := by
      have hm : hI' ∈ oI := by
       rw [← hhI]
       unfold lastI
       cases h : oI.getLast? with
       | none => exact absurd (List.getLast?_eq_none_iff.mp h) hoI
       | some x => rw [List.getLastD_eq_getLast?, h]; exact List.mem_of_getLast? h
      have h9 := dk3 hI' hm
      have := IntsAre.length hds
      simp only [Array.length_toList] at this
      dsimp only at dk1
      omega
     (repeat' first | (fail "g4"; k_dflt (refine' kms_slice_lit ?F ?N ?l ?p ?q ?e ?_ ?s ?t ?z; (case F | N => k_asm); (case l => first | kmk_list | is_list); (case p => kmk_part); (case q => first | kmk_part | exact IsPart.int _ _); (case e => first | assumption | exact rfl); (case s => with_unfolding_all rfl); (case t => kmk_pure); (case z => ((simp only [List.size_toArray, Array.size_push, PySem.sizeLine_eq]); omega)); intro D' h' F' N' l1); (try k_lt l1)) | (fail "g5"; refine stop_of ?_) | fail "k1")
     unfold Stop
     rename Fr _ _ _ _ => F6
     rename News _ _ _ _ => N6
     k_dflt (refine' for_list1 F6 (items := #[Value.int hI' th]) (k := 0) (fun j nw g => g = s.gens ∧ ∃ (ds' : Array Value) (dn' : Nat), IntsAre ds'.toList (if j = 0 then dI ++ [1] else (dI ++ [1]).set hI'.toNat ((dI ++ [1]).getD hI'.toNat 0 + 1)) ∧ ds'.size ≤ 1001 ∧ ∀ q ∈ (op, listOf (os' ++ [Value.int hI' th]).toArray on) :: (dg, listOf ds' dn') :: (wl, listOf ws wn) :: rest, q ∈ nw) rfl rfl rfl ?h1)
     case h1 =>
      (repeat' first | (fail "g4"; k_dflt (refine' kms_slice_lit ?F ?N ?l ?p ?q ?e ?_ ?s ?t ?z; (case F | N => k_asm); (case l => first | kmk_list | is_list); (case p => kmk_part); (case q => first | kmk_part | exact IsPart.int _ _); (case e => first | assumption | exact rfl); (case s => with_unfolding_all rfl); (case t => kmk_pure); (case z => ((simp only [List.size_toArray, Array.size_push, PySem.sizeLine_eq]); omega)); intro D' h' F' N' l1); (try k_lt l1)) | ((with_reducible show ForL1 ..); (refine stop_of ?_)) | fail "k1")
      unfold Stop
      rename News _ _ _ _ => N7
      rename _ ∧ _ ∧ _ ∧ _ ∧ AllLt _ rest => hA2
      refine ForL1.intro (by k_asm) N7 (.head _) ⟨rfl, _, _, ints_push hds 1 _, by rw [Array.size_push]; omega, deg_mem⟩ ?_ ?_
      ·intro I oI2 j v news₁ h5 tk5 g hv hlt hne hit hax pz15
       rcases pz15 with ⟨rfl, pz16⟩
       obtain ⟨ds', dn', hI, hds', hsub⟩ := pz16
       intro F8 N8
       have hj : j = 0 := by
        rcases Nat.eq_zero_or_pos j with h0 | h0
        ·exact h0
        ·rw [Array.getElem?_eq_none (by simp; omega)] at hv
         cases hv
       subst hj
       have hv' : v = Value.int hI' th := by simpa using hv.symm
       subst hv'
       have pz17 : ∃ l : List Value, ds' = l.toArray := ⟨ds'.toList, by simp⟩
       obtain ⟨dl, pz18⟩ := pz17
       rcases pz18 with rfl
       rw [if_pos rfl] at hI
       replace hI : IntsAre dl (dI ++ [1]) := hI
       have hil : hI' < ((dI ++ [1]).length : Int) := by
        have := IntsAre.length hds
        simp only [Array.length_toList] at this
        rw [List.length_append, List.length_singleton]
        omega
       obtain ⟨hi0, pu20⟩ := hrange
       have hdI : @LT.lt Nat _ dg I := hlt (dg, _) (.tail _ (.tail _ (.tail _ (.head _))))
       have hoI2 : @LT.lt Nat _ op I := hlt (op, _) (.tail _ (.tail _ (.head _)))
       have hwI : @LT.lt Nat _ wl I := hlt (wl, listOf ws wn) (.tail _ (.tail _ (.tail _ (.tail _ (.head _)))))
       have hrI : ∀ q ∈ rest, q.1 ≠ I := fun q hq => Nat.ne_of_lt (hlt q (.tail _ (.tail _ (.tail _ (.tail _ (.tail _ hq))))))
       clear hlt
       have N9 := news_sub N8 (List.forall_mem_cons.mpr ⟨.head _, List.forall_mem_cons.mpr ⟨.tail _ hax, fun q hq => .tail _ (hsub q hq)⟩⟩)
       (repeat' first | ((with_reducible show wpAny _ _ (getItem (Value.ref _) (Value.int _ _)) _ _ _); refine stop_of ?_) | fail "k1")
       unfold Stop
       have hfit : hI' < 2 ^ 63 := by omega
       have hIg : ∀ q ∈ rest, q.1 ≠ dg := hd1
       k_dflt (refine' ksa_get N9 (.tail _ (.tail _ (.tail _ (.head _)))) hI hi0 hil hfit (fun tg => ?_))
       injections tg
       (repeat' first | ((with_reducible show wpAny _ _ (setItem (Value.ref _) (Value.int _ _) (Value.int _ _)) _ _ _); refine stop_of ?_) | fail "k1")
       unfold Stop
       k_dflt (refine' ksa_set (F := ?w1) (N := N9) (U := ?w3) hI hi0 hil hfit (fun h6 F10 N10 hI2 hI3 hI4 => ?_); (case w1 => k_asm); (case w3 => k_upd))
       injections h6 F10 N10 hI2 hI3 hI4
       (repeat' first | ((with_reducible show TurnL1 ..); (refine stop_of ?_)) | fail "k1")
       unfold Stop
       refine TurnL1.intro (by k_asm) (fun y hy => by simp only [if_neg hy]) N10 (.head _) (.tail _ (.head _)) ⟨rfl, _, dn', ?_, ?_, filt_mem hoI2 hdI hwI hrI⟩
       ·rw [if_neg (by omega)]
        exact hI2
       ·rw [List.size_toArray, List.length_set]
        simpa using hds'
      ·intro u news₁ h5 tk5 g pz21
       rcases pz21 with ⟨rfl, pz22⟩
       obtain ⟨ds', dn', hI, hds', hsub⟩ := pz22
       intro F8 N8
       have N9 := news_sub N8 hsub
       dsimp only
       have hlen2 : (os' ++ [Value.int hI' th] ++ [Value.int (i : Nat) t]).toArray.size ≤ 1001 := by
        rw [List.size_toArray, List.length_append, List.length_singleton]
        omega
       have hlen3 : (os' ++ [Value.int hI' th] ++ [Value.int (i : Nat) t]).length ≤ 1001 := by simpa using hlen2
       (repeat' first | (fail "g4"; k_dflt (refine' kms_slice_lit ?F ?N ?l ?p ?q ?e ?_ ?s ?t ?z; (case F | N => k_asm); (case l => first | kmk_list | is_list); (case p => kmk_part); (case q => first | kmk_part | exact IsPart.int _ _); (case e => first | assumption | exact rfl); (case s => with_unfolding_all rfl); (case t => kmk_pure); (case z => ((simp only [List.size_toArray, Array.size_push, PySem.sizeLine_eq]); omega)); intro D' h' F' N' l1); (try k_lt l1)) | ((with_reducible show TurnZ ..); (refine stop_of ?_)) | fail "k1")
       unfold Stop
       rename Fr _ _ _ _ => F10
       rename News _ _ _ _ => N10
       exact TurnZ.intro F10 (turn_led N10 hrest) (off_new hX hrest (and4 (p := @LT.lt Nat _ op _) (q := @LT.lt Nat _ dg _) (r := @LT.lt Nat _ wl _) (by assumption)).1 off) ⟨fun y h1 h2 h3 h4 => by simp only [if_neg h1, if_neg h2, if_neg h3, if_neg h4, eL], _, _, _, _, _, _, _, by rfl, rfl, hI, pick_to (ints_snoc hos (i : Nat) t) _, (and4 (p := @LT.lt Nat _ op _) (r := @LT.lt Nat _ wl _) (t := AllLt _ rest) (by assumption)).2, deg_one hst hoI hhI hz (by rw [← IntsAre.length hos]; simp; try omega)⟩
  · intro m₁ nw h tk pz23
    obtain ⟨hmo, op, ds, os, dn, on, dI, oI, hop, pz24⟩ := pz23
    rcases pz24 with ⟨rfl, pz25⟩
    obtain ⟨hds, hos, hdop, hst⟩ := pz25
    intro F5 N5
    have hdm : m₁ (Str.ofString "degrees") = some (.ref dg) := by
     rw [hmo _ (by decide) (by decide) (by decide) (by decide), eL]
     rfl
    have em2 : m₁ = fun y => if y = Str.ofString "degrees" then some (.ref dg) else m₁ y := by
     funext y
     by_cases h1 : y = Str.ofString "degrees"
     ·rw [if_pos h1, h1]; exact hdm
     ·rw [if_neg h1]
    rw [em2] at F5
    dsimp only
    k_steps
    rename News h₀ L _ _ => N10
    have hsz : ws.size = zs.length := strs_size hS
    rw [hsz] at hst
    refine hret dg ds dn _ _ (by k_asm) (fun q hq => N10 q (.tail _ hq)) ?_ hnd hwd
    rw [← hst]
    exact hds
 fail "mk.b"
end
section
local macro_rules | `(tactic| kmk_nums) => dy "w11" #[]
theorem strs_get {vs : Array Value} {zs : List Str} (h : StrsAre vs.toList zs) {i : Nat} {z : Str} (hz : zs[i]? = some z) : ∃ t, vs[i]? = some (.str z t) := by
 have hl := strs_size h
 have hi : i < zs.length := by
  rcases Nat.lt_or_ge i zs.length with h1 | h1
  ·exact h1
  ·rw [List.getElem?_eq_none h1] at hz; cases hz
 have hv : vs[i]? = some (vs[i]'(by omega)) := Array.getElem?_eq_getElem _
 obtain ⟨z', t, hz', e⟩ := strs_at h (i := i) (by rw [Array.getElem?_toList]; exact hv)
 rw [hz] at hz'
 cases hz'
 exact ⟨t, by rw [hv, e]⟩
theorem ap_ask {M : Int} {l : List Int} {R : Prop} (_h : M ∈ l) (k : ∀ M', M' = M → R) : R := k _ rfl
theorem slice_mem {bI : List Nat} {soon late : Nat} {M : Int} (hs : soon < late) (hl : late < 6) (h6 : bI.length = 6) (h : M ∈ List.take (late - soon) (List.drop (soon + 1) (List.map (fun k : Nat => (k : Int)) bI))) : ∃ (j k : Nat), 1 ≤ j ∧ bI[j]? = some k ∧ M = (k : Int) := by
 have h2 := List.mem_of_mem_take h
 rcases List.mem_iff_getElem?.mp h2 with ⟨i, hi⟩
 rw [List.getElem?_drop, List.getElem?_map] at hi
 cases hk : bI[soon + 1 + i]? with
 | none => rw [hk] at hi; cases hi
 | some k =>
  rw [hk] at hi
  exact ⟨soon + 1 + i, k, by omega, hk, by simpa using hi.symm⟩
noncomputable def apI (bI : List Nat) (c : Int) (p : Nat) : Int := ((bI.getD p 0 : Nat) : Int) - min ((bI.getD p 0 : Nat) : Int) c
theorem list_at2 {prog : Program} {w : World} {A : Around} {E : Value → Shared → Prop} {s : Shared} {value slice : PySem.Expr} {l : Addr} {items : Array Value} {i : Int} {v : Value} {t : Tok} {Q : Value → Shared → Prop} (hl : s.heap.IsList l items) (h0 : 0 ≤ i) (hi : i < 1000) (hv : items[i.toNat]? = some v) (h : Q v s)
  (hs : subscripted slice false (.ref l) (.int i t) = operate [.ref l, .int i t] (getItem (.ref l) (.int i t)) := by with_unfolding_all rfl) (hg : ∀ r, letTemporaryGo value (.ref l) r = pure () := by intros _; with_unfolding_all rfl) :
  wpAny (model prog w) A (subscriptTail value slice (.ref l) (.int i t)) Q E s :=
 subscriptTail_builtin hl.typeIs slot_list_getitem.lookup (wpAny_getItem_list hl h0 (by omega) hv h) hs hg
theorem slice_tail (r : Str) {i : Nat} (h : i ≤ r.length) : (Txt.slice r (some (i : Int)) (some ((r.length : Int) - 1 + 1))).length = r.length - i := by
 rw [show ((r.length : Int) - 1 + 1) = ((r.length : Nat) : Int) by omega, slice_nat r h (Nat.le_refl _)]
 simp [Str.length]
def RowOk (r : Str) (b : Nat) : Prop := b < r.length ∧ r.length ≤ 1000 ∧ (∀ i : Nat, i < b → Txt.item r (i : Int) = Str.ofString " ") ∧ (¬ Txt.item r (b : Int) = Str.ofString " ") ∧ ¬ Txt.item r ((r.length : Int) - 1) = Str.ofString " "
theorem apart_spec (hfill : PR = PR) (B : Below A₀ base outer h₀) (F : Fr h₀ L s.heap m) (X : (K0.heap_1 w.params).In h₀) (T : Top p loose mean mg mb h₀) (hk : cs.kind = .function) (hd : dp + 8 < recursionLimit) (hu : un + 150 < cLine)
   (rl bl : Addr) (rs bs : Array Value) (n1 n2 : Nat) (rz bz : List Str) (bI : List Nat) (soon late : Nat) (v1 v2 : Tok) (news : List (Addr × Obj))
   (N : News h₀ L s.heap ((rl, listOf rs n1) :: (bl, listOf bs n2) :: news)) (hR : StrsAre rs.toList rz) (hB : StrsAre bs.toList bz) (hrl : rz.length = 6) (hbl : bz.length = 6) (hIl : bI.length = 6)
   (hok : ∀ (i : Nat) (r b : Str) (k : Nat), rz[i]? = some r → bz[i]? = some b → bI[i]? = some k → RowOk r k ∧ b.length + k = r.length) (hpos : ∀ (i k : Nat), 1 ≤ i → bI[i]? = some k → 1 ≤ k) (hsl : soon < late) (hl6 : late < 6)
   (hret : ∀ (c M : Int) h' tk' t', M ∈ (List.drop (soon + 1) (List.map (fun k : Nat => (k : Int)) bI)).take (late - soon) → (∀ a ∈ (List.drop (soon + 1) (List.map (fun k : Nat => (k : Int)) bI)).take (late - soon), M ≤ a) →
     c = (if M - 1 < (bI.getD soon 0 : Nat) then M - 1 else ((bI.getD soon 0 : Nat) : Int)) → Fr h₀ L h' m → News h₀ L h' ((rl, listOf rs n1) :: (bl, listOf bs n2) :: news) → Q (.int (apI bI c soon + apI bI c late) t') { s with heap := h', toks := tk' })
   :
   wpAny (model Challenge.rw_to0089_01.prog w) (ktrTop dp un gd cn cs L a ccd cl outer) (call (.ref 355) [.ref rl, .ref bl, .int (soon : Nat) v1, .int (late : Nat) v2]) Q E s := by
 fail "mk.a"
 case zl =>
  revert hfill B F X T hk hd hu N hR hB hrl hbl hIl hok hpos hsl hl6 hret
  revert w p loose mean mg mb dp un gd cn cs a ccd cl outer A₀ base h₀ L m s Q E rl bl rs bs n1 n2 rz bz bI soon late v1 v2 news
  intro w p loose mean mg mb dp un gd cn cs a ccd cl outer A₀ base h₀ L m s Q E rl bl rs bs n1 n2 rz bz bI soon late v1 v2 news hfill B F X T hk hd hu N hR hB hrl hbl hIl hok hpos hsl hl6 hret
  revert X; k_fill; intro X; refine wpAny_call ?_; first | k_dflt (fail "my.enter") | fail
  (repeat' first | (fail "g12"; (refine stop_of ?_)) | fail "k1")
  unfold Stop
  rename Fr _ _ _ _ => F9
  rename News _ _ _ _ => N9
  k_dflt (refine' Assign_ListComp_W F9 rfl ?hsw ?c1 ?c2 ?c3 ?c4 ?c5 ?c6 ?c7 ?c8 ?c9 ?hcomp; (case hsw | c1 => with_unfolding_all rfl); (case c2 => decide); (case c3 => rfl); (case c4 => decide); (case c5 | c6 => rfl); (case c7 => decide); (case c8 | c9 => rfl))
  case hcomp =>
    (repeat' first | ((with_reducible show wpAny _ _ (call (Value.type "zip") _) _ _ _); (refine stop_of ?_)) | fail "k1")
    unfold Stop
    k_dflt (refine' zip_K (L := _) (m := _) (news := _) ?zF ?zN ?z1 ?z2 (fun z TI TO i1 i2 h2 D a1 a2 a3 a4 a5 F7 N7 lo lL g0 => ?zz); (case zF | zN => k_asm); (case z1 | z2 => is_list))
    injections z TI TO i1 i2 h2 D a1 a2 a3 a4 a5 F7 N7 lo lL g0
    case zz =>
    refine SrcT.zip (n1 := n1) (n2 := n2) rfl D (fun i vs => IntsAre vs (List.map (fun k : Nat => (k : Int)) (bI.take i))) a1 a2 a3 a4 a5 (by k_mem) (by k_mem) lL g0 F7 N7 lo ?_ .nil ?_ ?_
    · have := strs_size hR
      omega
    · intro X i x y vs C oC DD m₂ h tk E' hx hy hRi hoC e1 e2 F8 N8
      have pz1 := strs_at hR (by simpa using hx)
      obtain ⟨r, tr, hr, pz2⟩ := pz1
      rcases pz2 with rfl
      have pz3 := strs_at hB (by simpa using hy)
      obtain ⟨b, tb, hb, pz4⟩ := pz3
      rcases pz4 with rfl
      have hil : i < 6 := by
       rcases Nat.lt_or_ge i rz.length with h1 | h1
       ·omega
       ·rw [List.getElem?_eq_none h1] at hr; cases hr
      have hk0 : bI[i]? = some (bI[i]'(by omega)) := List.getElem?_eq_getElem _
      generalize bI[i]'(by omega) = k0 at hk0
      obtain ⟨hro, hlen⟩ := hok i r b k0 hr hb hk0
      have hrl1 : r.length ≤ 1000 := hro.2.1
      have hbl1 : b.length ≤ 1000 := by omega
      fail "g20"
      unfold Stop
      refine MapEnd.intro (by k_asm) (news_sub (by k_asm) (fun q hq => hq)) ?_
      rw [take_map_snoc _ _ _ _ hk0]
      have hkk : (r.length : Int) - (b.length : Int) = (k0 : Int) := by omega
      rw [hkk]
      exact ints_snoc hRi _ _
    · intro vs hRi DD h tk F8 N8 lt
      k_lt lt
      have hz6 : min rs.size bs.size = 6 := by
       have e1 := strs_size hR
       have e2 := strs_size hB
       omega
      rw [hz6, List.take_of_length_le (by omega)] at hRi
      generalize hdI : List.map (fun k : Nat => (k : Int)) bI = dI at hRi
      have hdl : dI.length = 6 := by rw [← hdI, List.length_map]; exact hIl
      have s0 : (0 : Int) ≤ (soon : Int) := by omega
      have s1 : (soon : Int) < (dI.length : Int) := by omega
      (repeat' first | (fail "g3"; (refine stop_of ?_)) | fail "k1")
      unfold Stop
      rename Fr _ _ _ _ => F10
      k_dflt (refine' ListComp_tup F10 rfl ?d1 ?d2 ?d3 ?d4 ?d5 ?hc2; (case d1 => with_unfolding_all rfl); (case d2 => decide); (case d3 => rfl); (case d4 => decide); (case d5 => rfl))
      case hc2 =>
      (repeat' first | ((with_reducible show SrcTu ..); (refine stop_of ?_)) | fail "k1")
      unfold Stop
      rename News _ _ _ _ => N11
      rename _ ∈ List.take _ _ => hM1
      rename ∀ a ∈ List.take _ _, _ => hM2
      refine ap_ask hM1 fun M eM => ?_
      injections M eM
      subst eM
      obtain ⟨cc, hcc⟩ : ∃ cc, cc = (if M - 1 < dI.getD ((soon : Nat) : Int).toNat 0 then M - 1 else dI.getD ((soon : Nat) : Int).toNat 0) := ⟨_, rfl⟩
      rename _ = Data.cell (some (Value.int _ _)) => hcd
      rw [← hcc] at hcd
      have hsl2 : min ((late : Nat) + 1 : Int).toNat dI.length - ((soon : Nat) + 1 : Int).toNat = late - soon := ap2 (by rw [hdl]; exact hl6)
      have hsl3 : ((soon : Nat) + 1 : Int).toNat = soon + 1 := rfl
      rw [hsl2, hsl3] at hM1 hM2
      have hMb : 1 ≤ M ∧ M ≤ 1000 := by
       rw [← hdI] at hM1
       obtain ⟨jj, kk, h1, h2, h3⟩ := slice_mem hsl hl6 hIl hM1
       have hj6 : jj < 6 := by
        rcases Nat.lt_or_ge jj bI.length with h | h
        ·omega
        ·rw [List.getElem?_eq_none h] at h2; cases h2
       have hp1 := hpos jj kk h1 h2
       obtain ⟨hro, hlen⟩ := hok jj _ _ kk (List.getElem?_eq_getElem (show jj < rz.length by omega)) (List.getElem?_eq_getElem (show jj < bz.length by omega)) h2
       have := hro.1
       have := hro.2.1
       omega
      have hbs : dI.getD ((soon : Nat) : Int).toNat 0 = ((bI.getD soon 0 : Nat) : Int) := by
       rw [← hdI, Int.toNat_natCast, List.getD_eq_getElem?_getD, List.getElem?_map, List.getD_eq_getElem?_getD]
       cases bI[soon]? <;> rfl
      rw [hbs] at hcc
      have hcb : 0 ≤ cc ∧ cc ≤ 1000 := by
       rw [hcc]
       split <;> omega
      k_dflt (refine' comp_tup (fun i ys => IntsAre ys (List.map (apI bI cc) ([soon, late].take i))) ?e1 N11 (.head _) ?e2 .nil ?e3 ?e4; (case e1 => k_asm); (case e2 => (show 2 ≤ 100000; omega)))
      case e3 =>
       intro i2 ys v I2 oI2 C2 oC2 D2 m3 h3 tk3 E3 hv hR2 hoC2 hm3 F12 N12 off3 ne3
       have pz5 : ∃ (pp : Nat) (tp : Tok), v = Value.int (pp : Nat) tp ∧ pp < 6 ∧ [soon, late][i2]? = some pp := by
        rcases i2 with _ | _ | i2
        ·exact ⟨soon, v1, by simpa using hv.symm, by omega, rfl⟩
        ·exact ⟨late, v2, by simpa using hv.symm, by omega, rfl⟩
        ·simp at hv
       obtain ⟨pp, tp, pz6⟩ := pz5
       rcases pz6 with ⟨rfl, pz7⟩
       obtain ⟨hp6, hpi⟩ := pz7
       obtain ⟨r, hr⟩ : ∃ r, rz[pp]? = some r := ⟨_, List.getElem?_eq_getElem (by omega)⟩
       obtain ⟨b, hb⟩ : ∃ b, bz[pp]? = some b := ⟨_, List.getElem?_eq_getElem (by omega)⟩
       obtain ⟨k0, hk0⟩ : ∃ k, bI[pp]? = some k := ⟨_, List.getElem?_eq_getElem (by omega)⟩
       obtain ⟨hro, hlen⟩ := hok pp r b k0 hr hb hk0
       obtain ⟨tr, hrv⟩ := strs_get hR hr
       obtain ⟨tb, hbv⟩ := strs_get hB hb
       have hrv' : rs[((pp : Nat) : Int).toNat]? = some (.str r tr) := by simpa using hrv
       have hbv' : bs[((pp : Nat) : Int).toNat]? = some (.str b tb) := by simpa using hbv
       have hrg : rz.getD ((pp : Nat) : Int).toNat Str.empty = r := by simp [hr]
       (repeat' first | ((with_reducible show wpAny _ _ (call (Value.ref 175) _) _ _ _); refine stop_of ?_) | fail "k1")
       unfold Stop
       rw [hrg]
       k_dflt (refine' strip_spec rfl ?j1 ?j2 ?j3 ?j4 ?j5 ?j6 ?j7 r _ _ cc k0 _ ?jN hcb (by have := hro.2.1; omega) hro.1 hro.2.2.1 hro.2.2.2.1 hro.2.2.2.2 (fun ii h5 tk5 t5 hii F13 N13 => ?_); (case j1 | j2 | j3 | j4 | jN => k_asm); (case j5 => rfl); (case j6 => first | ktr_room | k_room); (case j7 => ktr_units))
       injections ii h5 tk5 t5 hii F13 N13
       have hil2 : ii ≤ r.length := by rw [hii]; exact Nat.le_trans (Nat.min_le_left _ _) (Nat.le_of_lt hro.1)
       have hsl5 := slice_tail r hil2
       have hrl1 : r.length ≤ 1000 := hro.2.1
       have hbl1 : b.length ≤ 1000 := by omega
       have hsl6 : (Txt.slice r (some (ii : Int)) (some ((r.length : Int) - 1 + 1))).length ≤ 1000 := by rw [hsl5]; exact Nat.le_trans (Nat.sub_le _ _) hrl1
       k_steps
       have hbg : bz.getD ((pp : Nat) : Int).toNat Str.empty = b := by simp [hb]
       rw [hbg]
       fail "g20"
       unfold Stop
       refine MapEnd.intro (by k_asm) (news_sub (by k_asm) (fun q hq => hq)) ?_
       rw [take_map_snoc _ _ _ _ hpi]
       have hvv : ((Txt.slice r (some (ii : Int)) (some ((r.length : Int) - 1 + 1))).length : Int) - (b.length : Int) = apI bI cc pp := by
        rw [hsl5]
        unfold apI
        rw [List.getD_eq_getElem?_getD, hk0, Option.getD_some]
        exact ap1 hlen hii hcb.1
       rw [hvv]
       exact ints_snoc hR2 _ _
      case e4 =>
       intro g ys hR2
       unfold LCg.FinE
       intro D2 h4 tk4 F12 N12 o12
       k_steps
       rename Fr _ _ _ _ => F13
       rename News _ _ _ _ => N13
       have hsum : (List.map (apI bI cc) (List.take #[Value.int (soon : Nat) v1, Value.int (late : Nat) v2].size [soon, late])).sum = apI bI cc soon + apI bI cc late := by
        simp [List.sum_cons]
       rw [hsum]
       rw [← hdI] at hM1 hM2
       refine hret cc M _ _ _ hM1 hM2 hcc ?_ ?_
       ·k_asm
       ·exact news_sub N13 (fun q hq => by repeat (first | exact hq | refine List.mem_cons_of_mem _ ?_))
 fail "mk.b"
end
section
open LCg in
inductive SrcCell (w : World) (A : Around) (h₀ : Heap) (L : Addr) (m : Str → Option Value) (env : Env) (elt : PySem.Expr) (x : Str) (scope : Scope) (cl : List (Str × Addr)) (Fin : Shared → List Value → List (Addr × Obj) → Prop) (xv : Value) (s₁ : Shared) : Prop
 | mk (ax : Addr) (its : Array Value) (k : Nat) (news : List (Addr × Obj)) (R : Nat → List Value → Prop) (h : xv = .ref ax ∧ (ax, listOf its k) ∈ news ∧ its.size ≤ 100000 ∧ Fr h₀ L s₁.heap m ∧ News h₀ L s₁.heap news ∧ R 0 [] ∧
  (∀ i v ys I oI D C oC CC oCC m₂ h tk (E' : Value → Shared → Prop), its[i]? = some v → R i ys → NsObj oC m₂ → oCC.data = .cell (some v) → Fr h₀ L h m → News h₀ L h ((CC, oCC) :: (I, oI) :: (C, oC) :: (D, lst ys) :: news) →
   (∀ q ∈ news, @LT.lt Nat _ q.1 I) → @LT.lt Nat _ I D → @LT.lt Nat _ D C → @LT.lt Nat _ C CC →
   wpAny (model Challenge.rw_to0089_01.prog w) A (eval elt (compEnvC scope ((x, CC) :: cl) C env)) (MapEnd h₀ L m { s₁ with heap := h, toks := tk } ((CC, oCC) :: (I, oI) :: (C, oC) :: (D, lst ys) :: news) (fun y => R (i + 1) (ys ++ [y]))) E' { s₁ with heap := h, toks := tk }) ∧
  (∀ ys, R its.size ys → Fin s₁ ys news)) : SrcCell w A h₀ L m env elt x scope cl Fin xv s₁
def FinC (h₀ : Heap) (L : Addr) (m : Str → Option Value) (y : Str) (Q : Flow → Shared → Prop) (s : Shared) (ys : List Value) (news : List (Addr × Obj)) : Prop :=
 ∀ D h tk, Fr h₀ L h (fun z => if z = y then some (.ref D) else m z) → News h₀ L h ((D, LCg.lst ys) :: news) → (∀ q ∈ news, q.1 < D) → Q .next { s with heap := h, toks := tk }
open LCg in
theorem block_C {w : World} {A : Around} {E : Value → Shared → Prop} {s₁ : Shared} {h₀ : Heap} {L : Addr} {m : Str → Option Value} {env : Env} {elt iter : PySem.Expr} {x : Str} {px : Pos} {scope : Scope} {cl : List (Str × Addr)} {pos : Pos} {Fin : Shared → List Value → List (Addr × Obj) → Prop} {RR : Value → Addr → Result → Shared → Prop} {xv : Value}
   (hh : A.handled = none) (hcf : ∀ n, cellsFrom n scope.names cl = (x, n) :: cl) (hpc : ∀ h, pushCells h scope.names = h.push { cls := .type "cell", data := .cell none }) (hkind : scope.kind = .function) (hx : (relabel scope env).names.lookup x = some .cell)
   (h₁ : SrcCell w A h₀ L m env elt x scope cl Fin xv s₁)
   (hRR : ∀ D C h tk m' ys news, Fr h₀ L h m → News h₀ L h ((D, lst ys) :: news) → (∀ q ∈ news, q.1 < D) → h.Ns C m' → h₀.get? C = none → C ≠ L → D ≠ C → (∀ q ∈ news, q.1 ≠ C) → Fin s₁ ys news → RR (.ref D) C (.ok .next) { s₁ with heap := h, toks := tk }) :
   wpAny (model Challenge.rw_to0089_01.prog w) A (pyIter xv) (fun it s₂ => wpAny (model Challenge.rw_to0089_01.prog w) A (newList []) (fun acc s₃ => wpAny (model Challenge.rw_to0089_01.prog w) A (newFunctionEnv scope env.globals cl [] env.qual none .none (some env)) (fun cenv s₄ =>
     codeAny (model Challenge.rw_to0089_01.prog w) A (.compStart (.ListComp elt [⟨.Name x px, iter, [], 0⟩] scope pos) 0 it acc { cenv with scope := relabel scope env }) (RR acc cenv.locals) s₄) E s₃) E s₂) E s₁ := by
 fail "mk.a"
 case zl =>
  revert hh hcf hpc hkind hx h₁ hRR
  revert w A E s₁ h₀ L m env elt iter x px scope cl pos Fin RR xv
  intro w A E s₁ h₀ L m env elt iter x px scope cl pos Fin RR xv hh hcf hpc hkind hx h₁ hRR
  obtain ⟨ax, its, k, news, R, pz2⟩ := h₁
  rcases pz2 with ⟨rfl, pz3⟩
  obtain ⟨hm, hsz, F, N, hR0, step, fin⟩ := pz3
  have hl : s₁.heap.IsList ax its := ⟨_, (N _ hm).1, rfl, k, rfl⟩
  refine wpAny_pyIter_list hl ?_
  refine wpAny_newObj_type ?_
  unfold newFunctionEnv
  refine wpAny_bind (wpAny_alloc ?_)
  refine wpAny_bind (wpAny_layCells _ (fun name kind cells => by cases hkc : kind == NameKind.cell <;> simp [hkc]) _ _ _ _ ?_)
  rw [hcf, hpc]
  simp only [List.forIn_nil]
  refine wpAny_bind (wpAny_pure (wpAny_pure ?_))
  generalize hn0 : s₁.heap.objs.size = n0
  injections n0 hn0
  generalize hH1 : s₁.heap.push { cls := .type "list_iterator", data := .fields #[.ref ax, .int 0 0] } = H1
  have z1 : H1.objs.size = n0 + 1 := by rw [← hH1, Heap.size_push, hn0]
  dsimp only
  rw [z1]
  generalize hH2 : H1.push { cls := .type "list", dict := none, data := .seq ([] : List Value).toArray } = H2
  have z2 : H2.objs.size = n0 + 2 := by rw [← hH2, Heap.size_push, z1]
  rw [z2]
  generalize hH3 : H2.push _ = H3
  injections H3 hH3
  have z3 : H3.objs.size = n0 + 3 := by rw [← hH3, Heap.size_push, z2]
  rw [z3]
  generalize hH4 : H3.push _ = H4
  injections H4 hH4
  have old : ∀ b o, s₁.heap.get? b = some o → H4.get? b = some o := fun b o e => by
    rw [← hH4, ← hH3, ← hH2, ← hH1]
    exact Heap.get?_push_of_some _ (Heap.get?_push_of_some _ (Heap.get?_push_of_some _ (Heap.get?_push_of_some _ e)))
  have gI : H4.get? n0 = some { cls := .type "list_iterator", data := .fields #[.ref ax, .int 0 0] } := by
    rw [← hH4, ← hH3, ← hH2]
    refine Heap.get?_push_of_some _ (Heap.get?_push_of_some _ (Heap.get?_push_of_some _ ?_))
    rw [← hH1, ← hn0]
    exact Heap.get?_push_size _ rfl
  have gD : H4.get? (n0 + 1) = some (lst []) := by
    rw [← hH4, ← hH3]
    refine Heap.get?_push_of_some _ (Heap.get?_push_of_some _ ?_)
    rw [← hH2, ← z1]
    exact Heap.get?_push_size _ rfl
  have gC : H4.Ns (n0 + 2) (fun _ => none) := by
    have : H3.Ns (n0 + 2) (fun _ => none) := by
      rw [← hH3, ← z2]
      exact Heap.Ns.new ..
    exact this.keeps fun b o e => by rw [← hH4]; exact Heap.get?_push_of_some _ e
  have gCC : H4.IsCell (n0 + 3) none := by
    rw [← hH4, ← z3]
    exact ⟨_, Heap.get?_push_size _ rfl, rfl⟩
  have fresh₀ : ∀ a, n0 ≤ a → h₀.get? a = none := fun a ha => by
    cases e : h₀.get? a with
    | none => rfl
    | some o' =>
      have := Heap.lt_size (F.keep a o' e)
      rw [hn0] at this
      exact absurd this (Nat.not_lt.mpr ha)
  have hLlt : @LT.lt Nat _ L n0 := hn0 ▸ F.ns.lt
  have hnl : ∀ q ∈ news, @LT.lt Nat _ q.1 n0 := fun q hq => hn0 ▸ Heap.lt_size (N q hq).1
  have haxl : @LT.lt Nat _ ax n0 := hnl _ hm
  have nI : (n0 : Nat) ≠ n0 + 1 ∧ (n0 : Nat) ≠ n0 + 2 ∧ (n0 : Nat) ≠ n0 + 3 := ⟨by omega, by omega, by omega⟩
  have loop : ∀ s₃ : Shared, s₃ = { s₁ with heap := H4 } →
      codeAny (model Challenge.rw_to0089_01.prog w) A (.compLoop (.ListComp elt [⟨.Name x px, iter, [], 0⟩] scope pos) 0 (.ref n0) (.ref (n0 + 1)) (compEnvC scope ((x, n0 + 3) :: cl) (n0 + 2) env))
       (RR (.ref (n0 + 1)) (n0 + 2)) s₃ := by
    intro s₃ pz4
    rcases pz4 with rfl
    have W := Walks.list (prog := Challenge.rw_to0089_01.prog) (w := w) hh n0 ax (Nat.ne_of_lt haxl) its
    refine codeAny_compLoop_tests
      (fun k s' => ∃ h' tk i ys m', s' = { s₁ with heap := h', toks := tk } ∧ i ≤ its.size ∧ k = its.size + 1 - i ∧ ys.length = i ∧ (h'.IsListIter n0 ax i ∧ h'.IsList ax its) ∧ Fr h₀ L h' m ∧ h'.Ns (n0 + 2) m' ∧ (∃ v₀, h'.IsCell (n0 + 3) v₀) ∧ News h₀ L h' ((n0 + 1, lst ys) :: news) ∧ R i ys) ?_ (its.size + 1)
      ⟨H4, _, 0, [], _, rfl, Nat.zero_le _, rfl, rfl, ⟨⟨_, gI, rfl, rfl⟩, ⟨_, old _ _ (N _ hm).1, rfl, k, rfl⟩⟩, F.keeps old, gC, ⟨_, gCC⟩, fun p hp => ?_, hR0⟩
    · intro k' s' pz5
      obtain ⟨h', tk, i, ys, m', pz6⟩ := pz5
      rcases pz6 with ⟨rfl, pz7⟩
      obtain ⟨hi, pz8⟩ := pz7
      rcases pz8 with ⟨rfl, pz9⟩
      obtain ⟨hyl, hst', F', hn', pz10⟩ := pz9
      rcases pz10 with ⟨pz12, pz11⟩
      obtain ⟨v₀, hcc⟩ := pz12
      obtain ⟨N', hR⟩ := pz11
      have nb : ∀ b, b ∉ ([n0] : List Addr) ↔ @Ne Nat b n0 := fun b => by simp
      have F2 : ∀ {h₂ : Heap}, (∀ b o, b ∉ ([n0] : List Addr) → h'.get? b = some o → h₂.get? b = some o) → Fr h₀ L h₂ m ∧ News h₀ L h₂ ((n0 + 1, lst ys) :: news) := fun {h₂} hk => by
       refine ⟨fr_but F' hk (Nat.ne_of_lt hLlt) (fresh₀ _ (Nat.le_refl _)), news_but N' hk fun p hp => ?_⟩
       injections p hp
       rcases List.mem_cons.mp hp with rfl | hp
       ·exact Ne.symm nI.1
       ·exact Nat.ne_of_lt (hnl p hp)
      by_cases hlt : i < its.size
      ·refine W.item i _ _ _ hlt hst' fun v h₂ tk₂ hPv hst₂ hk₂ => ?_
       injections v h₂ tk₂ hPv hst₂ hk₂
       obtain ⟨F₂, N₂⟩ := F2 hk₂
       have hn₂ : h₂.Ns (n0 + 2) m' := hn'.at' fun o e => hk₂ _ o ((nb _).mpr (Ne.symm nI.2.1)) e
       have hc₂ : h₂.IsCell (n0 + 3) v₀ := by
        obtain ⟨o, e, d⟩ := hcc
        exact ⟨o, hk₂ _ o ((nb _).mpr (Ne.symm nI.2.2)) e, d⟩
       refine wpAny_assign_Name (wpAny_storeName_cell (c := n0 + 3) (by simpa [compEnvC, relabel] using hkind) hx (by simp [compEnvC, List.lookup_cons]) hc₂ fun h₃ hc₃ hs₃ => ?_)
       injections h₃ hc₃ hs₃
       refine wpAny_tests_nil ?_
       simp only [if_true]
       have k3 : ∀ (b : Addr) o, @Ne Nat b (n0 + 3) → h₂.get? b = some o → h₃.get? b = some o := fun b o hb e => hs₃.extBut b o hb e
       have hCC0 := fresh₀ (n0 + 3) (Nat.le_add_right _ _)
       have hCCL : (n0 + 3 : Nat) ≠ L := by omega
       have F₃ : Fr h₀ L h₃ m := F₂.change hs₃ hCCL hCC0
       obtain ⟨oCC, eCC, dCC⟩ := hc₃
       have hn₃ : h₃.Ns (n0 + 2) m' := hn₂.at' fun o e => k3 _ o (show @Ne Nat (n0 + 2) (n0 + 3) by omega) e
       obtain ⟨oC, eC, hoC⟩ := ns_obj hn₃
       have hst₃ : h₃.IsListIter n0 ax (i + 1) ∧ h₃.IsList ax its := W.frame _ _ _ hst₂ fun b hb o e => k3 b o (by
        simp only [List.mem_cons, List.not_mem_nil, or_false] at hb
        rcases hb with rfl | rfl
        ·show @Ne Nat _ (_ + 3)
         omega
        ·show @Ne Nat _ (n0 + 3)
         omega) e
       obtain ⟨oI, eI, hoI⟩ := hst₃.1
       have N₃ : News h₀ L h₃ ((n0 + 3, oCC) :: (n0, oI) :: (n0 + 2, oC) :: (n0 + 1, lst ys) :: news) := fun p hp => by
        rcases List.mem_cons.mp hp with rfl | hp
        ·exact ⟨eCC, hCCL, hCC0⟩
        rcases List.mem_cons.mp hp with rfl | hp
        ·exact ⟨eI, Nat.ne_of_gt hLlt, fresh₀ _ (Nat.le_refl _)⟩
        rcases List.mem_cons.mp hp with rfl | hp
        ·exact ⟨eC, show ((n0 + 2 : Nat) ≠ L) by omega, fresh₀ (n0 + 2) (Nat.le_add_right _ _)⟩
        have z := N₂ p hp
        refine ⟨k3 _ _ ?_ z.1, z.2⟩
        rcases List.mem_cons.mp hp with rfl | hp
        ·show @Ne Nat (n0 + 1) (n0 + 3)
         omega
        ·have := hnl p hp
         show @Ne Nat p.1 (n0 + 3)
         omega
       refine wpAny_mono (step i v ys n0 oI (n0 + 1) (n0 + 2) oC (n0 + 3) oCC m' h₃ tk₂ _ hPv hR hoC dCC F₃ N₃ hnl (Nat.lt_succ_self n0) (Nat.lt_succ_self (n0 + 1)) (Nat.lt_succ_self (n0 + 2))) (fun y s₄ h₄ => ?_) fun _ _ e => e
       injections y s₄ h₄
       obtain ⟨h₄, tk₄, pz14⟩ := h₄
       rcases pz14 with ⟨rfl, pz15⟩
       obtain ⟨F₄, N₄, hR₄⟩ := pz15
       have zD := (N₄ (n0 + 1, lst ys) (.tail _ (.tail _ (.tail _ (.head _))))).1
       refine append_at (hsz := by show ys.toArray.size ≤ sizeLine; rw [List.size_toArray, hyl, sizeLine_eq]; omega) zD fun h₅ hs₅ hD₅ => ?_
       injections h₅ hs₅ hD₅
       have k5 : ∀ (b : Addr) o, @Ne Nat b (n0 + 1) → h₄.get? b = some o → h₅.get? b = some o := fun b o hb e => hs₅.extBut b o hb e
       refine ⟨its.size + 1 - (i + 1), by omega, h₅, tk₄, i + 1, ys ++ [y], _, rfl, hlt, rfl, by rw [List.length_append, List.length_singleton, hyl], ⟨⟨oI, k5 _ _ nI.1 (N₄ _ (.tail _ (.head _))).1, hoI⟩, ⟨_, k5 _ _ (show @Ne Nat ax (n0 + 1) by omega) (N₄ _ (.tail _ (.tail _ (.tail _ (.tail _ hm))))).1, rfl, k, rfl⟩⟩,
        F₄.change hs₅ (show ((n0 + 1 : Nat) ≠ L) by omega) (fresh₀ (n0 + 1) (Nat.le_add_right _ _)), (hoC.ns (N₄ _ (.tail _ (.tail _ (.head _)))).1).at' fun o e => k5 _ o (show @Ne Nat (n0 + 2) (n0 + 1) by omega) e, ⟨_, oCC, k5 _ _ (show @Ne Nat (n0 + 3) (n0 + 1) by omega) (N₄ _ (.head _)).1, dCC⟩, fun p hp => ?_, hR₄⟩
       rcases List.mem_cons.mp hp with rfl | hp
       ·exact ⟨hD₅.trans (congrArg some (lst_snoc ys y)), show ((n0 + 1 : Nat) ≠ L) by omega, fresh₀ (n0 + 1) (Nat.le_add_right _ _)⟩
       ·have z := N₄ p (.tail _ (.tail _ (.tail _ (.tail _ hp))))
        exact ⟨k5 _ _ (by have := hnl p hp; show @Ne Nat p.1 (n0 + 1); omega) z.1, z.2⟩
      ·obtain rfl : i = its.size := Nat.le_antisymm hi (Nat.not_lt.mp hlt)
       refine W.done _ _ _ hst' fun h₂ tk₂ hk₂ => ?_
       injections h₂ tk₂ hk₂
       obtain ⟨F₂, N₂⟩ := F2 hk₂
       exact hRR (n0 + 1) (n0 + 2) h₂ tk₂ m' ys news F₂ N₂ (fun q hq => Nat.lt_succ_of_lt (hnl q hq)) (hn'.at' fun o e => hk₂ _ o ((nb _).mpr (Ne.symm nI.2.1)) e) (fresh₀ (n0 + 2) (Nat.le_add_right _ _)) (show ((n0 + 2 : Nat) ≠ L) by omega) (show ((n0 + 1 : Nat) ≠ n0 + 2) by omega) (fun q hq => by have := hnl q hq; show @Ne Nat q.1 (n0 + 2); omega) (fin ys hR)
    · rcases List.mem_cons.mp hp with rfl | hp
      ·exact ⟨gD, show ((n0 + 1 : Nat) ≠ L) by omega, fresh₀ (n0 + 1) (Nat.le_add_right _ _)⟩
      ·exact ⟨old _ _ (N p hp).1, (N p hp).2⟩
  have W := Walks.list (prog := Challenge.rw_to0089_01.prog) (w := w) hh n0 ax (Nat.ne_of_lt haxl) its
  exact codeAny_compStart_list (loop _ rfl) (W.self 0 _ _ _ ⟨⟨_, gI, rfl, rfl⟩, ⟨_, old _ _ (N _ hm).1, rfl, k, rfl⟩⟩ (loop _ rfl))
 fail "mk.b"
open LCg in
theorem Assign_ListComp_C {w : World} {A : Around} {E : Value → Shared → Prop} {s : Shared} {h₀ : Heap} {m : Str → Option Value} {env : Env} {elt iter : PySem.Expr} {x y : Str} {px py : Pos} {scope : Scope} {cl : List (Str × Addr)} {pos spos : Pos} {Q : Flow → Shared → Prop}
   (_F₀ : Fr h₀ env.locals s.heap m) (hh : A.handled = none) (hsw : swapsWith (.ListComp elt [⟨.Name x px, iter, [], 0⟩] scope pos) (some (.Name y py)) spos.line env = pure true)
   (hclos : closureFor scope env = pure cl) (hcf : ∀ n, cellsFrom n scope.names cl = (x, n) :: cl) (hpc : ∀ h, pushCells h scope.names = h.push { cls := .type "cell", data := .cell none }) (hkind : scope.kind = .function)
   (hnames : ∀ y ∈ scope.names, y.2 = .local → scope.names.lookup y.1 = some .local) (hx : (relabel scope env).names.lookup x = some .cell)
   (hy : env.kindOf y = some .local) (hp : (env.scope.kind == .class || (env.scope.kind == .module && env.locals != env.globals)) = false)
   (h : wpAny (model Challenge.rw_to0089_01.prog w) A (eval iter env) (SrcCell w A h₀ env.locals m env elt x scope cl (FinC h₀ env.locals m y Q)) E s)
   (hs : ∀ x, foldedSetIterable iter env x = pure x := by intros _; rfl) :
   wpAny (model Challenge.rw_to0089_01.prog w) A (exec (.Assign [.Name y py] (.ListComp elt [⟨.Name x px, iter, [], 0⟩] scope pos) spos) env) Q E s := by
 fail "mk.a"
 case zl =>
  revert _F₀ hh hsw hclos hcf hpc hkind hnames hx hy hp h hs
  revert w A E s h₀ m env elt iter x y px py scope cl pos spos Q
  intro w A E s h₀ m env elt iter x y px py scope cl pos spos Q _F₀ hh hsw hclos hcf hpc hkind hnames hx hy hp h hs
  rw [exec_Assign_Name_used _ _ _ _ hsw]
  refine wpAny_bind (wpAny_standAt (wpAny_bind ?_))
  show wpAny _ A (do let _ ← comprehension (.ListComp elt [⟨.Name x px, iter, [], 0⟩] scope pos) scope env _ (newList []) false (eval iter env) (some (assign (.Name y py) env))) _ _ s
  refine wpAny_bind (wpAny_mono (wpAny_comprehension_free (use := some (assign (.Name y py) env)) (Q := fun _ s' => Q .next s') rfl hs hclos hkind hnames
    (wpAny_mono h (fun xv s₁ h₁ => ?_) fun _ _ e => e)) (fun _ s' hq => wpAny_pure (wpAny_pure hq)) fun _ _ e => e)
  refine block_C hh hcf hpc hkind hx h₁ fun D C h tk m' ys news F N lt hn hC hCL hDC off fin => ?_
  injections D C h tk m' ys news F N lt hn hC hCL hDC off fin
  show wpAny _ A (assign (.Name y py) env (.ref D)) _ _ _
  refine wpAny_assign_Name (wpAny_storeName_local hy F.ns (fun h₂ hn₂ hs₂ => ?_) hp)
  injections h₂ hn₂ hs₂
  have F₂ := F.set hn₂ hs₂
  have N₂ := N.set hs₂
  refine ⟨m', hn.sameBut hs₂ hCL, fun h'' hs'' => fin D h'' _ ⟨F₂.ns.at' fun o e => hs''.extBut _ o (Ne.symm hCL) e, fun b o e => hs''.extBut b o (fun q => by rw [q, hC] at e; cases e) (F₂.keep b o e), F₂.above⟩ (fun q hq => ⟨hs''.extBut _ _ ?_ (N₂ q hq).1, (N₂ q hq).2⟩) lt⟩
  rcases List.mem_cons.mp hq with rfl | hq
  · exact hDC
  · exact off q hq
 fail "mk.b"
end
section
noncomputable def tiePart (Ps : List (List Int)) (ws : List Int) (p : List Int) : Int := ((Ps.filter fun o => decide (lastI p ∈ o)).map fun o => ws.getD (lastI o).toNat 0).sum
noncomputable def tiesF (Ps : List (List Int)) (ws : List Int) : Int := ((Ps.drop 1).map fun p => tiePart Ps ws p * (ws.sum - tiePart Ps ws p)).sum
theorem tie_snoc (Ps : List (List Int)) (ws : List Int) (p : List Int) (i : Nat) (o : List Int) (h : Ps[i]? = some o) : ((Ps.take (i + 1)).filter fun o => decide (lastI p ∈ o)).map (fun o => ws.getD (lastI o).toNat 0) = ((Ps.take i).filter fun o => decide (lastI p ∈ o)).map (fun o => ws.getD (lastI o).toNat 0) ++ (if lastI p ∈ o then [ws.getD (lastI o).toNat 0] else []) := by
 rw [List.take_add_one, h]
 by_cases hb : lastI p ∈ o
 ·simp [hb]
 ·simp [hb]
theorem sum_le3 : ∀ (l : List Int), (∀ x ∈ l, 0 ≤ x ∧ x ≤ 3) → 0 ≤ l.sum ∧ l.sum ≤ 3 * l.length
 | [], _ => by simp
 | x :: l, h => by
  have h1 := h x (List.mem_cons_self ..)
  have h2 := sum_le3 l fun y hy => h y (List.mem_cons_of_mem _ hy)
  rw [List.sum_cons, List.length_cons]
  omega
theorem tie_le (Ps : List (List Int)) (ws : List Int) (p : List Int) (h : ∀ x ∈ ws, 0 ≤ x ∧ x ≤ 3) : 0 ≤ tiePart Ps ws p ∧ tiePart Ps ws p ≤ 3 * Ps.length := by
 unfold tiePart
 have h1 := sum_le3 ((Ps.filter fun o => decide (lastI p ∈ o)).map fun o => ws.getD (lastI o).toNat 0) (fun x hx => by
  rcases List.mem_map.mp hx with ⟨o, _, rfl⟩
  rw [List.getD_eq_getElem?_getD]
  cases e : ws[(lastI o).toNat]? with
  | none => simp
  | some y => exact h y (List.mem_of_getElem? e))
 have h2 := List.length_filter_le (fun o => decide (lastI p ∈ o)) Ps
 rw [List.length_map] at h1
 omega
theorem ties_spec (hfill : PR = PR) (B : Below A₀ base outer h₀) (F : Fr h₀ L s.heap m) (X : (K0.heap_1 w.params).In h₀) (T : Top p loose mean mg mb h₀) (hk : cs.kind = .function) (hd : dp + 8 < recursionLimit) (hu : un + 150 < cLine)
   (pl wl : Addr) (as : List Addr) (Ps : List (List Int)) (kl : Nat) (us : List Value) (ws : List Int) (kw : Nat) (news : List (Addr × Obj)) (N0 : News h₀ L s.heap news) (hP : PathsIn news pl as Ps kl) (hPs : PsOk Ps) (hw : (wl, listOf us.toArray kw) ∈ news) (hS : IntsAre us ws) (hw6 : ws.length = 6) (hw3 : ∀ x ∈ ws, 0 ≤ x ∧ x ≤ 3)
   (hret : ∀ h' tk' t', Fr h₀ L h' m → News h₀ L h' news → Q (.int (tiesF Ps ws) t') { s with heap := h', toks := tk' })
   :
   wpAny (model Challenge.rw_to0089_01.prog w) (ktrTop dp un gd cn cs L a ccd cl outer) (call (.ref 343) [.ref pl, .ref wl]) Q E s := by
 fail "mk.a"
 case zl =>
  revert hfill B F X T hk hd hu N0 hP hPs hw hS hw6 hw3 hret
  revert w p loose mean mg mb dp un gd cn cs a ccd cl outer A₀ base h₀ L m s Q E pl wl as Ps kl us ws kw news
  intro w p loose mean mg mb dp un gd cn cs a ccd cl outer A₀ base h₀ L m s Q E pl wl as Ps kl us ws kw news hfill B F X T hk hd hu N0 hP hPs hw hS hw6 hw3 hret
  have hpl := hP.1
  have hal : as.length = 6 := by rw [hP.2.1]; exact hPs.len
  have N : News h₀ L s.heap ((pl, listOf (as.map Value.ref).toArray kl) :: (wl, listOf us.toArray kw) :: news) := news_sub N0 (List.forall_mem_cons.mpr ⟨hpl, List.forall_mem_cons.mpr ⟨hw, fun q hq => hq⟩⟩)
  have hml : (as.map Value.ref).length = 6 := by rw [List.length_map, hal]
  clear N0
  revert X; k_fill; intro X; refine wpAny_call ?_; first | k_dflt (fail "my.enter") | fail
  (repeat' first | (fail "g12"; (refine stop_of ?_)) | fail "k1")
  unfold Stop
  rename Fr _ _ _ _ => F9
  k_dflt (refine' Assign_ListComp_C F9 rfl ?hsw ?c1 ?c2 ?c3 ?c4 ?c5 ?c6 ?c7 ?c8 ?hcomp; (case hsw | c1 => with_unfolding_all rfl); (case c2 | c3 => intro _; rfl); (case c4 => rfl); (case c5 => decide); (case c6 => with_unfolding_all rfl); (case c7 | c8 => rfl))
  case hcomp =>
  (repeat' first | ((with_reducible show wpAny _ _ (subscriptTail _ (PySem.Expr.Slice (some _) none none _) (Value.ref _) (Value.ref _)) _ _ _); k_dflt (refine' kms_slice_lit ?F ?N ?l ?p ?q (pick_from _ 1) ?_ ?s ?t ?z; (case F | N => k_asm); (case l => is_list); (case p | q => kmk_part); (case s => with_unfolding_all rfl); (case t => kmk_pure); (case z => ((simp only [List.size_toArray, PySem.sizeLine_eq]; omega))); intro D' h' F' N' l1); (try k_lt l1)) | ((with_reducible show SrcCell ..); (refine stop_of ?_)) | fail "k1")
  unfold Stop
  rename News _ _ _ _ => N9
  refine ⟨_, _, _, _, fun i ys => IntsAre ys (((Ps.drop 1).take i).map (tiePart Ps ws)), rfl, .head _, ?z1, ?z2, N9, .nil, ?zs, ?zf⟩
  case z1 => (simp; omega)
  case z2 => k_asm
  case zs =>
    intro i v ys I oI D C oC CC oCC m2 h tk E' hv hR hoC dCC F4 N4 o1 o2 o3 o4
    have pz1 : ∃ a, as[1 + i]? = some a ∧ v = .ref a := by
     rw [List.getElem?_toArray, List.getElem?_drop, List.getElem?_map] at hv
     cases e : as[1 + i]? with
     | none => rw [e] at hv; cases hv
     | some a => rw [e] at hv; exact ⟨a, rfl, by simpa using hv.symm⟩
    obtain ⟨a, ha, pz2⟩ := pz1
    rcases pz2 with rfl
    obtain ⟨pth, hp⟩ : ∃ p, Ps[1 + i]? = some p := by
     refine ⟨_, List.getElem?_eq_getElem ?_⟩
     rw [hPs.len, ← hal]
     rcases Nat.lt_or_ge (1 + i) as.length with h | h
     ·exact h
     ·rw [List.getElem?_eq_none h] at ha; cases ha
    obtain ⟨pv, pn, hpa, hpv⟩ := hP.2.2 _ _ _ ha hp
    have hpe := hPs.each _ (List.mem_of_getElem? hp)
    obtain ⟨tl, hvl⟩ := ints_last hpv hpe.1
    have N5 := news_sub N4 (List.forall_mem_cons.mpr ⟨(by repeat (first | exact hpa | refine List.mem_cons_of_mem _ ?_) : (a, listOf pv.toArray pn) ∈ _), fun q hq => hq⟩)
    clear N4
    (repeat' first | (fail "g3"; (refine stop_of ?_)) | fail "k1")
    unfold Stop
    rename Fr _ _ _ _ => F10
    k_dflt (refine' LCt.ListComp_T F10 ?b1 ?b2 ?b3 ?b4 ?b5 ?hc2; (case b1 => with_unfolding_all rfl); (case b2 => decide); (case b3 => rfl); (case b4 => decide); (case b5 => rfl))
    case hc2 =>
    (repeat' first | ((with_reducible show LCt.CompSrcT ..); (refine stop_of ?_)) | fail "k1")
    unfold Stop
    rename News _ _ _ _ => N11
    k_dflt (refine' comp_test (fun i ys => IntsAre ys (((Ps.take i).filter fun o => decide (lastI pth ∈ o)).map fun o => ws.getD (lastI o).toNat 0)) rfl ?e1 N11 ?e2 ?e3 .nil ?e4 ?e5; (case e1 => k_asm); (case e2 => k_mem); (case e3 => omega))
    case e4 =>
     intro i2 ys2 v2 I2 oI2 C2 oC2 D2 m3 h3 tk3 E3 hv2 hR2 hoC2 hm3 F12 N12 off3 ne3
     have pz3 : ∃ a, as[i2]? = some a ∧ v2 = .ref a := by
      rw [List.getElem?_map] at hv2
      cases e : as[i2]? with
      | none => rw [e] at hv2; cases hv2
      | some a => rw [e] at hv2; exact ⟨a, rfl, by simpa using hv2.symm⟩
     obtain ⟨a2, ha2, pz4⟩ := pz3
     rcases pz4 with rfl
     obtain ⟨oth, hp2⟩ : ∃ p, Ps[i2]? = some p := by
      refine ⟨_, List.getElem?_eq_getElem ?_⟩
      rw [hPs.len, ← hal]
      rcases Nat.lt_or_ge i2 as.length with h | h
      ·exact h
      ·rw [List.getElem?_eq_none h] at ha2; cases ha2
     obtain ⟨pv2, pn2, hpa2, hpv2⟩ := hP.2.2 _ _ _ ha2 hp2
     have hpe2 := hPs.each _ (List.mem_of_getElem? hp2)
     obtain ⟨tl2, hvl2⟩ := ints_last hpv2 hpe2.1
     have hl6 := hPs.last (List.mem_of_getElem? hp2)
     obtain ⟨tw, hwt⟩ := hS.get _ _ (show ws[(lastI oth).toNat]? = some (ws.getD (lastI oth).toNat 0) by
      rw [List.getD_eq_getElem?_getD, List.getElem?_eq_getElem (by omega)]; rfl)
     have hwt' : us.toArray[(lastI oth).toNat]? = some (.int (ws.getD (lastI oth).toNat 0) tw) := by rw [List.getElem?_toArray]; exact hwt
     have hdec : (oth.any (· == lastI pth)) = decide (lastI pth ∈ oth) := by
      rw [Bool.eq_iff_iff]; simp
     have N13 := news_sub N12 (List.forall_mem_cons.mpr ⟨(by repeat (first | exact hpa2 | refine List.mem_cons_of_mem _ ?_) : (a2, listOf pv2.toArray pn2) ∈ _), fun q hq => hq⟩)
     clear N12
     (repeat' first | (fail "g6"; k_dflt (refine' list_last ?hl ?hv ?_; (case hl => is_list); (case hv => assumption))) | ((with_reducible show MapEnd ..); (refine stop_of ?_)) | fail "k1")
     ·unfold Stop
      refine MapEnd.intro (by k_asm) (news_sub (by k_asm) (fun q hq => by repeat (first | exact hq | refine List.mem_cons_of_mem _ ?_))) ?_
      have hb : lastI pth ∈ oth := by first | assumption | (simp_all; done)
      rw [tie_snoc Ps ws pth i2 oth hp2, if_pos hb]
      exact ints_snoc hR2 _ _
     ·unfold Stop
      refine MapEnd.intro (by k_asm) (news_sub (by k_asm) (fun q hq => by repeat (first | exact hq | refine List.mem_cons_of_mem _ ?_))) ?_
      have hb : ¬ lastI pth ∈ oth := by first | assumption | (simp_all; done)
      rw [tie_snoc Ps ws pth i2 oth hp2, if_neg hb, List.append_nil]
      exact hR2
    case e5 =>
     intro g ys2 hR2
     rw [hml, List.take_of_length_le (by rw [hPs.len]; exact Nat.le_refl _)] at hR2
     unfold LCg.FinE
     intro D3 h4 tk4 F12 N12 o12
     fail "g20"
     unfold Stop
     refine MapEnd.intro (by k_asm) (news_sub (by k_asm) (fun q hq => by repeat (first | exact hq | refine List.mem_cons_of_mem _ ?_))) ?_
     rw [take_map_snoc _ _ _ _ (by rw [List.getElem?_drop]; exact hp)]
     exact ints_snoc hR _ _
  case zf =>
    intro ys hR
    have hpl6 := hPs.len
    rw [List.size_toArray, List.take_of_length_le (by simp; omega)] at hR
    generalize hpt : List.map (tiePart Ps ws) (List.drop 1 Ps) = pt at hR
    have hpl5 : pt.length = 5 := by rw [← hpt, List.length_map, List.length_drop, hPs.len]
    unfold FinC
    intro D h4 tk4 F12 N12 o12
    (repeat' first | (fail "g3"; (refine stop_of ?_)) | fail "k1")
    unfold Stop
    rename Fr _ _ _ _ => F10
    k_dflt (refine' LCg.ListComp_U F10 ?b1 ?b2 ?b3 ?b4 ?b5 ?hc2; (case b1 => with_unfolding_all rfl); (case b2 => decide); (case b3 => rfl); (case b4 => decide); (case b5 => rfl))
    case hc2 =>
    (repeat' first | ((with_reducible show LCg.CompSrc ..); (refine stop_of ?_)) | fail "k1")
    unfold Stop
    rename News _ _ _ _ => N11
    have hyl : ys.length = 5 := by rw [hR.length]; exact hpl5
    k_dflt (refine' comp_map (fun i zs => IntsAre zs ((pt.take i).map fun q => q * (ws.sum - q))) rfl ?e1 N11 (.head _) ?e3 .nil ?e4 ?e5; (case e1 => k_asm); (case e3 => omega))
    case e4 =>
     intro i2 ys2 v2 I2 oI2 C2 oC2 D2 m3 h3 tk3 E3 hv2 hR2 hoC2 hm3 F12 N12 off3 ne3
     have pz5 := ints_at hR hv2
     obtain ⟨q, tq, pz6⟩ := pz5
     rcases pz6 with ⟨rfl, pz7⟩
     have hq := pz7
     clear pz7
     have hqb : 0 ≤ q ∧ q ≤ 18 := by
      have hqm := List.mem_of_getElem? hq
      rw [← hpt] at hqm
      have pz8 := List.mem_map.mp hqm
      obtain ⟨o, pu9, pz10⟩ := pz8
      rcases pz10 with rfl
      have := tie_le Ps ws o hw3
      omega
     have hmok : IntMulOk q (ws.sum - q) := IntMulOk.of_left (intBits_le_64 (by omega) (by omega))
     fail "g20"
     unfold Stop
     refine MapEnd.intro (by k_asm) (news_sub (by k_asm) (fun q hq => by repeat (first | exact hq | refine List.mem_cons_of_mem _ ?_))) ?_
     rw [take_map_snoc _ _ _ _ hq]
     exact ints_snoc hR2 _ _
    case e5 =>
     intro g ys2 hR2
     rw [hyl, List.take_of_length_le (by omega)] at hR2
     have hsum : (pt.map fun q => q * (ws.sum - q)).sum = tiesF Ps ws := by
      unfold tiesF
      rw [← hpt, List.map_map]
      rfl
     unfold LCg.FinE
     intro D3 h5 tk5 F13 N13 o13
     k_steps
     rw [hsum]
     exact hret _ _ _ (by k_asm) (news_sub (by k_asm) (fun q hq => by repeat (first | exact hq | refine List.mem_cons_of_mem _ ?_)))
 fail "mk.b"
end
section
theorem for_walkN {w : World} {A : Around} {E : Value → Shared → Prop} {s₂ : Shared} {h₀ : Heap} {env : Env} {x : Str} {px : Pos} {body : List Stmt} {Q : Flow → Shared → Prop} {I : Addr} {n : Nat} {P : Nat → Value → Prop} {St : Nat → Heap → Prop} {m₀ : Str → Option Value} {news : List (Addr × Obj)}
   (W : Walks Challenge.rw_to0089_01.prog w A I [I] [I] n P St) (hSto : ∀ i h, St i h → ∃ o, h.get? I = some o) (J : Nat → (Str → Option Value) → List (Addr × Obj) → Prop) (hx : env.kindOf x = some .local) (hp : (env.scope.kind == .class || (env.scope.kind == .module && env.locals != env.globals)) = false)
   (hLI : env.locals ≠ I) (h₀n : h₀.get? I = none) (hst : St 0 s₂.heap) (F : Fr h₀ env.locals s₂.heap m₀) (N : News h₀ env.locals s₂.heap news) (off : ∀ q ∈ news, q.1 ∉ [I]) (hJ0 : J 0 m₀ news)
   (turn : ∀ oI i v m₁ news₁ h tk, i < n → P i v → (∀ q ∈ news₁, q.1 ∉ [I]) → J i m₁ news₁ → Fr h₀ env.locals h (fun y => if y = x then some v else m₁ y) → News h₀ env.locals h (news₁ ++ [(I, oI)]) →
     wpAny (model Challenge.rw_to0089_01.prog w) A (execs body env) (TurnZ h₀ env.locals J [I] [(I, oI)] i s₂) E { s₂ with heap := h, toks := tk })
   (done : ∀ m₁ news₁ h tk, J n m₁ news₁ → Fr h₀ env.locals h m₁ → News h₀ env.locals h news₁ → Q .next { s₂ with heap := h, toks := tk })
   (hE : PassesOwn (model Challenge.rw_to0089_01.prog w) A env E) :
   codeAny (model Challenge.rw_to0089_01.prog w) A (.forLoop (.Name x px) (.ref I) body [] env) (fun r s' => match r with | .ok f => Q f s' | .error e => cameBackBy (model Challenge.rw_to0089_01.prog w) A env E e s') s₂ := by
 fail "mk.a"
 case zl =>
  revert W hSto hx hp hLI h₀n hst F N off hJ0 turn done hE
  revert w A E s₂ h₀ env x px body Q I n P St m₀ news J
  intro w A E s₂ h₀ env x px body Q I n P St m₀ news J W hSto hx hp hLI h₀n hst F N off hJ0 turn done hE
  refine codeAny_forLoop
    (fun k s' => ∃ h' tk m' news' i, s' = { s₂ with heap := h', toks := tk } ∧ St i h' ∧ Fr h₀ env.locals h' m' ∧ News h₀ env.locals h' news' ∧ (∀ q ∈ news', q.1 ∉ [I]) ∧ J i m' news' ∧ i ≤ n ∧ k = n + 1 - i) ?_ (n + 1)
    ⟨s₂.heap, s₂.toks, m₀, news, 0, rfl, hst, F, N, off, hJ0, Nat.zero_le _, rfl⟩
  intro k s' pz1
  obtain ⟨h', tk, m', news', i, pz2⟩ := pz1
  rcases pz2 with ⟨rfl, pz3⟩
  obtain ⟨hst', F', N', off', hJ, hi, pz4⟩ := pz3
  rcases pz4 with rfl
  have next : ∀ h₁ : Heap, (∀ b o, b ∉ [I] → h'.get? b = some o → h₁.get? b = some o) → Fr h₀ env.locals h₁ m' ∧ News h₀ env.locals h₁ news' := fun h₁ hk₁ =>
    ⟨⟨F'.ns.at' fun o e => hk₁ _ o (by simpa using hLI) e, fun b o e => hk₁ b o (by simp only [List.mem_singleton]; intro q; rw [q, h₀n] at e; cases e) (F'.keep b o e), F'.above⟩, fun p hp => ⟨hk₁ _ _ (off' p hp) (N' p hp).1, (N' p hp).2⟩⟩
  by_cases hlt : i < n
  · refine W.item i _ _ _ hlt hst' fun v h₁ tk₁ hP hst₁ hk₁ => ?_
    injections v h₁ tk₁ hP hst₁ hk₁
    obtain ⟨F₁, N₁⟩ := next h₁ hk₁
    refine wpAny_assign_Name (wpAny_storeName_local hx F₁.ns (fun h₂ hn₂ hs₂ => ?_) hp)
    injections h₂ hn₂ hs₂
    have F₂ := F₁.set hn₂ hs₂
    have N₂ := N₁.set hs₂
    obtain ⟨oI, hoI⟩ := hSto _ _ hst₁
    have hoI₂ : h₂.get? I = some oI := (hs₂.2 I (Ne.symm hLI)).trans hoI
    refine wpAny_mono (wpAny_passesOwn hE (turn oI i v m' news' h₂ (tk₁ + 1) hlt hP off' hJ F₂ fun q hq => ?_)) (fun f s₃ h₃ => ?_) fun _ _ e => e
    injections q hq
    injections f s₃ h₃
    · rcases List.mem_append.mp hq with hq | hq
      ·exact N₂ q hq
      ·rw [List.mem_singleton.mp hq]
       exact ⟨hoI₂, Ne.symm hLI, h₀n⟩
    · obtain ⟨h₅, tk₅, m₅, news₅, pz6⟩ := h₃
      rcases pz6 with ⟨rfl, pz7⟩
      rcases pz7 with ⟨rfl, pz8⟩
      obtain ⟨F₅, N₅, off₅, hJ₅⟩ := pz8
      refine ⟨n + 1 - (i + 1), by omega, h₅, tk₅, m₅, news₅, i + 1, rfl, W.frame _ _ _ hst₁ (fun b hb o e => ?_), F₅, fun q hq => N₅ q (List.mem_append_left _ hq), off₅, hJ₅, hlt, rfl⟩
      injections b hb o e
      rw [List.mem_singleton.mp hb] at e ⊢
      rw [hoI] at e
      rw [← e]; exact (N₅ _ (List.mem_append_right _ (.head _))).1
  · have hin : i = n := by omega
    subst hin
    refine W.done _ _ _ hst' fun h₁ tk₁ hk₁ => wpAny_execs_nil ?_
    obtain ⟨F₁, N₁⟩ := next h₁ hk₁
    exact done m' news' h₁ tk₁ hJ F₁ N₁
 fail "mk.b"
inductive ForS (w : World) (A : Around) (h₀ : Heap) (env : Env) (x : Str) (body : List Stmt) (Q : Flow → Shared → Prop) (E : Value → Shared → Prop) (xv : Value) (s₁ : Shared) : Prop
 | mk (wd : Str) (t : Tok) (m₀ : Str → Option Value) (news : List (Addr × Obj)) (J : Nat → (Str → Option Value) → List (Addr × Obj) → Prop) (h : xv = .str wd t ∧ Fr h₀ env.locals s₁.heap m₀ ∧ News h₀ env.locals s₁.heap news ∧ J 0 m₀ news ∧
  (∀ I oI i c u m₁ news₁ h tk, wd.cps[i]? = some c → (∀ q ∈ news, @LT.lt Nat _ q.1 I) → (∀ q ∈ news₁, q.1 ∉ [I]) → J i m₁ news₁ → Fr h₀ env.locals h (fun y => if y = x then some (.str ⟨#[c]⟩ u) else m₁ y) → News h₀ env.locals h (news₁ ++ [(I, oI)]) →
   wpAny (model Challenge.rw_to0089_01.prog w) A (execs body env) (TurnZ h₀ env.locals J [I] [(I, oI)] i s₁) E { s₁ with heap := h, toks := tk }) ∧
  (∀ m₁ news₁ h tk, J wd.cps.size m₁ news₁ → Fr h₀ env.locals h m₁ → News h₀ env.locals h news₁ → Q .next { s₁ with heap := h, toks := tk })) : ForS w A h₀ env x body Q E xv s₁
theorem for_str1 {w : World} {A : Around} {E : Value → Shared → Prop} {s : Shared} {h₀ : Heap} {env : Env} {x : Str} {px : Pos} {iter : PySem.Expr} {body : List Stmt} {pos : Pos} {Q : Flow → Shared → Prop} {mF : Str → Option Value} (_F₀ : Fr h₀ env.locals s.heap mF) (hA : A.handled = none) (hx : env.kindOf x = some .local) (hp : (env.scope.kind == .class || (env.scope.kind == .module && env.locals != env.globals)) = false)
   (h : wpAny (model Challenge.rw_to0089_01.prog w) A (eval iter env) (ForS w A h₀ env x body Q E) E s)
   (hs : ∀ x, foldedSetIterable iter env x = pure x := by intros _; rfl)
   (hE : PassesOwn (model Challenge.rw_to0089_01.prog w) A env E := by passes_own) :
   wpAny (model Challenge.rw_to0089_01.prog w) A (exec (.For (.Name x px) iter body [] pos) env) Q E s := by
 fail "mk.a"
 case zl =>
  revert _F₀ hA hx hp h hs hE
  revert w A E s h₀ env x px iter body pos Q mF
  intro w A E s h₀ env x px iter body pos Q mF _F₀ hA hx hp h hs hE
  refine wpAny_For (wpAny_mono h (fun xv s₁ h₁ => ?_) fun _ _ e => e) hs
  injections xv s₁ h₁
  obtain ⟨wd, t, m₀, news, J, pz10⟩ := h₁
  rcases pz10 with ⟨rfl, pz11⟩
  obtain ⟨F, N, hJ0, turn, done⟩ := pz11
  have hlt : @LT.lt Nat _ env.locals s₁.heap.objs.size := F.ns.lt
  have hnl : ∀ q ∈ news, @LT.lt Nat _ q.1 s₁.heap.objs.size := fun q hq => Heap.lt_size (N q hq).1
  have h₀n : h₀.get? s₁.heap.objs.size = none := by
    cases e : h₀.get? s₁.heap.objs.size with
    | none => rfl
    | some o' => exact absurd (Heap.lt_size (F.keep _ o' e)) (Nat.lt_irrefl _)
  have one : ∀ (ty : String) (W : Walks Challenge.rw_to0089_01.prog w A s₁.heap.objs.size [s₁.heap.objs.size] [s₁.heap.objs.size] wd.cps.size (SignAt wd) (fun i h => h.IsStrIter s₁.heap.objs.size ty wd t i)),
     codeAny (model Challenge.rw_to0089_01.prog w) A (.forLoop (.Name x px) (.ref s₁.heap.objs.size) body [] env) (fun r s' => match r with | .ok f => Q f s' | .error e => cameBackBy (model Challenge.rw_to0089_01.prog w) A env E e s')
      { s₁ with heap := s₁.heap.push { cls := .type ty, data := .fields #[.str wd t, .int 0 0] } } := by
    intro ty W
    refine for_walkN W (fun i h st => by obtain ⟨o, e, _⟩ := st; exact ⟨o, e⟩) J hx hp (Nat.ne_of_lt hlt) h₀n ⟨_, Heap.get?_push_size _ rfl, rfl, rfl⟩ (F.keeps fun _ _ e => Heap.get?_push_of_some _ e) (N.grown fun _ _ e => Heap.get?_push_of_some _ e)
     (fun q hq => by simpa using Nat.ne_of_lt (hnl q hq)) hJ0 (fun oI i v m₁ news₁ h tk hi hP off hJ F N => ?_) (fun m₁ news₁ h tk hJ F N => done m₁ news₁ h tk hJ F N) hE
    obtain ⟨c, u, hc, pz13⟩ := hP
    rcases pz13 with rfl
    exact turn _ oI i c u m₁ news₁ h tk hc hnl off hJ F N
  cases ha : wd.cps.all (· < 128)
  · exact wpAny_pyIter_wide ha (one "str_iterator" (Walks.strWide hA _ wd t))
  · exact wpAny_pyIter_ascii ha (one "str_ascii_iterator" (Walks.strAscii hA _ wd t))
 fail "mk.b"
end
section
noncomputable def kasRun {α : Type} (lt : Nat → Nat → Bool) : KasT α → α
 | .ret a => a
 | .ask i j k => kasRun lt (k (lt i j))
noncomputable def kasIn {α : Type} (n : Nat) (f : α → Bool) : KasT α → Bool
 | .ret a => f a
 | .ask i j k => decide (i < n) && decide (j < n) && kasIn n f (k true) && kasIn n f (k false)
theorem kasWp_run {α : Type} {cmp : Nat → Nat → (Bool → Shared → Prop) → Shared → Prop} {lt : Nat → Nat → Bool} {n : Nat} {f : α → Bool} {Q : α → Shared → Prop} {s : Shared}
  (hc : ∀ i j (C : Bool → Shared → Prop), i < n → j < n → C (lt i j) s → cmp i j C s) : ∀ t : KasT α, kasIn n f t = true → Q (kasRun lt t) s → t.kasWp cmp Q s
 | .ret a, _, h => h
 | .ask i j k, hi, h => by
  unfold kasIn at hi
  simp only [Bool.and_eq_true, decide_eq_true_eq] at hi
  refine hc i j _ hi.1.1.1 hi.1.1.2 (kasWp_run (n := n) (f := f) hc (k (lt i j)) ?_ h)
  cases lt i j
  ·exact hi.2
  ·exact hi.1.2
theorem kasRun_out {α : Type} {lt : Nat → Nat → Bool} {n : Nat} {f : α → Bool} : ∀ t : KasT α, kasIn n f t = true → f (kasRun lt t) = true
 | .ret a, h => h
 | .ask i j k, hi => by
  unfold kasIn at hi
  simp only [Bool.and_eq_true, decide_eq_true_eq] at hi
  refine kasRun_out (n := n) (f := f) (k (lt i j)) ?_
  cases lt i j
  ·exact hi.2
  ·exact hi.1.2
theorem sort6 : kasIn 6 (fun p : Array Nat => p.size == 6 && p.toList.all (fun i => decide (i < 6))) (kas_sort 6) = true := by decide +kernel
noncomputable def sortIx (Ps : List (List Int)) : List Nat := (kasRun (fun i j => ltI (Ps.getD i []) (Ps.getD j [])) (kas_sort 6)).toList
theorem sortIx_ok (Ps : List (List Int)) : (sortIx Ps).length = 6 ∧ ∀ i ∈ sortIx Ps, i < 6 := by
 have h := kasRun_out (lt := fun i j => ltI (Ps.getD i []) (Ps.getD j [])) (kas_sort 6) sort6
 simp only [Bool.and_eq_true, beq_iff_eq, List.all_eq_true, decide_eq_true_eq] at h
 exact ⟨by unfold sortIx; rw [Array.length_toList]; exact h.1, h.2⟩
theorem sorted_paths {w : World} {A : Around} {E : Value → Shared → Prop} {s : Shared} {h₀ : Heap} {L : Addr} {m : Str → Option Value} {news : List (Addr × Obj)} {pl : Addr} {as : List Addr} {Ps : List (List Int)} {kl : Nat} {Q : Value → Shared → Prop}
  (F : Fr h₀ L s.heap m) (N : News h₀ L s.heap news) (hP : PathsIn news pl as Ps kl) (h6 : Ps.length = 6) (hu : A.in1.in1.units < cLine)
  (h : ∀ D h' c, Fr h₀ L h' m → News h₀ L h' ((D, listOf ((sortIx Ps).map fun i => Value.ref (as.getD i 0)).toArray c) :: news) → (∀ q ∈ news, q.1 < D) → Q (.ref D) { s with heap := h' }) :
  wpAny (model Challenge.rw_to0089_01.prog w) A (call (.builtin "sorted") [.ref pl]) Q E s := by
 have ha6 : as.length = 6 := by rw [hP.2.1]; exact h6
 have hv6 : (as.map Value.ref).length = 6 := by rw [List.length_map]; exact ha6
 have hat : ∀ i, i < 6 → ∃ a p vs n, as[i]? = some a ∧ as.getD i 0 = a ∧ Ps.getD i [] = p ∧ (as.map Value.ref).getD i Value.none = .ref a ∧ (a, listOf (List.toArray vs) n) ∈ news ∧ IntsAre vs p := fun i hi => by
  have e1 : as[i]? = some (as[i]'(by omega)) := List.getElem?_eq_getElem _
  have e2 : Ps[i]? = some (Ps[i]'(by omega)) := List.getElem?_eq_getElem _
  rcases hP.2.2 i _ _ e1 e2 with ⟨vs, n, h3, h4⟩
  refine ⟨_, _, vs, n, e1, by rw [List.getD_eq_getElem?_getD, e1]; rfl, by rw [List.getD_eq_getElem?_getD, e2]; rfl, by rw [List.getD_eq_getElem?_getD, List.getElem?_map, e1]; rfl, h3, h4⟩
 refine kas_sorted (T := Value.type "list") F N ⟨_, (N _ hP.1).1, rfl, _, rfl⟩ (by omega) (by omega) (fun h' F' N' v hv => ?_) (by rfl) (fun D e1 h' F' N' lt => ?_)
 ·rcases List.mem_iff_getElem.mp hv with ⟨i, hi, rfl⟩
  rcases hat i (by omega) with ⟨a, p, vs, n, e1, e2, e3, e4, e5, e6⟩
  rw [List.getD_eq_getElem?_getD, List.getElem?_eq_getElem hi] at e4
  rw [show (as.map Value.ref)[i] = Value.ref a from e4]
  intros A Q E s k q
  exact wpAny_typeOf_ref (k _ _ (N' _ e5).1) q
 ·rw [hv6]
  refine kasWp_run (n := 6) (lt := fun i j => ltI (Ps.getD i []) (Ps.getD j [])) (fun i j C hi hj hC => ?_) (kas_sort 6) sort6 ?_
  ·rcases hat i hi with ⟨a, p, vs, n, e1, e2, e3, e4, e5, e6⟩
   rcases hat j hj with ⟨b, q, us, k, f1, f2, f3, f4, f5, f6⟩
   unfold kas_ask
   rw [e4, f4]
   rw [e3, f3] at hC
   exact lists_lt hu (N' _ (.tail _ e5)).1 (N' _ (.tail _ f5)).1 e6 f6 hC
  ·refine KasFin.intro F' N' (.head fun p hp => Nat.ne_of_lt (lt p hp)) fun h'' c F2 N2 => ?_
   have hl : ((kasRun (fun i j => ltI (Ps.getD i []) (Ps.getD j [])) (kas_sort 6)).toList.map fun i => (as.map Value.ref).getD i Value.none) = (sortIx Ps).map fun i => Value.ref (as.getD i 0) := by
    refine List.map_congr_left fun i hi => ?_
    rcases hat i ((sortIx_ok Ps).2 i hi) with ⟨a, p, vs, n, e1, e2, e3, e4, e5, e6⟩
    rw [e4, e2]
   rw [hl] at N2
   exact h D h'' c F2 N2 lt
end
section
noncomputable abbrev letD (k : Int) : Str := Txt.item (Str.ofString "abcdef") k
noncomputable abbrev tagD (k : Int) : Str := Str.ofString "<" ++ letD k ++ Str.ofString ">"
noncomputable abbrev closeD (k : Int) : Str := Str.ofString "</" ++ letD k ++ Str.ofString ">"
noncomputable abbrev kxD (n : Int) : Int := (n.fdiv 60).fmod 4
noncomputable abbrev rxD (n : Int) : Int := 1 + (n.fdiv 240).fmod 3
noncomputable def refOf (k : Int) : Str := if k = 0 then Str.ofString "&amp;" else if k = 1 then Str.ofString "&lt;" else if k = 2 then Str.ofString "&gt;" else Str.ofString "&#xd;"
noncomputable def wordRef (b r : Str) : Nat → Str
 | 0 => b
 | n + 1 => wordRef b r n ++ r
noncomputable def wordD (ns path after : List Int) : Str := wordRef (tagD (lastI path)) (refOf (kxD (nodeN ns path))) (rxD (nodeN ns path)).toNat ++ Txt.join (Str.ofString "") ((path.drop (after.length - 1)).reverse.map closeD)
noncomputable def orderP (Ps : List (List Int)) : List (List Int) := (sortIx Ps).map fun i => Ps.getD i []
noncomputable def dueF (ns : List Int) (Ps : List (List Int)) : List Str := ((orderP Ps).zip ((orderP Ps).drop 1 ++ [[]])).map fun pa => wordD ns pa.1 pa.2
theorem orderP_len (Ps : List (List Int)) : (orderP Ps).length = 6 := by unfold orderP; rw [List.length_map]; exact (sortIx_ok Ps).1
theorem due_ask {h₀ h : Heap} {L a1 a2 a3 a4 a5 a6 : Addr} {o1 o2 o3 o4 o5 o6 : Obj} {r : List (Addr × Obj)} {R : Prop} (_N : News h₀ L h ((a1, o1) :: (a2, o2) :: (a3, o3) :: (a4, o4) :: (a5, o5) :: (a6, o6) :: r)) (k : ∀ x y z, x = a1 → y = a3 → z = a6 → R) : R := k _ _ _ rfl rfl rfl
theorem due_fits {a b : Str} (h : a.length ≤ 100) (h2 : b.length ≤ 100) : a.length + b.length ≤ PySem.sizeLine := by rw [sizeLine_eq]; omega
local macro_rules | `(tactic| size_fits) => dy "w12" #[]
theorem wordRef_len (b r : Str) : ∀ n, (wordRef b r n).length = b.length + n * r.length
 | 0 => by simp [wordRef]
 | n + 1 => by
  show (wordRef b r n ++ r).length = _
  rw [strLen_append, wordRef_len b r n, Nat.succ_mul]
  omega
theorem refOf_len (k : Int) : (refOf k).length ≤ 5 := by
 unfold refOf
 split
 ·decide
 split
 ·decide
 split
 ·decide
 ·decide
theorem tagD_len {k : Int} (h : 0 ≤ k ∧ k < 6) : (tagD k).length = 3 := by
 unfold tagD
 rw [strLen_append, strLen_append, let_len h]
 rfl
theorem max0 {prog : Program} {w : World} {A : Around} {E : Value → Shared → Prop} {s : Shared} {h₀ : Heap} {L : Addr} {m : Str → Option Value} {news : List (Addr × Obj)} {Q : Value → Shared → Prop} {n : Nat} {t u : Tok} (hh : A.handled = none) (F : Fr h₀ L s.heap m) (N : News h₀ L s.heap news)
  (h : ∀ h' tk t', Fr h₀ L h' m → News h₀ L h' news → Q (.int ((n - 1 : Nat) : Int) t') { s with heap := h', toks := tk }) : wpAny (model prog w) A (call (.builtin "max") [.int ((n : Int) - 1) t, .int 0 u]) Q E s := by
 refine max_two_ints hh fun h' tk kp => ?_
 have F2 := F.kept kp
 have N2 := N.grown kp
 by_cases h0 : n = 0
 ·rw [if_pos (by omega)]
  have := h h' tk u F2 N2
  rw [h0] at this
  exact this
 ·rw [if_neg (by omega)]
  have := h h' tk t F2 N2
  rw [show ((n - 1 : Nat) : Int) = (n : Int) - 1 from Int.ofNat_sub (Nat.pos_of_ne_zero h0)] at this
  exact this
theorem close_sum : ∀ (l : List Int), (∀ k ∈ l, 0 ≤ k ∧ k < 6) → ((l.map closeD).map (·.length)).sum = 4 * l.length
 | [], _ => rfl
 | k :: l, h => by
  rw [List.map_cons, List.map_cons, List.sum_cons, List.length_cons, close_sum l fun x hx => h x (List.mem_cons_of_mem _ hx)]
  have : (closeD k).length = 4 := by
   unfold closeD
   rw [strLen_append, strLen_append, let_len (h k (List.mem_cons_self ..))]
   rfl
  omega
theorem close_join (l : List Int) (h : ∀ k ∈ l, 0 ≤ k ∧ k < 6) : (Txt.join (Str.ofString "") (l.map closeD)).length = 4 * l.length := by
 unfold Txt.join
 rw [size_glued, close_sum l h, show (Str.ofString "").length = 0 from rfl]
 omega
theorem text_cps0 : ∀ a : Fin 4, ∀ b : Fin 3, (Txt.mul (Txt.item (Str.ofString "&<>\x0d") (a.val : Int)) (1 + (b.val : Int))).cps.toList = List.replicate (1 + b.val) ([38, 60, 62, 13].getD a.val 0) := by decide +kernel
theorem text_cps (n : Int) : (textS n).cps.toList = List.replicate (rxD n).toNat ([38, 60, 62, 13].getD (kxD n).toNat 0) := by
 rcases fm (n.fdiv 60) (m := 4) (by decide) with ⟨h1, h2⟩
 rcases fm (n.fdiv 240) (m := 3) (by decide) with ⟨h3, h4⟩
 have := text_cps0 ⟨(kxD n).toNat, (Int.toNat_lt h1).mpr h2⟩ ⟨((n.fdiv 240).fmod 3).toNat, (Int.toNat_lt h3).mpr h4⟩
 unfold textS rxD kxD
 unfold kxD at this
 dsimp only at this
 rw [Int.toNat_of_nonneg h1, Int.toNat_of_nonneg h3] at this
 rw [this]
 congr 1
 exact (Int.toNat_add (a := 1) (by decide) h3).symm
theorem text_sign {n : Int} {j c : Nat} (h : (textS n).cps[j]? = some c) : (kxD n = 0 ∧ c = 38) ∨ (kxD n = 1 ∧ c = 60) ∨ (kxD n = 2 ∧ c = 62) ∨ (kxD n = 3 ∧ c = 13) := by
 rw [← Array.getElem?_toList, text_cps] at h
 have h9 := List.eq_of_mem_replicate (List.mem_of_getElem? h)
 rcases fm (n.fdiv 60) (m := 4) (by decide) with ⟨h1, h2⟩
 have h3 : kxD n = 0 ∨ kxD n = 1 ∨ kxD n = 2 ∨ kxD n = 3 := by unfold kxD; omega
 rcases h3 with e | e | e | e
 ·exact .inl ⟨e, by rw [h9, e]; rfl⟩
 ·exact .inr (.inl ⟨e, by rw [h9, e]; rfl⟩)
 ·exact .inr (.inr (.inl ⟨e, by rw [h9, e]; rfl⟩))
 ·exact .inr (.inr (.inr ⟨e, by rw [h9, e]; rfl⟩))
theorem text_size (n : Int) : (textS n).cps.size = (rxD n).toNat := by
 rw [← Array.length_toList, text_cps, List.length_replicate]
theorem news_name {h₀ h : Heap} {L : Addr} {l : List (Addr × Obj)} (_N : News h₀ L h l) : ∃ l', l' = l := ⟨l, rfl⟩
theorem ord_at {Ps : List (List Int)} {as : List Addr} {news : List (Addr × Obj)} {pl : Addr} {kl : Nat} (hP : PathsIn news pl as Ps kl) (hPs : PsOk Ps) {i : Nat} {v : Value} (h : ((sortIx Ps).map fun i => Value.ref (as.getD i 0))[i]? = some v) :
  ∃ a p vs n, v = .ref a ∧ (orderP Ps)[i]? = some p ∧ p ∈ Ps ∧ (a, listOf (List.toArray vs) n) ∈ news ∧ IntsAre vs p := by
 rw [List.getElem?_map] at h
 cases e : (sortIx Ps)[i]? with
 | none => rw [e] at h; cases h
 | some j =>
  rw [e] at h
  have hj := (sortIx_ok Ps).2 j (List.mem_of_getElem? e)
  have h6 := hPs.len
  have ha6 : as.length = 6 := by rw [hP.2.1]; exact h6
  have e1 : as[j]? = some (as[j]'(by omega)) := List.getElem?_eq_getElem _
  have e2 : Ps[j]? = some (Ps[j]'(by omega)) := List.getElem?_eq_getElem _
  rcases hP.2.2 j _ _ e1 e2 with ⟨vs, n, h3, h4⟩
  refine ⟨_, _, vs, n, ?_, ?_, List.mem_of_getElem? e2, h3, h4⟩
  ·have : some (Value.ref (as.getD j 0)) = some v := h
   rw [List.getD_eq_getElem?_getD, e1] at this
   exact (Option.some.inj this).symm
  ·unfold orderP
   rw [List.getElem?_map, e]
   show some (Ps.getD j []) = _
   rw [List.getD_eq_getElem?_getD, e2]
   rfl
local macro_rules | `(tactic| size_fits) => dy "w13" #[]
theorem due_spec (hfill : PR = PR) (B : Below A₀ base outer h₀) (F : Fr h₀ L s.heap m) (X : (K0.heap_1 w.params).In h₀) (T : Top p loose mean mg mb h₀) (hk : cs.kind = .function) (hd : dp + 8 < recursionLimit) (hu : un + 150 < cLine)
   (pl nA : Addr) (as : List Addr) (Ps : List (List Int)) (kl : Nat) (us : List Value) (ns : List Int) (kn : Nat) (news : List (Addr × Obj)) (N0 : News h₀ L s.heap news) (hP : PathsIn news pl as Ps kl) (hPs : PsOk Ps) (hw : (nA, listOf us.toArray kn) ∈ news) (hS : IntsAre us ns) (hNs : NsOk ns)
   (hret : ∀ du ds dn h' tk', Fr h₀ L h' m → News h₀ L h' ((du, listOf ds dn) :: news) → StrsAre ds.toList (dueF ns Ps) → (∀ q ∈ news, q.1 < du) → Q (.ref du) { s with heap := h', toks := tk' })
   :
   wpAny (model Challenge.rw_to0089_01.prog w) (ktrTop dp un gd cn cs L a ccd cl outer) (call (.ref 338) [.ref pl, .ref nA]) Q E s := by
 fail "mk.a"
 case zl =>
  revert hfill B F X T hk hd hu N0 hP hPs hw hS hNs hret
  revert w p loose mean mg mb dp un gd cn cs a ccd cl outer A₀ base h₀ L m s Q E pl nA as Ps kl us ns kn news
  intro w p loose mean mg mb dp un gd cn cs a ccd cl outer A₀ base h₀ L m s Q E pl nA as Ps kl us ns kn news hfill B F X T hk hd hu N0 hP hPs hw hS hNs hret
  have hpl := hP.1
  have hal : as.length = 6 := by rw [hP.2.1]; exact hPs.len
  have N : News h₀ L s.heap ((pl, listOf (as.map Value.ref).toArray kl) :: (nA, listOf us.toArray kn) :: news) := news_sub N0 (List.forall_mem_cons.mpr ⟨hpl, List.forall_mem_cons.mpr ⟨hw, fun q hq => hq⟩⟩)
  have hml : (as.map Value.ref).length = 6 := by rw [List.length_map, hal]
  clear N0
  revert X; k_fill; intro X; refine wpAny_call ?_; first | k_dflt (fail "my.enter") | fail
  (repeat' first | ((with_reducible show wpAny _ _ (call (Value.builtin "sorted") _) _ _ _); (refine stop_of ?_)) | fail "k1")
  unfold Stop
  rename Fr _ _ _ _ => F9
  rename News _ _ _ _ => N9
  k_dflt (refine' sorted_paths F9 N9 (PathsIn.sub hP ?p1) hPs.len ?p2 (fun D h1 c F1 N1 lt1 => ?_); (case p1 => (intro q hq; fail "my.mem")); (case p2 => ktr_units))
  injections D h1 c F1 N1 lt1
  clear N9
  have hso := sortIx_ok Ps
  have hol : ((sortIx Ps).map fun i => Value.ref (as.getD i 0)).length = 6 := by rw [List.length_map]; exact hso.1
  generalize hod : ((sortIx Ps).map fun i => Value.ref (as.getD i 0)) = od at N1 hol
  (repeat' first | (fail "g5"; refine stop_of ?_) | fail "k1")
  unfold Stop
  rename Fr _ _ _ _ => F9
  obtain ⟨mL, eL⟩ := fr_name F9
  k_dflt (refine' for_T1 F9 rfl rfl rfl rfl ?h)
  (repeat' first | ((with_reducible show wpAny _ _ (subscriptTail _ (PySem.Expr.Slice (some (PySem.Expr.Constant _ _ _)) none none _) (Value.ref _) (Value.ref _)) _ _ _); k_dflt (refine' kms_slice_lit ?F ?N ?l ?p ?q (pick_from _ 1) ?_ ?s ?t ?z; (case F | N => k_asm); (case l => is_list); (case p | q => kmk_part); (case s => with_unfolding_all rfl); (case t => kmk_pure); (case z => ((simp only [List.size_toArray, PySem.sizeLine_eq]; omega))); intro D' h' F' N' l1); (try k_lt l1)) | ((with_reducible show wpAny _ _ (binaryOp _ (Value.ref _) (Value.ref _)) _ _ _); k_dflt (refine' kmk_add_lit ?F ?N ?a ?b rfl ?_ ?z; (case F | N => k_asm); (case a | b => is_list); (case z => ((simp only [List.length_drop, List.length_cons, List.length_nil, PySem.sizeLine_eq]; omega))); intro D' h' F' N' l1); (try k_lt l1)) | ((with_reducible show wpAny _ _ (call (Value.type "zip") _) _ _ _); (refine stop_of ?_)) | fail "k1")
  unfold Stop
  rename News _ _ _ _ => N9
  refine due_ask N9 fun aft em du e1 e2 e3 => ?_
  injections aft em du e1 e2 e3
  subst e1 e2 e3
  have N8 := news_sub N9 (show ∀ q ∈ (du, listOf #[] 0) :: (aft, listOf (od.drop 1 ++ [Value.ref em]).toArray 0) :: (D, listOf od.toArray c) :: (em, listOf #[] 0) :: (pl, listOf (as.map Value.ref).toArray kl) :: (nA, listOf us.toArray kn) :: news, q ∈ _ from List.forall_mem_cons.mpr ⟨.tail _ (.tail _ (.tail _ (.tail _ (.tail _ (.head _))))), List.forall_mem_cons.mpr ⟨.head _, List.forall_mem_cons.mpr ⟨.tail _ (.tail _ (.tail _ (.tail _ (.tail _ (.tail _ (.head _)))))), List.forall_mem_cons.mpr ⟨.tail _ (.tail _ (.head _)), fun q hq => .tail _ (.tail _ (.tail _ (.tail _ (.tail _ (.tail _ (.tail _ hq))))))⟩⟩⟩⟩)
  clear N9
  k_dflt (refine' zip_K (L := _) (m := _) (news := _) ?zF N8 ?z1 ?z2 (fun z TI TO i1 i2 h2 DZ a1 a2 a3 a4 a5 F7 N7 lo lL g0 => ?zz); (case zF => k_asm); (case z1 | z2 => is_list))
  injections z TI TO i1 i2 h2 DZ a1 a2 a3 a4 a5 F7 N7 lo lL g0
  case zz =>
  rename D < du ∧ pl < du ∧ nA < du ∧ AllLt du news => hdu
  rename _ < em ∧ _ < em ∧ du < em ∧ D < em ∧ pl < em ∧ nA < em ∧ AllLt em news => hem
  rename _ < aft ∧ em < aft ∧ _ < aft ∧ _ < aft ∧ du < aft ∧ D < aft ∧ pl < aft ∧ nA < aft ∧ AllLt aft news => haft
  have hnd := allLt_mem hdu.2.2.2
  obtain ⟨hDdu, hpdu, hndu, pu2⟩ := hdu
  have hduem : @LT.lt Nat _ du em := hem.2.2.1
  have hduaft : @LT.lt Nat _ du aft := haft.2.2.2.2.1
  clear hem haft
  generalize hbas : (pl, listOf (as.map Value.ref).toArray kl) :: (nA, listOf us.toArray kn) :: news = bas at N7 lo
  have hbm : ∀ q ∈ news, q ∈ bas := fun q hq => hbas ▸ .tail _ (.tail _ hq)
  have hbd : ∀ q ∈ bas, q.1 ≠ du := by
    rw [← hbas]
    intro q hq
    rcases List.mem_cons.mp hq with rfl | hq
    ·exact Nat.ne_of_lt hpdu
    rcases List.mem_cons.mp hq with rfl | hq
    ·exact Nat.ne_of_lt hndu
    ·exact Nat.ne_of_lt (hnd q hq)
  have ho6 := orderP_len Ps
  refine ForT.zip (l1 := D) (l2 := aft) (n1 := c) (n2 := 0) (xs := od.toArray) (ys := (od.drop 1 ++ [Value.ref em]).toArray) rfl DZ (fun i m₁ nw => (∀ y, y ≠ Str.ofString "path" → y ≠ Str.ofString "after" → y ≠ Str.ofString "word" → y ≠ Str.ofString "sign" → y ≠ Str.ofString "closed" → m₁ y = mL y) ∧ ∃ (ds : Array Value) (dn : Nat), nw = (du, listOf ds dn) :: (aft, listOf (od.drop 1 ++ [Value.ref em]).toArray 0) :: (D, listOf od.toArray c) :: (em, listOf #[] 0) :: bas ∧ StrsAre ds.toList ((dueF ns Ps).take i)) a1 a2 a3 a4 a5 ?_ ?_ g0 F7 N7 ?_ ?_ ?_ ?_
  · intro i m nw pz3
    obtain ⟨pu4, ds, dn, pz5⟩ := pz3
    rcases pz5 with ⟨rfl, pz6⟩
    exact ⟨.tail _ (.tail _ (.head _)), .tail _ (.head _)⟩
  · intro hb
    exact absurd (lL _ hb) (Nat.lt_irrefl _)
  · intro q hq hb
    exact absurd (lo q hq _ hb) (Nat.lt_irrefl _)
  · exact ⟨fun y _ _ _ _ _ => by rw [eL], #[], 0, rfl, .nil⟩
  · intro X i vx vy m₁ nw h tk hx hy hX off pz7
    obtain ⟨hmo, ds, dn, pz8⟩ := pz7
    rcases pz8 with ⟨rfl, pz9⟩
    have hds := pz9
    clear pz9
    intro F5 N5
    rw [List.getElem?_toArray] at hx hy
    rw [← hod] at hx
    have pz10 := ord_at hP hPs hx
    obtain ⟨pa, path, pv, pn, pz11⟩ := pz10
    rcases pz11 with ⟨rfl, pz12⟩
    obtain ⟨hop, hpm, hpa, hpv⟩ := pz12
    have pz13 : ∃ ab after av an, vy = Value.ref ab ∧ ((orderP Ps).drop 1 ++ [[]])[i]? = some after ∧ (ab, listOf (List.toArray av) an) ∈ (em, listOf #[] 0) :: bas ∧ IntsAre av after ∧ after.length ≤ 6 ∧ ab ≠ du := by
     have hil : i < 6 := by
      rcases Nat.lt_or_ge i (orderP Ps).length with h | h
      ·omega
      ·rw [List.getElem?_eq_none h] at hop; cases hop
     rcases Nat.lt_or_ge i 5 with h5 | h5
     ·rw [List.getElem?_append_left (by rw [List.length_drop]; omega), List.getElem?_drop, ← hod] at hy
      obtain ⟨ab, after, av, an, e1, e2, e3, e4, e5⟩ := ord_at hP hPs hy
      exact ⟨ab, after, av, an, e1, by rw [List.getElem?_append_left (by rw [List.length_drop]; omega), List.getElem?_drop]; exact e2, .tail _ (hbm _ e4), e5, (hPs.each _ e3).2.1, hbd _ (hbm _ e4)⟩
     ·have hi5 : i = 5 := by omega
      subst hi5
      rw [List.getElem?_append_right (by rw [List.length_drop]; omega)] at hy ⊢
      rw [List.length_drop, hol] at hy
      rw [List.length_drop, ho6]
      exact ⟨em, [], [], 0, by simpa using hy.symm, rfl, .head _, .nil, by simp, Nat.ne_of_gt hduem⟩
    obtain ⟨ab, after, av, an, pz14⟩ := pz13
    rcases pz14 with ⟨rfl, pz15⟩
    obtain ⟨hoa, haa, hav, hal6, habd⟩ := pz15
    have hpl6 := hPs.last hpm
    obtain ⟨hn0, hn1, hnk⟩ := hNs.node hpl6
    obtain ⟨tl, hvl⟩ := ints_last hpv (hPs.each _ hpm).1
    obtain ⟨tn, hwn⟩ := hS.get _ _ hnk
    have hwn' : us.toArray[(lastI path).toNat]? = some (.int (nodeN ns path) tn) := by rw [List.getElem?_toArray]; exact hwn
    have hpl7 : path.length ≤ 6 := (hPs.each _ hpm).2.1
    have hvl6 : pv.length ≤ 6 := by rw [hpv.length]; exact hpl7
    have hal7 : av.length ≤ 6 := by rw [hav.length]; exact hal6
    have hpad : pa ≠ du := hbd _ (hbm _ hpa)
    have hXm : ∀ q ∈ X, q.1 ∈ [z, TI, TO, i1, i2] := fun q hq => hX ▸ List.mem_map_of_mem hq
    have hnb : (nA, listOf us.toArray kn) ∈ bas := hbas ▸ .tail _ (.head _)
    simp only [List.cons_append] at N5
    have hr1 : ∀ q ∈ bas ++ X, q.1 ≠ du := fun q hq => by
     rcases List.mem_append.mp hq with hq | hq
     ·exact hbd q hq
     ·exact fun h => off _ (.head _) (h ▸ hXm q hq)
    have hpr : (pa, listOf (List.toArray pv) pn) ∈ bas ++ X := List.mem_append_left _ (hbm _ hpa)
    have hnr : (nA, listOf us.toArray kn) ∈ bas ++ X := List.mem_append_left _ hnb
    have har : (ab, listOf (List.toArray av) an) ∈ (em, listOf #[] 0) :: (bas ++ X) := by
     rcases List.mem_cons.mp haa with h | h
     ·rw [h]; exact .head _
     ·exact .tail _ (List.mem_append_left _ h)
    generalize hrest : bas ++ X = rest at N5 hr1 hpr hnr har
    have hdsz : ds.size ≤ 6 := by
     have := strs_size hds
     rw [List.length_take] at this
     have h9 : (dueF ns Ps).length ≤ 6 := by
      unfold dueF
      rw [List.length_map, List.length_zip, ho6]
      omega
     omega
    have hnad : nA ≠ du := hr1 _ hnr
    have hemd : em ≠ du := Nat.ne_of_gt hduem
    have haftd : aft ≠ du := Nat.ne_of_gt hduaft
    have hDd : D ≠ du := Nat.ne_of_lt hDdu
    have N6 := news_sub N5 (List.forall_mem_cons.mpr ⟨.tail _ (.tail _ (.tail _ har)), List.forall_mem_cons.mpr ⟨.tail _ (.tail _ (.tail _ (.tail _ hpr))), List.forall_mem_cons.mpr ⟨.tail _ (.tail _ (.tail _ (.tail _ hnr))), fun q hq => hq⟩⟩⟩)
    clear N5
    have em1 : m₁ = fun y => if y = Str.ofString "path" then m₁ (Str.ofString "path") else if y = Str.ofString "after" then m₁ (Str.ofString "after") else if y = Str.ofString "word" then m₁ (Str.ofString "word") else if y = Str.ofString "sign" then m₁ (Str.ofString "sign") else if y = Str.ofString "closed" then m₁ (Str.ofString "closed") else mL y := by
     funext y
     by_cases h1 : y = Str.ofString "path"
     ·rw [if_pos h1, h1]
     rw [if_neg h1]
     by_cases h2 : y = Str.ofString "after"
     ·rw [if_pos h2, h2]
     rw [if_neg h2]
     by_cases h3 : y = Str.ofString "word"
     ·rw [if_pos h3, h3]
     rw [if_neg h3]
     by_cases h4 : y = Str.ofString "sign"
     ·rw [if_pos h4, h4]
     rw [if_neg h4]
     by_cases h5 : y = Str.ofString "closed"
     ·rw [if_pos h5, h5]
     rw [if_neg h5]; exact hmo y h1 h2 h3 h4 h5
    generalize m₁ (Str.ofString "path") = u1 at em1
    generalize m₁ (Str.ofString "after") = u2 at em1
    generalize m₁ (Str.ofString "word") = u3 at em1
    generalize m₁ (Str.ofString "sign") = u4 at em1
    generalize m₁ (Str.ofString "closed") = u5 at em1
    clear hmo
    subst em1
    rw [eL] at F5
    dsimp only
    (repeat' first | (fail "g6"; k_dflt (refine' list_last ?hl ?hv ?_; (case hl => is_list); (case hv => assumption))) | (fail "g16"; refine stop_of ?_) | fail "k1")
    unfold Stop
    rename Fr _ _ _ _ => F6
    rename_i b0 b1 b2 b3 b4 b5 b6 b7 b8 b9 b10 b11 b12 b13 b14 b15 b16 b17 b18 b19 b20 b21 b22 b23 b24 b25 b26 b27 b28 b29 b30 b31 b32 b33 b34 b35
    try unfold qk
    try unfold ek
    try unfold b11
    try unfold b12
    try unfold b8
    try unfold b9
    clear b8 b9 b11 b12 qk ek
    as_aux_lemma =>
    revert hfill B F T hk hd hu hP hPs hw hS hNs hret hpl hal N hml b0 b4 b5 b6 b7 lt1 hso hod hol b24 eL l1 b25 DZ a1 a2 a3 a4 a5 lL g0 hnd hDdu hpdu hndu pu2 hduem hduaft hbas lo hbm hbd ho6 hX off hds hx hop hpm hpa hpv hy hoa haa hav hal6 habd hpl6 hn0 hn1 hnk hvl hwn hwn' hpl7 hvl6 hal7 hpad hXm hnb hrest hr1 hpr hnr har hdsz hnad hemd haftd hDd N6 F5 b27 b30 b33 F6 b35
    revert w p loose mean mg mb dp un gd cn cs a ccd cl outer A₀ base h₀ L m s Q E pl nA as Ps kl us ns kn news b1 b2 b3 b10 D h1 c od b13 b14 b15 b16 b17 b18 b19 mL D' b20 b21 b22 b23 h' aft em du z TI TO i1 i2 h2 bas X i h b26 ds dn pa path pv pn ab after av an tl tn rest u1 u2 u3 u4 u5 b28 b29 b31 b32 b34 tk
    refine' (?wk : LK _) _ _ ?wl ?wb ?wc
    case wl => (
    intro w p loose mean mg mb dp un gd cn cs a ccd cl outer A₀ base h₀ L m s Q E pl nA as Ps kl us ns kn news b1 b2 b3 b10 D h1 c od b13 b14 b15 b16 b17 b18 b19 mL D' b20 b21 b22 b23 h' aft em du z TI TO i1 i2 h2 bas X i h b26 ds dn pa path pv pn ab after av an tl tn rest u1 u2 u3 u4 u5 b28 b29 b31 b32 b34 tk hfill B F T hk hd hu hP hPs hw hS hNs hret hpl hal N hml b0 b4 b5 b6 b7 lt1 hso hod hol b24 eL l1 b25 DZ a1 a2 a3 a4 a5 lL g0 hnd hDdu hpdu hndu pu2 hduem hduaft hbas lo hbm hbd ho6 hX off hds hx hop hpm hpa hpv hy hoa haa hav hal6 habd hpl6 hn0 hn1 hnk hvl hwn hwn' hpl7 hvl6 hal7 hpad hXm hnb hrest hr1 hpr hnr har hdsz hnad hemd haftd hDd N6 F5 b27 b30 b33 F6 b35
    obtain ⟨mT, eT⟩ := fr_name F6
    k_dflt (refine' for_str1 F6 rfl rfl rfl ?hs1)
    case hs1 =>
    (repeat' first | ((with_reducible show wpAny _ _ (call (Value.ref 319) _) _ _ _); refine stop_of ?_) | ((fail_if_success fail "g6"); fail "g15"; k_dflt (refine' list_at ?hl ?h0 ?hi ?hv ?_; (case hl => is_list); (case h0 | hi => omega); (case hv => assumption))) | (fail "g6"; k_dflt (refine' list_last ?hl ?hv ?_; (case hl => is_list); (case hv => assumption))) | fail "k1")
    unfold Stop
    k_dflt (refine' text_spec rfl ?k1 ?k2 ?k3 ?k4 ?k5 ?k6 ?k7 _ ⟨hn0, hn1⟩ (fm _ (by decide)) (fm _ (by decide)) _ _ ?hN (fun h' tk' t' F7 N7 => ?_); (case k1 | k2 | k3 | k4 | hN => k_asm); (case k5 => rfl); (case k6 => first | ktr_room | k_room); (case k7 => ktr_units))
    injections h' tk' t' F7 N7
    (repeat' first | ((with_reducible show ForS ..); (refine stop_of ?_)) | fail "k1")
    unfold Stop
    obtain ⟨NW, eNW⟩ := news_name N7
    rw [← eNW] at N7
    refine ⟨textS (nodeN ns path), _, mT, NW, fun j m nw => (∀ y, y ≠ Str.ofString "word" → y ≠ Str.ofString "sign" → m y = mT y) ∧ (∃ t, m (Str.ofString "word") = some (.str (wordRef (tagD (lastI path)) (refOf (kxD (nodeN ns path))) j) t)) ∧ nw = NW, rfl, by rw [eT]; exact F7, N7, ⟨fun y _ _ => rfl, ?_, rfl⟩, ?_, ?_⟩
    ·exact ⟨_, by rw [eT]; rfl⟩
    ·intro I oI j c u m₁ news₁ h tk hc hlt off2 pz16
     obtain ⟨hmo, pz17⟩ := pz16
     rcases pz17 with ⟨pz19, pz18⟩
     obtain ⟨tw, hmw⟩ := pz19
     have hnw := pz18
     clear pz18
     intro F8 N8
     subst hnw
     have em2 : m₁ = fun y => if y = Str.ofString "word" then some (.str (wordRef (tagD (lastI path)) (refOf (kxD (nodeN ns path))) j) tw) else if y = Str.ofString "sign" then m₁ (Str.ofString "sign") else mT y := by
      funext y
      by_cases h1 : y = Str.ofString "word"
      ·rw [if_pos h1, h1]; exact hmw
      rw [if_neg h1]
      by_cases h2 : y = Str.ofString "sign"
      ·rw [if_pos h2, h2]
      rw [if_neg h2]; exact hmo y h1 h2
     generalize m₁ (Str.ofString "sign") = u6 at em2
     clear hmo hmw
     subst em2
     have hsg := text_sign hc
     have hj3 : j ≤ 3 := by
      have := (text_good (nodeN ns path)).2
      rcases Nat.lt_or_ge j (textS (nodeN ns path)).cps.size with h | h
      ·have h' : (textS (nodeN ns path)).cps.size = (textS (nodeN ns path)).length := rfl
       omega
      ·rw [Array.getElem?_eq_none h] at hc; cases hc
     have hwl : (wordRef (tagD (lastI path)) (refOf (kxD (nodeN ns path))) j).length ≤ 100 := by
      rw [wordRef_len, tagD_len hpl6]
      have := refOf_len (kxD (nodeN ns path))
      have := Nat.mul_le_mul hj3 this
      omega
     generalize hkx : kxD (nodeN ns path) = kx at F8 hsg
     rw [hkx] at hwl
     generalize hwb : wordRef (tagD (lastI path)) (refOf kx) j = wb at F8 hwl
     rcases hsg with ⟨e1, rfl⟩ | ⟨e1, rfl⟩ | ⟨e1, rfl⟩ | ⟨e1, rfl⟩
     all_goals
      subst e1
      (repeat' first | ((with_reducible show TurnZ ..); (refine stop_of ?_)) | fail "k1")
      unfold Stop
      rename Fr _ _ _ _ => F10
      rename News _ _ _ _ => N10
      refine TurnZ.intro F10 (news_sub N10 (fun q hq => by repeat (first | exact hq | refine List.mem_cons_of_mem _ ?_))) off2 ⟨fun y h1 h2 => by simp only [if_neg h1, if_neg h2], ?_, rfl⟩
      show ∃ t, _ = some (Value.str (wordRef _ _ j ++ refOf _) t)
      rw [hwb]
      exact ⟨_, rfl⟩
    ·intro m₁ news₁ h tk pz20
     obtain ⟨hmo, pz21⟩ := pz20
     rcases pz21 with ⟨pz23, pz22⟩
     obtain ⟨tw, hmw⟩ := pz23
     have hnw := pz22
     clear pz22
     intro F8 N8
     have em2 : m₁ = fun y => if y = Str.ofString "word" then some (.str (wordRef (tagD (lastI path)) (refOf (kxD (nodeN ns path))) (textS (nodeN ns path)).cps.size) tw) else if y = Str.ofString "sign" then m₁ (Str.ofString "sign") else mT y := by
      funext y
      by_cases h1 : y = Str.ofString "word"
      ·rw [if_pos h1, h1]; exact hmw
      rw [if_neg h1]
      by_cases h2 : y = Str.ofString "sign"
      ·rw [if_pos h2, h2]
      rw [if_neg h2]; exact hmo y h1 h2
     generalize m₁ (Str.ofString "sign") = u6 at em2
     clear hmo hmw
     subst em2
     rw [text_size] at F8
     have hwl : (wordRef (tagD (lastI path)) (refOf (kxD (nodeN ns path))) (rxD (nodeN ns path)).toNat).length ≤ 100 := by
      rw [wordRef_len, tagD_len hpl6]
      have h5 := refOf_len (kxD (nodeN ns path))
      have h6 := (text_good (nodeN ns path)).2
      have h7 : (textS (nodeN ns path)).length = (rxD (nodeN ns path)).toNat := text_size _
      have := Nat.mul_le_mul (show (rxD (nodeN ns path)).toNat ≤ 3 by omega) h5
      omega
     generalize hwb : wordRef (tagD (lastI path)) (refOf (kxD (nodeN ns path))) (rxD (nodeN ns path)).toNat = wb at F8 hwl
     subst hnw
     rw [eNW] at N8
     rw [eT] at F8
     (repeat' first | ((with_reducible show wpAny _ _ (call (Value.builtin "max") _) _ _ _); (refine stop_of ?_)) | fail "k1")
     unfold Stop
     k_dflt (refine' max0 rfl F8 N8 (fun h6 tk6 t9 F9 N9 => ?_))
     injections h6 tk6 t9 F9 N9
     (repeat' first | (fail "g3"; (refine stop_of ?_)) | ((with_reducible show wpAny _ _ (subscriptTail _ (PySem.Expr.Slice (some (PySem.Expr.Call _ _ _ _)) none none _) (Value.ref _) (Value.ref _)) _ _ _); k_dflt (refine' kms_slice_lit ?F ?N ?l ?p ?q (pick_from _ _) ?_ ?s ?t ?z; (case F | N => k_asm); (case l => is_list); (case p | q => kmk_part); (case s => with_unfolding_all rfl); (case t => kmk_pure); (case z => ((simp only [List.size_toArray, PySem.sizeLine_eq]; omega))); intro D' h' F' N' l1); (try k_lt l1)) | fail "k1")
     unfold Stop
     rename Fr _ _ _ _ => F10
     k_dflt (refine' LCg.ListComp_U F10 ?b1 ?b2 ?b3 ?b4 ?b5 ?hc2; (case b1 => with_unfolding_all rfl); (case b2 => decide); (case b3 => rfl); (case b4 => decide); (case b5 => rfl))
     case hc2 =>
     (repeat' first | ((with_reducible show LCg.CompSrc ..); (refine stop_of ?_)) | ((with_reducible show wpAny _ _ (subscriptTail _ (PySem.Expr.Slice none none (some _) _) (Value.ref _) (Value.ref _)) _ _ _); k_dflt (refine' krv_lit ?F ?N ?l ?p rfl ?_ ?s ?t ?z; (case F | N => k_asm); (case l => is_list); (case p => kmk_part); (case s => with_unfolding_all rfl); (case t => kmk_pure); (case z => ((simp only [List.size_toArray, List.length_drop, PySem.sizeLine_eq]; omega))); intro D' h' F' N' l1); (try k_lt l1)) | fail "k1")
     unfold Stop
     rename News _ _ _ _ => N11
     have hcl := (ints_drop_n hpv (after.length - 1)).reverse
     have hcl6 : ((path.drop (after.length - 1)).reverse).length ≤ 6 := by rw [List.length_reverse, List.length_drop]; omega
     have hcr : ∀ k ∈ (path.drop (after.length - 1)).reverse, 0 ≤ k ∧ k < 6 := fun k hk => (hPs.each _ hpm).2.2.2 k (List.mem_of_mem_drop (List.mem_reverse.mp hk))
     k_dflt (refine' comp_map (fun i zs => StrsAre zs (((path.drop (after.length - 1)).reverse.take i).map closeD)) rfl ?e1 N11 (.head _) ?e3 .nil ?e4 ?e5; (case e1 => k_asm); (case e3 => (have := hcl.length; show List.length (List.reverse (List.drop _ pv)) ≤ 100000; omega)))
     case e4 =>
      intro i2 ys2 v2 I2 oI2 C2 oC2 D2 m3 h3 tk3 E3 hv2 hR2 hoC2 hm3 F12 N12 off3 ne3
      have pz24 := ints_at hcl hv2
      obtain ⟨q, tq, pz25⟩ := pz24
      rcases pz25 with ⟨rfl, pz26⟩
      have hq := pz26
      clear pz26
      have hqb := hcr q (List.mem_of_getElem? hq)
      have hql := let_len hqb
      fail "g20"
      unfold Stop
      refine MapEnd.intro (by k_asm) (news_sub (by k_asm) (fun q hq => by repeat (first | exact hq | refine List.mem_cons_of_mem _ ?_))) ?_
      rw [take_map_snoc _ _ _ _ hq]
      exact strs_snoc hR2 _ _
     case e5 =>
      intro g ys2 hR2
      rw [List.take_of_length_le (by have := hcl.length; show _ ≤ List.length (List.reverse (List.drop _ pv)); omega)] at hR2
      generalize hjd : (path.drop (after.length - 1)).reverse.map closeD = jd at hR2
      have hjl : (Txt.join (Str.ofString "") jd).length ≤ 100 := by
       rw [← hjd, close_join _ hcr]
       omega
      have hjs : (jd.map (·.length)).sum + jd.length * 0 ≤ 16777216 := by
       rw [← hjd, close_sum _ hcr]
       omega
      unfold LCg.FinE
      intro D3 h5 tk5 F13 N13 o13
      (repeat' first | ((with_reducible show wpAny _ _ (call (Value.builtin "str.join") _) _ _ _); (refine stop_of ?_)) | fail "k1")
      unfold Stop
      refine join_list (items := ys2.toArray) (ys := jd) ⟨_, (N13 _ (.head _)).1, rfl, _, rfl⟩ hR2 hjs (fun t' k' => ?_)
      injections t' k'
      have N14 := news_sub N13 (fun q hq => .tail _ (.tail _ (.tail _ hq)))
      clear N13
      (repeat' first | ((with_reducible show TurnZ ..); (refine stop_of ?_)) | fail "k1")
      unfold Stop
      rename Fr _ _ _ _ => F15
      rename News _ _ _ _ => N15
      subst hrest
      refine TurnZ.intro F15 (news_sub N15 (fun q hq => .tail _ (.tail _ (.tail _ hq)))) (fun q hq => ?_) ⟨fun y h1 h2 h3 h4 h5 => by simp only [if_neg h1, if_neg h2, if_neg h3, if_neg h4, if_neg h5, eL], _, _, rfl, ?_⟩
      injections q hq
      ·rcases List.mem_cons.mp hq with rfl | hq
       ·exact off (du, listOf ds dn) (.head _)
       ·exact off q (.tail _ hq)
      ·have hdi : (dueF ns Ps)[i]? = some (wb ++ Txt.join (Str.ofString "") jd) := by
        unfold dueF
        have hzp : ((orderP Ps).zip ((orderP Ps).drop 1 ++ [[]]))[i]? = some (path, after) := List.getElem?_zip_eq_some.mpr ⟨hop, hoa⟩
        rw [List.getElem?_map, hzp, ← hwb, ← hjd]
        rfl
       rw [List.take_add_one, hdi, Array.toList_push]
       exact strs_snoc hds _ _
    )
    case wb => ((conv => delta mark24 mark16 mark8 mark6 mark4 mark3 mark2 mark1 _root_.id); (refine lbd (fun hx => ?_)); exact hx ())
    injections hx
    case wc => ((try (conv => zeta)); exact lbox _)
    case wk => exact fun m _ _ _ _ => m
  · intro m₁ nw h tk pz27
    obtain ⟨hmo, ds, dn, pz28⟩ := pz27
    rcases pz28 with ⟨rfl, pz29⟩
    have hds := pz29
    clear pz29
    intro F5 N5
    have hdm : m₁ (Str.ofString "due") = some (.ref du) := by
     rw [hmo _ (by decide) (by decide) (by decide) (by decide) (by decide), eL]
     rfl
    have em2 : m₁ = fun y => if y = Str.ofString "due" then some (.ref du) else m₁ y := by
     funext y
     by_cases h1 : y = Str.ofString "due"
     ·rw [if_pos h1, h1]; exact hdm
     ·rw [if_neg h1]
    rw [em2] at F5
    dsimp only
    k_steps
    rename News _ _ _ _ => N15
    rw [List.take_of_length_le (by
     unfold dueF
     rw [List.length_map, List.length_zip, ho6, List.length_append, List.length_drop, ho6, List.size_toArray, List.size_toArray, List.length_append, List.length_drop, hol]
     exact Nat.le_refl _)] at hds
    subst hbas
    exact hret du ds dn _ _ (by k_asm) (news_sub N15 (List.forall_mem_cons.mpr ⟨.head _, fun q hq => by repeat (first | exact hq | refine List.mem_cons_of_mem _ ?_)⟩)) hds hnd
 fail "mk.b"
end
section
theorem wEs_of (P : Params) (t0 t1 t2 t3 t4 t5 t6 t7 t8 t9 t10 t11 t12 t13 t14 t15 t16 ig : Tok) (aW aD aDecl aNs aMap aPres : Addr) :
 ([⟨PySem.PyData.keyHash P (Str.ofString "_write"), .str (Str.ofString "_write") t0, .ref aW⟩, ⟨PySem.PyData.keyHash P (Str.ofString "_data"), .str (Str.ofString "_data") t1, .ref aD⟩,
  ⟨PySem.PyData.keyHash P (Str.ofString "_with_comments"), .str (Str.ofString "_with_comments") t2, .bool false⟩, ⟨PySem.PyData.keyHash P (Str.ofString "_strip_text"), .str (Str.ofString "_strip_text") t3, .bool false⟩,
  ⟨PySem.PyData.keyHash P (Str.ofString "_exclude_attrs"), .str (Str.ofString "_exclude_attrs") t4, .none⟩, ⟨PySem.PyData.keyHash P (Str.ofString "_exclude_tags"), .str (Str.ofString "_exclude_tags") t5, .none⟩,
  ⟨PySem.PyData.keyHash P (Str.ofString "_rewrite_prefixes"), .str (Str.ofString "_rewrite_prefixes") t6, .bool false⟩, ⟨PySem.PyData.keyHash P (Str.ofString "_qname_aware_tags"), .str (Str.ofString "_qname_aware_tags") t7, .none⟩,
  ⟨PySem.PyData.keyHash P (Str.ofString "_find_qname_aware_attrs"), .str (Str.ofString "_find_qname_aware_attrs") t8, .none⟩, ⟨PySem.PyData.keyHash P (Str.ofString "_declared_ns_stack"), .str (Str.ofString "_declared_ns_stack") t9, .ref aDecl⟩,
  ⟨PySem.PyData.keyHash P (Str.ofString "_ns_stack"), .str (Str.ofString "_ns_stack") t10, .ref aNs⟩, ⟨PySem.PyData.keyHash P (Str.ofString "_prefix_map"), .str (Str.ofString "_prefix_map") t11, .ref aMap⟩,
  ⟨PySem.PyData.keyHash P (Str.ofString "_preserve_space"), .str (Str.ofString "_preserve_space") t12, .ref aPres⟩, ⟨PySem.PyData.keyHash P (Str.ofString "_pending_start"), .str (Str.ofString "_pending_start") t13, .none⟩,
  ⟨PySem.PyData.keyHash P (Str.ofString "_root_seen"), .str (Str.ofString "_root_seen") t14, .bool false⟩, ⟨PySem.PyData.keyHash P (Str.ofString "_root_done"), .str (Str.ofString "_root_done") t15, .bool false⟩,
  ⟨PySem.PyData.keyHash P (Str.ofString "_ignored_depth"), .str (Str.ofString "_ignored_depth") t16, .int 0 ig⟩] : List DictEntry) =
 wEs P (fun i => [t0, t1, t2, t3, t4, t5, t6, t7, t8, t9, t10, t11, t12, t13, t14, t15, t16].getD i 0) aW aD aDecl aNs aMap aPres false false ig := rfl
theorem init_fin {P : Params} {h₀ h : Heap} {L : Addr} {aPres aMap l1 D V aNs aDecl e0 tup aD W WD aW aP PT : Addr} {oMap oV : Obj} {acc : Array Value} {c k2 n pn : Nat} {t1 t2 ig : Tok} {tk : Nat → Tok} {rest keep : List (Addr × Obj)} {ES : List DictEntry}
   (N : News h₀ L h ((aPres, listOf #[.bool false] 0) :: (aMap, oMap) :: (l1, listOf #[] 0) :: (D, listOf acc c) :: (V, oV) :: (aNs, listOf ((#[].push (.ref D)).push (.ref l1)) k2) :: (aDecl, listOf #[.ref e0] 0) :: (e0, listOf #[.ref tup] 0) :: (tup, tupO #[.str xmlS t1, .str (Str.ofString "xml") t2]) :: (aD, listOf #[] 0) :: (W, instObj 150 WD) :: (WD, dictOf ES n) :: (aW, boundO "list.append" (.ref aP)) :: (aP, listOf #[] pn) :: (PT, tabObj #[]) :: rest))
   (hES : ES = wEs P tk aW aD aDecl aNs aMap aPres false false ig)
   (hord : @LT.lt Nat _ PT aP ∧ @LT.lt Nat _ aP aW ∧ @LT.lt Nat _ aW WD ∧ @LT.lt Nat _ WD W ∧ @LT.lt Nat _ W aD ∧ @LT.lt Nat _ aD tup ∧ @LT.lt Nat _ tup e0 ∧ @LT.lt Nat _ e0 aDecl ∧ @LT.lt Nat _ aDecl aNs ∧ @LT.lt Nat _ aNs aPres)
   (hap : Apart [PT, aP] rest) (hlt : ∀ q ∈ rest, @LT.lt Nat _ q.1 WD) (hkeep : ∀ q ∈ keep, q ∈ rest) :
   WA.IncW ⟨PT, W, WD, aW, aD, aP, aDecl, aNs, aMap, aPres, e0, tup, tk, ig, t1, t2, 0⟩ ∧
   WSt P ⟨PT, W, WD, aW, aD, aP, aDecl, aNs, aMap, aPres, e0, tup, tk, ig, t1, t2, 0⟩ ((aPres, listOf #[.bool false] 0) :: (aMap, oMap) :: (l1, listOf #[] 0) :: (D, listOf acc c) :: (V, oV) :: (aNs, listOf ((#[].push (.ref D)).push (.ref l1)) k2) :: (aDecl, listOf #[.ref e0] 0) :: (e0, listOf #[.ref tup] 0) :: (tup, tupO #[.str xmlS t1, .str (Str.ofString "xml") t2]) :: (aD, listOf #[] 0) :: (W, instObj 150 WD) :: (WD, dictOf ES n) :: (aW, boundO "list.append" (.ref aP)) :: (aP, listOf #[] pn) :: (PT, tabObj #[]) :: rest) keep [] [] [] ((#[].push (.ref D)).push (.ref l1)) #[] false := by
 fail "mk.a"
 case zl =>
  revert N hES hord hap hlt hkeep
  revert P h₀ h L aPres aMap l1 D V aNs aDecl e0 tup aD W WD aW aP PT oMap oV acc c k2 n pn t1 t2 ig tk rest keep ES
  intro P h₀ h L aPres aMap l1 D V aNs aDecl e0 tup aD W WD aW aP PT oMap oV acc c k2 n pn t1 t2 ig tk rest keep ES N hES hord hap hlt hkeep
  obtain ⟨o0, o1, o2, o3, o4, o5, o6, o7, o8, o9⟩ := hord
  simp only [Apart, and_true] at hap
  obtain ⟨p0, p1⟩ := hap
  have hc : ∀ X : Nat, @Ne Nat X e0 → @Ne Nat X tup → (∀ q ∈ rest, q.1 ≠ X) → ∀ q ∈ (e0, listOf #[Value.ref tup] 0) :: (tup, tupO #[.str xmlS t1, .str (Str.ofString "xml") t2]) :: rest, q.1 ≠ X := fun X h1 h2 h3 q hq => by
    rcases List.mem_cons.mp hq with rfl | hq
    ·exact Ne.symm h1
    rcases List.mem_cons.mp hq with rfl | hq
    ·exact Ne.symm h2
    ·exact h3 q hq
  have hn : ∀ X : Nat, @LE.le Nat _ WD X → ∀ q ∈ rest, q.1 ≠ X := fun X h q hq => Nat.ne_of_lt (Nat.lt_of_lt_of_le (hlt q hq) h)
  refine ⟨?_, false, n, 0, pn, 0, k2, 0, #[], #[], #[], (e0, listOf #[.ref tup] 0) :: (tup, tupO #[.str xmlS t1, .str (Str.ofString "xml") t2]) :: rest, ?_, .nil, .nil, .inl rfl, ⟨hc PT (by omega) (by omega) p0, hc aP (by omega) (by omega) p1, hc WD (by omega) (by omega) (hn WD (Nat.le_refl _)), hc aDecl (by omega) (by omega) (hn aDecl (by omega)), hc aNs (by omega) (by omega) (hn aNs (by omega)), hc aPres (by omega) (by omega) (hn aPres (by omega)), hc aD (by omega) (by omega) (hn aD (by omega)), trivial⟩, .head _, .tail _ (.head _), fun e he => by simp at he, fun q hq => .tail _ (.tail _ (hkeep q hq))⟩
  · unfold WA.IncW
    dsimp only
    simp only [Inc, and_true]
    omega
  · subst hES
    fail "my.subs"
 fail "mk.b"
end
section
theorem init_spec (hfill : PR = PR) (B : Below A₀ base outer h₀) (F : Fr h₀ L s.heap m) (X : (K0.heap_1 w.params).In h₀) (T : Top p loose mean mg mb h₀) (hk : cs.kind = .function) (hd : dp + 12 < recursionLimit) (hu : un + 200 < cLine)
   (PT aW aP : Addr) (pn : Nat) (rest keep : List (Addr × Obj)) (N : News h₀ L s.heap ((aW, boundO "list.append" (.ref aP)) :: (aP, listOf #[] pn) :: (PT, tabObj #[]) :: rest))
   (hap : Apart [PT, aP] rest) (hord : @LT.lt Nat _ PT aP ∧ @LT.lt Nat _ aP aW) (hkeep : ∀ q ∈ keep, q ∈ rest)
   (hret : ∀ (x : WA) h' tk' news' nss, x.PT = PT → x.aP = aP → x.IncW → nss.size ≤ 10 → Fr h₀ L h' m → News h₀ L h' news' → WSt w.params x news' keep [] [] [] nss #[] false → Q (.ref x.W) { s with heap := h', toks := tk' }) :
   wpAny (model Challenge.rw_to0089_01.prog w) (ktrTop dp un gd cn cs L a ccd cl outer) (call (.ref 150) [.ref aW]) Q E s := by
 fail "mk.a"
 case zl =>
  revert hfill B F X T hk hd hu N hap hord hkeep hret
  revert w p loose mean mg mb dp un gd cn cs a ccd cl outer A₀ base h₀ L m s Q E PT aW aP pn rest keep
  intro w p loose mean mg mb dp un gd cn cs a ccd cl outer A₀ base h₀ L m s Q E PT aW aP pn rest keep hfill B F X T hk hd hu N hap hord hkeep hret
  revert X; k_fill; intro X
  k_dflt (refine' call_cls ?k1 ?k2 ?k3 ?k4 ?k5 ?k6 ?_; (case k1 | k2 | k3 => k_asm); (case k4 | k5 | k6 => k_is))
  intro x d h1 F1 N1 l1 l2
  have l0 := l1
  k_lt l1
  k_lt2 l2
  have hlt : ∀ q ∈ rest, @LT.lt Nat _ q.1 d := fun q hq => allLt_mem l1.2.2.2 q hq
  (try dsimp only)
  k_dflt (fail "my.enter")
  (repeat' first | ((with_reducible show wpAny _ _ (eval (.Dict [] [] _) _) _ _ _); k_dflt (refine' newDict0 ?k1 ?k2 ?_; (case k1 | k2 => k_asm); intro d' h' F' N' l1); (try k_lt l1)) | ((with_reducible show wpAny _ _ (call (Value.type "list") _) _ _ _); k_dflt (refine' ns_list ?hh ?hF ?hN ?hX ?hr ?_; (case hh => rfl); (case hF | hN | hX => k_asm); (case hr => k_mem); intro D' h' tk' acc' c' hz' F' N' l1); (try k_lt l1)) | ((with_reducible show wpAny _ _ (call (Value.builtin "dict.items") _) _ _ _); k_dflt (refine' ns_items ?hF ?hN ?hX ?_; (case hF | hN | hX => k_asm); intro D' h' F' N' l1); (try k_lt l1)) | ((with_reducible show wpAny _ _ (getMethod (Value.ref 44) _ _) _ _ _); k_dflt (refine' ns_method ?hF ?hX ?_; (case hF | hX => k_asm))) | fail "k1")
  rename News h₀ L _ _ => N9
  have hf := init_fin (keep := keep) N9 (wEs_of _ _ _ _ _ _ _ _ _ _ _ _ _ _ _ _ _ _ _ _ _ _ _ _ _) ⟨by omega, by omega, by omega, by omega, by omega, by omega, by omega, by omega, by omega, by omega⟩ hap hlt hkeep
  exact hret _ _ _ _ _ rfl rfl hf.1 (Nat.le_of_ble_eq_true rfl) (by k_asm) N9 hf.2
 fail "mk.b"
end
section
noncomputable def vw : Program := view PR [0, 1, 3, 4, 5, 6, 7, 8, 9, 11, 13, 15, 16, 18, 20, 21, 22, 23, 24, 25, 26, 27, 28, 29, 30, 31, 32]
noncomputable def lo : List Str := ["_twin_re_1", "_namespace_map", "_looks_like_prefix_name", "C14NWriterTarget", "b1_set", "b3_exceptions"].map Str.ofString
def LawYP (b1L : List Int) (D : List (PySem.PyData × PySem.PyData)) (w : World) (h : Heap) : Prop :=
 (K0.heap_1 w.params).In h ∧ (∀ P ∈ ([283, 123] : List Addr), h.get? P = some (tabObj #[])) ∧ (∃ oS : Obj, h.get? 225 = some oS ∧ oS.SetObjOf (intKind PR w) (fun k => decide (k ∈ b1L)) 27) ∧ IntTab PR w h 236 D
noncomputable abbrev toldS (ns : List Int) : Str := Txt.join (Str.ofString "") (toldP ns (pathsTo ns 5) 6 [0])
noncomputable abbrev pageS (D : List (PySem.PyData × PySem.PyData)) (b1L : List Int) (ns : List Int) : Str := Txt.join (Str.ofString "") (prepS D b1L (toldS ns).cps.toList)
noncomputable def minL : List Int → Int
 | [] => 0
 | [x] => x
 | x :: r => min x (minL r)
noncomputable def commonF (bI : List Nat) (soon late : Nat) : Int := min ((bI.getD soon 0 : Nat) : Int) (minL ((List.drop (soon + 1) (List.map (fun k : Nat => (k : Int)) bI)).take (late - soon)) - 1)
noncomputable def apartF (bI : List Nat) (soon late : Nat) : Int := apI bI (commonF bI soon late) soon + apI bI (commonF bI soon late) late
noncomputable def factF (cs ds : List Int) (soon late : Nat) : List Int := [1, cs.getD soon 0 * cs.getD late 0, ds.getD soon 0 * ds.getD late 0, ds.getD soon 0 + ds.getD late 0]
noncomputable def stepF (bI : List Nat) (cs ds : List Int) (late : Nat) (acc : List Int) (soon : Nat) : List Int := (acc.zip (factF cs ds soon late)).map fun tf => tf.1 + apartF bI soon late * tf.2
noncomputable def innerF (bI : List Nat) (cs ds : List Int) (late : Nat) (acc : List Int) : Nat → List Int
 | 0 => acc
 | j + 1 => stepF bI cs ds late (innerF bI cs ds late acc j) j
noncomputable def outerF (bI : List Nat) (cs ds : List Int) : Nat → List Int
 | 0 => [0, 0, 0, 0]
 | i + 1 => innerF bI cs ds (i + 1) (outerF bI cs ds i) (i + 1)
noncomputable def countsF (ws : List Str) : List Int := ws.map fun w => (Txt.count w (Str.ofString "&") : Int)
structure RowsOk (rz : List Str) (bI : List Nat) : Prop where
 rl : rz.length = 6
 bl : bI.length = 6
 each : ∀ (i : Nat) (r : Str) (k : Nat), rz[i]? = some r → bI[i]? = some k → RowOk r k ∧ k ≤ 9
 pos : ∀ (i k : Nat), 1 ≤ i → bI[i]? = some k → 1 ≤ k
structure LawFacts (D : List (PySem.PyData × PySem.PyData)) (b1L : List Int) (ns : List Int) : Prop where
 tlen : (toldP ns (pathsTo ns 5) 6 [0]).length ≤ 780
 tsum : ((toldP ns (pathsTo ns 5) 6 [0]).map (·.length)).sum ≤ 2000
 tsz : (toldS ns).cps.size ≤ 2000
 b3len : ∀ c ∈ (toldS ns).cps.toList, (b3S D c).length ≤ 20
 plen : (pageS D b1L ns).length ≤ 3000
 pnq : ∀ c ∈ (pageS D b1L ns).cps.toList, c ≠ 34 ∧ c ≠ 92
 words : wordsF ((pageS D b1L ns).length + 1) (pageS D b1L ns).cps.toList 1 = ((dueF ns (pathsTo ns 5)).map (·.cps.toList), 6)
 dok : ∀ z ∈ dueF ns (pathsTo ns 5), PyData.strOk z = true
 dlen : ∀ z ∈ dueF ns (pathsTo ns 5), z.length ≤ 1000
 cok : ∀ c ∈ countsF (dueF ns (pathsTo ns 5)), 0 ≤ c ∧ c ≤ 1000
 gok : ∀ c ∈ (degF 6 (dueF ns (pathsTo ns 5))).1, 0 ≤ c ∧ c ≤ 1000
 glen : (degF 6 (dueF ns (pathsTo ns 5))).1.length = 6
 rows : ∃ bI : List Nat, RowsOk (Txt.split (pageS D b1L ns) (Str.ofString "\n")) bI ∧
  outerF bI (countsF (dueF ns (pathsTo ns 5))) (degF 6 (dueF ns (pathsTo ns 5))).1 5 =
   [tiesF (pathsTo ns 5) [1, 1, 1, 1, 1, 1], tiesF (pathsTo ns 5) (ns.map fun n => ((textS n).length : Int)), 4 * tiesF (pathsTo ns 5) [1, 1, 1, 1, 1, 1] - 55, 4 * tiesF (pathsTo ns 5) [1, 1, 1, 1, 1, 1] - 30]
theorem fmod6 (k : Int) : 0 ≤ k.fmod 1000000 ∧ k.fmod 1000000 < 1000000 := fm k (by decide)
theorem numsOf_ok (is : List Int) : NsOk (numsOf is) := by
 unfold numsOf
 refine ⟨?_, fun n hn => ?_⟩
 ·rw [List.length_append, List.length_map, List.length_take, List.length_drop]
  have : dfltN.length = 6 := rfl
  omega
 ·rcases List.mem_append.mp hn with h | h
  ·rcases List.mem_map.mp h with ⟨k, _, rfl⟩
   exact fmod6 k
  ·have h2 := List.mem_of_mem_drop h
   have : ∀ x ∈ dfltN, 0 ≤ x ∧ x < 1000000 := by decide
   exact this n h2
def LawBack (tabs : List (Addr × Addr)) (s₁ : Shared) (r : Result) (s' : Shared) : Prop :=
 r = .ok (.ret (.bool true)) ∧ (∀ b o, (ghostOf s₁.heap tabs).get? b = some o → s'.heap.get? b = some o) ∧ s'.os = s₁.os ∧ AllBare s'.gens ∧ GrownAll tabs s'.heap
theorem law_post {M : Model} {A : Around} {cd : Code} {s s₁ : Shared} {cw : ClaimW} {cl : Str → Option Addr} {mean : ExcName → Option Value} {args : List WData} {tabs : List (Addr × Addr)} (hT : TabsAt tabs s₁.heap) (hp : cw.post args (.bool true) args = true) (hr : ∀ x, cw.raises args x = false)
  (h : codeAny M A cd (LawBack tabs s₁) s) : codeAny M A cd (GoodWG cw cl mean args s₁) s := by
 refine codeAny_mono h fun r s' hb => ?_
 rcases hb with ⟨e, hk, hos, hg, hgr⟩
 have inT : ∀ b o, b ∈ tabs.map (·.2) → s₁.heap.get? b = some o → ∃ q ∈ tabs, q.2 = b ∧ o = tabObj #[] := fun b o hb hbo => by
  rcases List.mem_map.mp hb with ⟨q, hq, hqb⟩
  have h2 := (hT q hq).2
  rw [hqb, hbo] at h2
  exact ⟨q, hq, hqb, Option.some.inj h2⟩
 refine ⟨.inl ⟨.bool true, .bool true, [], e, hr, .bool true, hp, fun _ => ⟨List.nodup_nil, fun a ha => nomatch ha⟩⟩, ⟨fun b o hbo => ?_, fun b o hbo => ?_⟩, hos, hg⟩
 ·by_cases hb : b ∈ tabs.map (·.2)
  ·rcases inT b o hb hbo with ⟨q, hq, rfl, rfl⟩
   rcases hgr.get q hq with ⟨ps, hps⟩
   refine .inr (.inl ⟨((hT q hq).1.tab (hT q hq).2).isCodeTable, rfl, #[], ps, rfl, ?_⟩)
   rw [Array.empty_append]
   exact hps
  ·exact .inl (hk b o (ghost_ne hbo hb))
 ·by_cases hb : b ∈ tabs.map (·.2)
  ·rcases inT b o hb hbo with ⟨q, hq, rfl, rfl⟩
   rcases hgr.get q hq with ⟨ps, hps⟩
   exact ⟨_, hps⟩
  ·exact ⟨o, hk b o (ghost_ne hbo hb)⟩
theorem law_said (d : WData) : Challenge.rw_to0089_01.row.claim.post [d] (.bool true) [d] = true := by
 refine postW_of (r := Challenge.rw_to0089_01.row.toRowW) (X := true) (by wrow_shape) ?_ rfl
 first
 | rfl
 | wtm_val
end
section
inductive ForRN (w : World) (A : Around) (h₀ : Heap) (env : Env) (x : Str) (body : List Stmt) (Q : Flow → Shared → Prop) (E : Value → Shared → Prop) (xv : Value) (s₁ : Shared) : Prop
 | mk (r : Addr) (a b : Int) (t u v : Tok) (n : Nat) (m₀ : Str → Option Value) (news : List (Addr × Obj)) (J : Nat → (Str → Option Value) → List (Addr × Obj) → Prop) (h : xv = .ref r ∧ Fr h₀ env.locals s₁.heap m₀ ∧ News h₀ env.locals s₁.heap news ∧ IsRange s₁.heap r a b 1 t u v ∧ Builtin.Range.small a b 1 = true ∧ Builtin.Range.rangeSize a b 1 = (n : Int) ∧ J 0 m₀ news ∧
  (∀ I oI i t m₁ news₁ h tk, i < n → (∀ q ∈ news, @LT.lt Nat _ q.1 I) → (∀ q ∈ news₁, q.1 ∉ [I]) → J i m₁ news₁ → Fr h₀ env.locals h (fun y => if y = x then some (.int (a + (i : Nat)) t) else m₁ y) → News h₀ env.locals h (news₁ ++ [(I, oI)]) →
   wpAny (model Challenge.rw_to0089_01.prog w) A (execs body env) (TurnZ h₀ env.locals J [I] [(I, oI)] i s₁) E { s₁ with heap := h, toks := tk }) ∧
  (∀ m₁ news₁ h tk, J n m₁ news₁ → Fr h₀ env.locals h m₁ → News h₀ env.locals h news₁ → Q .next { s₁ with heap := h, toks := tk })) : ForRN w A h₀ env x body Q E xv s₁
theorem for_rangeN {w : World} {A : Around} {E : Value → Shared → Prop} {s : Shared} {h₀ : Heap} {env : Env} {x : Str} {px : Pos} {iter : PySem.Expr} {body : List Stmt} {pos : Pos} {Q : Flow → Shared → Prop} {mF : Str → Option Value} (_F₀ : Fr h₀ env.locals s.heap mF) (hA : A.handled = none) (hx : env.kindOf x = some .local) (hp : (env.scope.kind == .class || (env.scope.kind == .module && env.locals != env.globals)) = false)
  (h : wpAny (model Challenge.rw_to0089_01.prog w) A (eval iter env) (ForRN w A h₀ env x body Q E) E s)
  (hs : ∀ x, foldedSetIterable iter env x = pure x := by intros _; rfl)
  (hE : PassesOwn (model Challenge.rw_to0089_01.prog w) A env E := by passes_own) :
  wpAny (model Challenge.rw_to0089_01.prog w) A (exec (.For (.Name x px) iter body [] pos) env) Q E s := by
 refine wpAny_For (wpAny_mono h (fun xv s₁ h₁ => ?_) fun _ _ e => e) hs
 rcases h₁ with ⟨r, a, b, t, u, v, n, m₀, news, J, rfl, F, N, hr, hsm, hn, hJ0, turn, done⟩
 refine wpAny_pyIter_range hr hsm ?_
 have h₀n : h₀.get? s₁.heap.objs.size = none := by
  cases e : h₀.get? s₁.heap.objs.size with
  | none => rfl
  | some o => exact absurd (Heap.lt_size (F.keep _ o e)) (Nat.lt_irrefl _)
 refine for_walkN (s₂ := { s₁ with heap := s₁.heap.push _ }) (Walks.range hA s₁.heap.objs.size a 1 n) (fun i h st => ⟨_, st⟩) J hx hp (Nat.ne_of_lt F.ns.lt) h₀n (by show IsRangeIter _ _ _ _ _; rw [hn]; simpa using Heap.get?_push_size _ rfl) (F.push _) (News.pushKeep N _) (fun q hq => by simpa using Nat.ne_of_lt (Heap.lt_size (N q hq).1)) hJ0 ?_ (fun m₁ news₁ h tk hJ F N => done m₁ news₁ h tk hJ F N) hE
 intros oI i v m₁ news₁ h tk hi hP off hJ F1 N1
 rcases hP with ⟨t, rfl⟩
 have e : a + (i : Int) * 1 = a + (i : Nat) := by omega
 rw [e] at F1
 exact turn _ oI i t m₁ news₁ h tk hi (fun q hq => Heap.lt_size (N q hq).1) off hJ F1 N1
theorem ForRN.intro {w : World} {A : Around} {h₀ : Heap} {env : Env} {x : Str} {body : List Stmt} {Q : Flow → Shared → Prop} {E : Value → Shared → Prop} {s₁ : Shared} {r : Addr} {a b : Int} {t u v : Tok} {m₀ : Str → Option Value} {news : List (Addr × Obj)} (n : Nat) (J : Nat → (Str → Option Value) → List (Addr × Obj) → Prop)
 (F : Fr h₀ env.locals s₁.heap m₀) (N : News h₀ env.locals s₁.heap news) (hr : IsRange s₁.heap r a b 1 t u v) (hsm : Builtin.Range.small a b 1 = true) (hn : Builtin.Range.rangeSize a b 1 = (n : Int)) (hJ : J 0 m₀ news)
 (turn : ∀ I oI i t m₁ news₁ h tk, i < n → (∀ q ∈ news, @LT.lt Nat _ q.1 I) → (∀ q ∈ news₁, q.1 ∉ [I]) → J i m₁ news₁ → Fr h₀ env.locals h (fun y => if y = x then some (.int (a + (i : Nat)) t) else m₁ y) → News h₀ env.locals h (news₁ ++ [(I, oI)]) →
  wpAny (model Challenge.rw_to0089_01.prog w) A (execs body env) (TurnZ h₀ env.locals J [I] [(I, oI)] i s₁) E { s₁ with heap := h, toks := tk })
 (done : ∀ m₁ news₁ h tk, J n m₁ news₁ → Fr h₀ env.locals h m₁ → News h₀ env.locals h news₁ → Q .next { s₁ with heap := h, toks := tk }) :
 ForRN w A h₀ env x body Q E (.ref r) s₁ := ⟨r, a, b, t, u, v, n, m₀, news, J, rfl, F, N, hr, hsm, hn, hJ, turn, done⟩
end
section
theorem news_apart {h₀ h : Heap} {L : Addr} {l : List (Addr × Obj)} {a b : Addr} {o o' : Obj} (N : News h₀ L h l) (h1 : (a, o) ∈ l) (h2 : (b, o') ∈ l) (hne : o.cls ≠ o'.cls) : a ≠ b := by
 rintro rfl
 have e1 : h.get? a = some o := (N _ h1).1
 have e2 : h.get? a = some o' := (N _ h2).1
 rw [e1] at e2
 exact hne (congrArg Obj.cls (Option.some.inj e2))
theorem ghost_tab {w : World} {h : Heap} {tabs : List (Addr × Addr)} {d : Addr} {D : List (PySem.PyData × PySem.PyData)} (T : IntTab PR w h d D) (hn : d ∉ tabs.map (·.2)) : IntTab PR w (ghostOf h tabs) d D := by
 rcases T with ⟨lo, kvs, hd, hf⟩
 rcases Heap.dictOf_iff.mp hd with ⟨o, ho, hi⟩
 exact TabAt.ofObj lo (ghost_ne ho hn) hi hf
theorem news_ne_data {h₀ h : Heap} {L : Addr} {l : List (Addr × Obj)} {a b : Addr} {o o' : Obj} (N : News h₀ L h l) (h1 : (a, o) ∈ l) (h2 : (b, o') ∈ l) (hne : o.data ≠ o'.data) : a ≠ b := by
 rintro rfl
 have e1 : h.get? a = some o := (N _ h1).1
 have e2 : h.get? a = some o' := (N _ h2).1
 rw [e1] at e2
 exact hne (congrArg Obj.data (Option.some.inj e2))
theorem list_cell {a : Array Value} {n : Nat} {o : Obj} (h : ∃ v, o.data = Data.cell v) : (W.listOf a n).data ≠ o.data := by
 rcases h with ⟨v, e⟩
 rw [e]
 exact fun h => by cases h
theorem small5 : ∀ i : Fin 5, Builtin.Range.small 0 ((i.val + 1 : Nat) : Int) 1 = true ∧ Builtin.Range.rangeSize 0 ((i.val + 1 : Nat) : Int) 1 = ((i.val + 1 : Nat) : Int) := by decide
theorem loop_arr {h₀ h : Heap} {L : Addr} {a u d c b r x : Addr × Obj} {k : List (Addr × Obj)} (N : News h₀ L h (a :: u :: d :: c :: b :: r :: x :: k)) : News h₀ L h (a :: x :: d :: c :: b :: r :: k) := by
 refine news_sub N fun q hq => ?_
 simp only [List.mem_cons] at hq ⊢
 rcases hq with h | h | h | h | h | h | h <;> simp [h]
theorem minL_le {M : Int} : ∀ {y : Int} {r : List Int}, (∀ a ∈ y :: r, M ≤ a) → M ≤ minL (y :: r)
 | y, [], h => h y (List.mem_cons_self ..)
 | y, z :: r, h => by
  have h1 := h y (List.mem_cons_self ..)
  have h2 : M ≤ minL (z :: r) := minL_le fun a ha => h a (List.mem_cons_of_mem _ ha)
  exact Int.le_min.mpr ⟨h1, h2⟩
theorem minL_eq : ∀ {l : List Int} {M : Int}, M ∈ l → (∀ a ∈ l, M ≤ a) → minL l = M
 | [x], M, h, _ => by rw [List.mem_singleton.mp h]; rfl
 | x :: y :: r, M, h, hm => by
  show min x (minL (y :: r)) = M
  have hx := hm x (List.mem_cons_self ..)
  have hall : ∀ a ∈ y :: r, M ≤ a := fun a ha => hm a (List.mem_cons_of_mem _ ha)
  rcases List.mem_cons.mp h with rfl | h
  ·exact Int.min_eq_left (minL_le hall)
  ·rw [minL_eq h hall]
   exact Int.min_eq_right hx
theorem apart_eq {bI : List Nat} {soon late : Nat} {c M : Int} (h1 : M ∈ (List.drop (soon + 1) (List.map (fun k : Nat => (k : Int)) bI)).take (late - soon)) (h2 : ∀ a ∈ (List.drop (soon + 1) (List.map (fun k : Nat => (k : Int)) bI)).take (late - soon), M ≤ a)
  (h3 : c = (if M - 1 < (bI.getD soon 0 : Nat) then M - 1 else ((bI.getD soon 0 : Nat) : Int))) : apI bI c soon + apI bI c late = apartF bI soon late := by
 have e : c = commonF bI soon late := by
  unfold commonF
  rw [minL_eq h1 h2, h3]
  split
  ·exact (Int.min_eq_right (Int.le_of_lt (by assumption))).symm
  ·exact (Int.min_eq_left (Int.not_lt.mp (by assumption))).symm
 rw [e]
 rfl
theorem stepF_len {bI : List Nat} {cs ds : List Int} {late : Nat} {acc : List Int} {j : Nat} (h : acc.length = 4) : (stepF bI cs ds late acc j).length = 4 := by
 unfold stepF factF
 rw [List.length_map, List.length_zip, h]
 rfl
theorem innerF_len {bI : List Nat} {cs ds : List Int} {late : Nat} {acc : List Int} (h : acc.length = 4) : ∀ j, (innerF bI cs ds late acc j).length = 4
 | 0 => h
 | j + 1 => stepF_len (innerF_len h j)
theorem outerF_len {bI : List Nat} {cs ds : List Int} : ∀ i, (outerF bI cs ds i).length = 4
 | 0 => rfl
 | i + 1 => innerF_len (outerF_len i) _
theorem mul_box {a b : Int} (h1 : 0 ≤ a ∧ a ≤ 1000) (h2 : 0 ≤ b ∧ b ≤ 1000) : 0 ≤ a * b ∧ a * b ≤ 1000000 := by
 refine ⟨Int.mul_nonneg h1.1 h2.1, ?_⟩
 have := Int.mul_le_mul h1.2 h2.2 h2.1 (by decide)
 omega
theorem fact_box {cs ds : List Int} {j l : Nat} (c1 : 0 ≤ cs.getD j 0 ∧ cs.getD j 0 ≤ 1000) (c2 : 0 ≤ cs.getD l 0 ∧ cs.getD l 0 ≤ 1000) (d1 : 0 ≤ ds.getD j 0 ∧ ds.getD j 0 ≤ 1000) (d2 : 0 ≤ ds.getD l 0 ∧ ds.getD l 0 ≤ 1000) : ∀ f ∈ factF cs ds j l, 0 ≤ f ∧ f ≤ 1000000 := by
 intros f hf
 unfold factF at hf
 simp only [List.mem_cons, List.mem_nil_iff, or_false] at hf
 rcases hf with rfl | rfl | rfl | rfl
 ·omega
 ·exact mul_box c1 c2
 ·exact mul_box d1 d2
 ·omega
theorem step_at {bI : List Nat} {cs ds : List Int} {late j i : Nat} {acc : List Int} {a f : Int} (h1 : acc[i]? = some a) (h2 : (factF cs ds j late)[i]? = some f) : (stepF bI cs ds late acc j)[i]? = some (a + apartF bI j late * f) := by
 unfold stepF
 have h3 : (acc.zip (factF cs ds j late))[i]? = some (a, f) := List.getElem?_zip_eq_some.mpr ⟨h1, h2⟩
 rw [List.getElem?_map, h3]
 rfl
theorem third_obj {h₀ h : Heap} {L x : Addr} {a b : Addr × Obj} {o : Obj} {r : List (Addr × Obj)} {R : Prop} (_N : News h₀ L h (a :: b :: (x, o) :: r)) (k : ∀ o', o' = o → R) : R := k _ rfl
theorem loop_back {D f c s cl dg rl bl x x2 : Addr × Obj} {kq bas rst : List (Addr × Obj)} (hbas : bas = dg :: cl :: bl :: rl :: kq) (hrst : rst = kq ++ [x] ++ [x2]) : ∀ q ∈ (D :: c :: (bas ++ [x])) ++ [x2], q ∈ D :: f :: c :: s :: cl :: dg :: rl :: bl :: rst := by
 subst hbas hrst
 intros q hq
 rcases List.mem_append.mp hq with hq | hq
 ·rcases List.mem_cons.mp hq with rfl | hq
  ·exact .head _
  rcases List.mem_cons.mp hq with rfl | hq
  ·exact .tail _ (.tail _ (.head _))
  rcases List.mem_append.mp hq with hq | hq
  ·rcases List.mem_cons.mp hq with rfl | hq
   ·exact .tail _ (.tail _ (.tail _ (.tail _ (.tail _ (.head _)))))
   rcases List.mem_cons.mp hq with rfl | hq
   ·exact .tail _ (.tail _ (.tail _ (.tail _ (.head _))))
   rcases List.mem_cons.mp hq with rfl | hq
   ·exact .tail _ (.tail _ (.tail _ (.tail _ (.tail _ (.tail _ (.tail _ (.head _)))))))
   rcases List.mem_cons.mp hq with rfl | hq
   ·exact .tail _ (.tail _ (.tail _ (.tail _ (.tail _ (.tail _ (.head _))))))
   exact .tail _ (.tail _ (.tail _ (.tail _ (.tail _ (.tail _ (.tail _ (.tail _ (List.mem_append_left _ (List.mem_append_left _ hq)))))))))
  ·exact .tail _ (.tail _ (.tail _ (.tail _ (.tail _ (.tail _ (.tail _ (.tail _ (List.mem_append_left _ (List.mem_append_right _ hq)))))))))
 ·exact .tail _ (.tail _ (.tail _ (.tail _ (.tail _ (.tail _ (.tail _ (.tail _ (List.mem_append_right _ hq))))))))
noncomputable abbrev bareF (rz : List Str) (bI : List Nat) : List Str := (rz.zip bI).map fun p => Txt.slice p.1 (some (p.2 : Int)) (some ((p.1.length : Int) - 1 + 1))
theorem bare_at {rz : List Str} {bI : List Nat} {i : Nat} {r : Str} {k : Nat} (h1 : rz[i]? = some r) (h2 : bI[i]? = some k) : (bareF rz bI)[i]? = some (Txt.slice r (some (k : Int)) (some ((r.length : Int) - 1 + 1))) := by
 have h3 : (rz.zip bI)[i]? = some (r, k) := List.getElem?_zip_eq_some.mpr ⟨h1, h2⟩
 show ((rz.zip bI).map _)[i]? = _
 rw [List.getElem?_map, h3]
 rfl
theorem law_walk {b1L : List Int} {D : List (PySem.PyData × PySem.PyData)} (hDv : ∀ k v, PySem.Spec.lookup (.int k) D = some v → ∃ y, v = .str y) (facts : ∀ ns, NsOk ns → LawFacts D b1L ns) {d : DefRec} {kwd : List (Str × Expr)} (hdef : defOf vw Challenge.rw_to0089_01.row.name = some (d, kwd)) :
   WalkO vw lo (XL vw []) (LawYP b1L D) Challenge.rw_to0089_01.row.toRowW d kwd fun f vs => PySem.call f vs := by
 fail "mk.a"
 case zl =>
  revert hDv facts hdef
  revert b1L D d kwd
  intro b1L D d kwd hDv facts hdef
  have key : ∀ {d' : DefRec} {k' : List (Str × Expr)}, defOf vw Challenge.rw_to0089_01.row.name = some (d', k') → WalkO vw lo (XL vw []) (LawYP b1L D) Challenge.rw_to0089_01.row.toRowW d' k' (fun f vs => PySem.call f vs) → WalkO vw lo (XL vw []) (LawYP b1L D) Challenge.rw_to0089_01.row.toRowW d kwd (fun f vs => PySem.call f vs) := by
    intro d' k' h1 h2
    rw [hdef] at h1
    cases h1
    exact h2
  refine key (by rfl) ?_
  clear key hdef
  unfold LawYP
  k_fill
  intro w s₀ s₁ mg mb G Y fa o pm cd doc dV kV ho hd hcd hD hmg hg args vals as hpre hlay hrd hwl hlo
  obtain ⟨KX, hT8, pz2⟩ := Y
  rcases pz2 with ⟨pz4, pz3⟩
  obtain ⟨oS, h225, hoS⟩ := pz4
  have h236 := pz3
  clear pz3
  have X := (Ground.X G).1
  have V := (Ground.X G).2
  refine Ground.open G ?_
  intro T B D TE TW
  try (refine guard_noD D (by decide +kernel) ?_; clear D)
  have hT9 : TabsAt [(287, 283), (125, 123)] s₁.heap := List.forall_mem_cons.mpr ⟨⟨codeHd_of_K KX (by kernel_rfl), hT8 _ (by k_mem)⟩, List.forall_mem_cons.mpr ⟨⟨codeHd_of_K KX (by kernel_rfl), hT8 _ (by k_mem)⟩, fun _ h => nomatch h⟩⟩
  clear hmg
  wrow_args hpre hlay hrd hwl hlo
  all_goals (
    first | refine callC_kw (enter_call ?_) | refine enter_call ?_
    w_top on
    refine law_post hT9 (law_said _) (fun _ => rfl) ?_
    w_call any ho hd hcd hD T F
    clear hd
    kn_ghosts F T)
  k_drop
  try k_fold
  clear hD ho hcd X V B TE TW T
  rename IntsAre _ _ => hI
  have hcc : CodeHd (ghostOf s₁.heap [(287, 283), (125, 123)]) 125 123 ∧ CodeHd (ghostOf s₁.heap [(287, 283), (125, 123)]) 287 283 := ⟨by assumption, by assumption⟩
  rename CodeHd _ _ _ => hcdA
  clear hcdA
  rename CodeHd _ _ _ => hcdA
  clear hcdA
  rename Obj => oCell
  have hCell : ∃ v, oCell.data = Data.cell v := ⟨_, by assumption⟩
  rename_i q5 f1 f2 f3 f4 f5 q4 q3 q2 q1 q0 g1 g2 g3 g4 g5 g6 g7 qh qt k1 k2 k3 k4 k5 k6 k7 k8
  revert f1 f2 f3 f4 f5 g1 g2 g3 g4 hI g5 g6 g7 k1 k2 k3 k4 k5 k6 lifted k7 k8 hcc hCell
  revert q5 q4 q3 q2 q1 q0 qh qt oCell
  intro q5 q4 q3 q2 q1 q0 qh qt oCell
  intro f1 f2 f3 f4 f5 g1 g2 g3 g4 hI g5 g6 g7 k1 k2 k3 k4 k5 k6 lifted k7 k8 hcc hCell
  (repeat' first | (fail "g1"; refine stop_of ?_) | fail "k1")
  unfold Stop
  k_dflt (refine' numbers_spec rfl ?k1 ?k2 ?k3 ?k4 ?k5 ?k6 ?k7 _ _ _ _ ?hl hI (by omega) ?hN (fun nA h1 tk1 us kn F1 N1 hus => ?_); (case k1 | k2 | k3 | k4 | hN => k_asm); (case k5 => rfl); (case k6 => first | ktr_room | k_room); (case k7 => ktr_units); (case hl => k_asm))
  injections nA h1 tk1 us kn F1 N1 hus
  clear hI
  generalize hns : numsOf _ = ns at hus
  have hNs : NsOk ns := by rw [← hns]; exact numsOf_ok _
  have hL := facts ns hNs
  clear hns
  (repeat' first | (fail "g1"; refine stop_of ?_) | fail "k1")
  unfold Stop
  k_dflt (refine' paths_spec rfl ?k1 ?k2 ?k3 ?k4 ?k5 ?k6 ?k7 nA us ns kn _ hus hNs (.head _) ?hN (fun pl h2 tk2 nw F2 N2 hsub hP => ?_); (case k1 | k2 | k3 | k4 | hN => k_asm); (case k5 => rfl); (case k6 => first | ktr_room | k_room); (case k7 => ktr_units))
  injections pl h2 tk2 nw F2 N2 hsub hP
  (repeat' first | ((with_reducible show wpAny _ _ (getAttr (Value.ref _) (Str.ofString "append") true) _ _ _); refine stop_of ?_) | fail "k1")
  unfold Stop
  k_dflt (refine' append_attr ?k1 ?k2 ?k3 (fun aW h3 F3 N3 l3 => ?_); (case k1 | k2 => k_asm); (case k3 => k_mem))
  injections aW h3 F3 N3 l3
  k_lt l3
  (repeat' first | (fail "g1"; refine stop_of ?_) | fail "k1")
  unfold Stop
  rename News _ _ _ _ => N4
  obtain ⟨aW9, aP, e1, e2⟩ := two_heads N4
  subst e1 e2
  have hAW : AllLt aW9 nw ∧ @LT.lt Nat _ aP aW9 := ⟨l3.2, l3.1⟩
  have hnP : ∀ q ∈ nw, q.1 < aP := by assumption
  have hnW := allLt_mem hAW.1
  have m123 : ((123 : Addr), tabObj #[]) ∈ nw := hsub _ (by k_mem)
  have m283 : ((283 : Addr), tabObj #[]) ∈ nw := hsub _ (by k_mem)
  have mnA : (nA, listOf us.toArray kn) ∈ nw := hsub _ (.head _)
  obtain ⟨as, kl, mpl, hasl, hel⟩ := hP
  have h123 : @LT.lt Nat _ 123 aP := hnP _ m123
  have hrest : ∀ q ∈ nw, q.1 ≠ 123 → q ∈ nw.filter (fun q => q.1 != 123) := fun q hq hne => List.mem_filter.mpr ⟨hq, by simpa using hne⟩
  have hPi : PathsIn (nw.filter (fun q => q.1 != 123)) pl as (pathsTo ns 5) kl :=
    ⟨hrest _ mpl (news_apart N4 (.tail _ (.tail _ mpl)) (.tail _ (.tail _ m123)) (by simp)), hasl, fun j a p h1 h2 => by
     have pz5 := hel j a p h1 h2
     obtain ⟨vs, n, h3, h4, pu6⟩ := pz5
     exact ⟨vs, n, hrest _ h3 (news_apart N4 (.tail _ (.tail _ h3)) (.tail _ (.tail _ m123)) (by simp)), h4⟩⟩
  have hNi : NumsIn (nw.filter (fun q => q.1 != 123)) nA ns kn := ⟨us, hrest _ mnA (news_apart N4 (.tail _ (.tail _ mnA)) (.tail _ (.tail _ m123)) (by simp)), hus⟩
  have hrn : ∀ q ∈ nw.filter (fun q => q.1 != 123), q.1 ≠ (123 : Nat) := fun q hq => by simpa using (List.mem_filter.mp hq).2
  have N5 : News _ _ h3 ((aW9, boundO "list.append" (.ref aP)) :: (aP, listOf #[] 0) :: ((123 : Addr), tabObj #[]) :: nw.filter (fun q => q.1 != 123)) := news_sub N4 (List.forall_mem_cons.mpr ⟨.head _, List.forall_mem_cons.mpr ⟨.tail _ (.head _), List.forall_mem_cons.mpr ⟨.tail _ (.tail _ m123), fun q hq => .tail _ (.tail _ (List.mem_filter.mp hq).1)⟩⟩⟩)
  k_dflt (refine' init_spec rfl ?k1 ?k2 ?k3 ?k4 ?k5 ?k6 ?k7 123 aW9 aP 0 _ (nw.filter (fun q => q.1 != 123)) N5 ⟨hrn, fun q hq => Nat.ne_of_lt (hnP q (List.mem_filter.mp hq).1), trivial⟩ ⟨h123, hAW.2⟩ (fun q hq => hq) (fun x h4 tk4 nw4 nss ex1 ex2 hinc hnss F4 N6 S4 => ?_); (case k1 | k2 | k3 | k4 => k_asm); (case k5 => rfl); (case k6 => first | ktr_room | k_room); (case k7 => ktr_units))
  injections x h4 tk4 nw4 nss ex1 ex2 hinc hnss F4 N6 S4
  clear N5
  obtain ⟨a0, ha0⟩ : ∃ a0, as[0]? = some a0 := ⟨_, List.getElem?_eq_getElem (by rw [hasl, pathsTo_len]; omega)⟩
  have ha0v : (as.map Value.ref).toArray[(0 : Int).toNat]? = some (.ref a0) := by
    rw [List.getElem?_toArray, List.getElem?_map]
    show Option.map _ as[0]? = _
    rw [ha0]
    rfl
  have N7 : News _ _ h4 ((pl, listOf (as.map Value.ref).toArray kl) :: nw4) := news_sub N6 (List.forall_mem_cons.mpr ⟨S4.kept _ hPi.1, fun q hq => hq⟩)
  clear N6
  (repeat' first | (fail "g15"; k_dflt (refine' list_at2 ?hl ?h0 ?hi ?hv ?_; (case hl => is_list); (case h0 | hi => omega); (case hv => first | with_reducible assumption | assumption))) | (fail "g1"; refine stop_of ?_) | fail "k1")
  unfold Stop
  have hincI := hinc
  unfold WA.IncW at hincI
  simp only [Inc, and_true, ex1, ex2] at hincI
  have hB := (by assumption : Below callerA _ _ _)
  have hc125x : CodeHd (ghostOf s₁.heap [(287, 283), (125, 123)]) 125 x.PT := by rw [ex1]; exact hcc.1
  have hsm0 : @LT.lt Nat _ sysModules x.aPres := by
    show (1 : Nat) < x.aPres
    omega
  have hpz : (pathsTo ns 5)[0]? = some [0] := by simp [pathsTo, pathStep]
  k_dflt (refine' (told_spec x pl nA as (pathsTo ns 5) ns kl kn _ w hc125x hinc (pathsTo_psok ns) hNs hsm0 6) _ _ _ _ _ _ _ _ _ _ _ _ _ _ _ _ _ _ _ _ _ rfl ?j1 ?j2 ?j3 ?j4 ?j5 ?j6 ?j7 a0 [0] 0 _ (nw.filter (fun q => q.1 != 123)) [] [] [] nss #[] false ha0 hpz ?hla ?hes ?hN ?hS ?hyo hPi hNi ?hz ?hns ?hpr (fun h5 tk5 g5 nw5 F8 N9 S8 hg8 => ?_); (case j1 | j2 | j3 | j4 | hN => k_asm); (case j5 => rfl); (case j6 => first | ktr_room | k_room); (case j7 => ktr_units))
  injections h5 tk5 g5 nw5 F8 N9 S8 hg8
  case hla => (show 6 ≤ (0 : Int) + 6; omega)
  case hes => (show 0 + 6 ≤ 9; omega)
  case hS => (refine WSt.mono S4 ?_; intro q hq; fail "my.mem")
  case hyo => exact .inl rfl
  case hz => (have := hL.tlen; show (toldP ns (pathsTo ns 5) 6 [0]).length ≤ 790; omega)
  case hns => omega
  case hpr => (show 0 + 6 ≤ 900; omega)
  clear N7 S4 hc125x ha0v hpz ha0 hincI hsm0
  obtain ⟨done8, we8, dn8, pn8, n38, n48, n58, ds8, ps8, tb8, rest8, hs8, pu8, hps8, pu9, hap8, pu10, pu11, pu12, hkp8⟩ := S8
  have hps : StrsAre ps8.toList (toldP ns (pathsTo ns 5) 6 [0]) := hps8
  have N10 : News _ _ h5 ((aP, listOf ps8 pn8) :: ((123 : Addr), tabObj tb8) :: nw.filter (fun q => q.1 != 123)) := news_sub N9 (List.forall_mem_cons.mpr ⟨by rw [← ex2]; exact hs8 _ (by k_mem), List.forall_mem_cons.mpr ⟨by rw [← ex1]; exact hs8 _ (by k_mem), fun q hq => hs8 q (.tail _ (.tail _ (.tail _ (.tail _ (.tail _ (.tail _ (.tail _ (.tail _ (.tail _ (hkp8 q hq))))))))))⟩⟩)
  clear hps8 hs8 hap8 hkp8 N9
  (repeat' first | ((with_reducible show wpAny _ _ (call (Value.builtin "str.join") _) _ _ _); (refine stop_of ?_)) | fail "k1")
  unfold Stop
  refine join_list (items := ps8) (ys := toldP ns (pathsTo ns 5) 6 [0]) ⟨_, (N10 _ (.head _)).1, rfl, _, rfl⟩ hps (by have := hL.tsum; show _ + _ * 0 ≤ _; omega) (fun t6 k6 => ?_)
  injections t6 k6
  have h225g : (ghostOf s₁.heap [(287, 283), (125, 123)]).get? 225 = some oS := ghost_ne h225 (by decide)
  have h236g : IntTab PR w (ghostOf s₁.heap [(287, 283), (125, 123)]) 236 D := ghost_tab h236 (by decide)
  (repeat' first | (fail "g1"; refine stop_of ?_) | fail "k1")
  unfold Stop
  k_dflt (refine' prepared_spec rfl ?k1 ?k2 ?k3 ?k4 ?k5 ?k6 ?k7 oS b1L hoS h225g D hDv h236g (toldS ns) t6 _ ?hN hL.tsz hL.b3len (fun h7 tk7 t7 F11 N11 => ?_); (case k1 | k2 | k3 | k4 | hN => k_asm); (case k5 => rfl); (case k6 => first | ktr_room | k_room); (case k7 => ktr_units))
  injections h7 tk7 t7 F11 N11
  clear N10
  have m283' : ((283 : Addr), tabObj #[]) ∈ nw.filter (fun q => q.1 != 123) := hrest _ m283 (by decide)
  have hpg : Txt.join (Str.ofString "") (prepS D b1L (toldS ns).cps.toList) = pageS D b1L ns := rfl
  rw [hpg]
  obtain ⟨kp, hkpe⟩ : ∃ kp, kp = (nw.filter (fun q => q.1 != 123)).filter (fun q => q.1 != 283) := ⟨_, rfl⟩
  have h283 : ∀ q ∈ kp, q.1 ≠ (283 : Nat) := fun q hq => by rw [hkpe] at hq; simpa using (List.mem_filter.mp hq).2
  have hkp : ∀ q ∈ nw.filter (fun q => q.1 != 123), q.1 ≠ 283 → q ∈ kp := fun q hq hne => by rw [hkpe]; exact List.mem_filter.mpr ⟨hq, by simpa using hne⟩
  have hkn : ∀ q ∈ kp, q ∈ nw.filter (fun q => q.1 != 123) := fun q hq => by rw [hkpe] at hq; exact (List.mem_filter.mp hq).1
  have N12 : News _ _ h7 (((283 : Addr), tabObj #[]) :: (aP, listOf ps8 pn8) :: ((123 : Addr), tabObj tb8) :: kp) := news_sub N11 (List.forall_mem_cons.mpr ⟨.tail _ (.tail _ m283'), List.forall_mem_cons.mpr ⟨.head _, List.forall_mem_cons.mpr ⟨.tail _ (.head _), fun q hq => .tail _ (.tail _ (hkn q hq))⟩⟩⟩)
  have hP2 : PathsIn kp pl as (pathsTo ns 5) kl :=
    ⟨hkp _ hPi.1 (news_apart N11 (.tail _ (.tail _ hPi.1)) (.tail _ (.tail _ m283')) (by simp)), hasl, fun j a p h1 h2 => by
     obtain ⟨vs, n, h3, h4⟩ := hPi.2.2 j a p h1 h2
     exact ⟨vs, n, hkp _ h3 (news_apart N11 (.tail _ (.tail _ h3)) (.tail _ (.tail _ m283')) (by simp)), h4⟩⟩
  have mCell : ((s₁.heap.objs.size + 1 : Nat), oCell) ∈ kp := by
    have h3 := hrest (s₁.heap.objs.size + 1, oCell) (hsub _ (by k_mem)) (by show ¬ (s₁.heap.objs.size + 1 : Nat) = 123; omega)
    exact hkp _ h3 (by show ¬ (s₁.heap.objs.size + 1 : Nat) = 283; omega)
  have hNn : (nA, listOf us.toArray kn) ∈ kp := by
    have h3 := hrest _ mnA (news_apart N4 (.tail _ (.tail _ mnA)) (.tail _ (.tail _ m123)) (by simp))
    exact hkp _ h3 (news_apart N11 (.tail _ (.tail _ h3)) (.tail _ (.tail _ m283')) (by simp))
  have h283a : ∀ q ∈ (aP, listOf ps8 pn8) :: ((123 : Addr), tabObj tb8) :: kp, q.1 ≠ (283 : Nat) := List.forall_mem_cons.mpr ⟨Nat.ne_of_gt (hnP _ m283), List.forall_mem_cons.mpr ⟨by show (123 : Nat) ≠ 283; decide, h283⟩⟩
  clear N11 hPi hNi mnA mpl hel  hkpe hkn hkp hrest hrn N4
  (repeat' first | (fail "g1"; refine stop_of ?_) | fail "k1")
  unfold Stop
  k_dflt (refine' lexer_spec rfl ?k1 ?k2 ?k3 ?k4 ?k5 ?k6 ?k7 283 (pageS D b1L ns) t7 _ hcc.2 ?hN h283a (fun x2 d2 l2 x1 d1 l1 f g q1 q2 qr kpl h8 tk8 tv F13 N13 hPk hFk lo1 hg1 hd2 o1 o2 o3 o4 o5 => ?_); (case k1 | k2 | k3 | k4 | hN => k_asm); (case k5 => rfl); (case k6 => first | ktr_room | k_room); (case k7 => ktr_units))
  injections x2 d2 l2 x1 d1 l1 f g q1 q2 qr kpl h8 tk8 tv F13 N13 hPk hFk lo1 hg1 hd2 o1 o2 o3 o4 o5
  (repeat' first | (fail "g1"; refine stop_of ?_) | fail "k1")
  unfold Stop
  rename News _ _ _ _ => N14
  have N15 : News _ _ _ ((x2, instObj 213 d2) :: (d2, dictOf (lexEs w.params q2 1 (.ref x1) l2) 4) :: (l2, listOf #[] 0) :: (x1, instObj 213 d1) :: (d1, dictOf (d1Es w.params q1 l1 qr f) 5) :: (g, listOf #[] 0) :: (kpl ++ (283, tabObj tv) :: (aP, listOf ps8 pn8) :: ((123 : Addr), tabObj tb8) :: kp)) := N14
  clear N14
  have hpl3 : (pageS D b1L ns).length ≤ 3000 := hL.plen
  k_dflt (refine' words_spec rfl ?k1 ?k2 ?k3 ?k4 ?k5 ?k6 ?k7 x2 d2 l2 x1 d1 l1 f g q2 q1 qr 1 #[] 0 (pageS D b1L ns) _ kpl N15 hPk hFk (fun q hq => List.mem_append_left _ hq) hg1 (fun q hq => Nat.ne_of_lt (hd2 q hq)) o1 o2 o3 o4 o5 hpl3 (Nat.zero_le _) hL.pnq (fun h9 tk9 n9 vs9 q9 wl ds dn F15 N16 lw hds0 => ?_); (case k1 | k2 | k3 | k4 => k_asm); (case k5 => rfl); (case k6 => first | ktr_room | k_room); (case k7 => ktr_units))
  injections h9 tk9 n9 vs9 q9 wl ds dn F15 N16 lw hds0
  clear N15
  have hwf : wordsF ((pageS D b1L ns).length + 1 - (#[] : Array Value).size) (List.drop (#[] : Array Value).size (pageS D b1L ns).cps.toList) 1 = ((dueF ns (pathsTo ns 5)).map (·.cps.toList), 6) := hL.words
  rw [hwf] at N16 hds0
  have hds : StrsAre ds.toList (dueF ns (pathsTo ns 5)) := by
    rw [List.map_map, show (wordS ∘ fun z : Str => z.cps.toList) = id by funext z; rfl, List.map_id] at hds0
    exact hds0
  clear hds0
  have hsub2 : ∀ q ∈ kp, q ∈ kpl ++ (283, tabObj tv) :: (aP, listOf ps8 pn8) :: ((123 : Addr), tabObj tb8) :: kp := fun q hq => List.mem_append_right _ (.tail _ (.tail _ (.tail _ hq)))
  have N17 : News _ _ h9 ((wl, listOf ds dn) :: (x2, instObj 213 d2) :: (d2, dictOf (lexEs w.params q9 6 (.ref x1) l2) 4) :: ((283 : Addr), tabObj tv) :: ((123 : Addr), tabObj tb8) :: kp) := news_sub N16 (List.forall_mem_cons.mpr ⟨.head _, List.forall_mem_cons.mpr ⟨.tail _ (.head _), List.forall_mem_cons.mpr ⟨.tail _ (.tail _ (.head _)), List.forall_mem_cons.mpr ⟨.tail _ (.tail _ (.tail _ (.tail _ (.tail _ (.tail _ (.tail _ (List.mem_append_right _ (.head _)))))))), List.forall_mem_cons.mpr ⟨.tail _ (.tail _ (.tail _ (.tail _ (.tail _ (.tail _ (.tail _ (List.mem_append_right _ (.tail _ (.tail _ (.head _)))))))))), fun q hq => .tail _ (.tail _ (.tail _ (.tail _ (.tail _ (.tail _ (.tail _ (hsub2 q hq))))))) ⟩⟩⟩⟩⟩)
  have hkw : ∀ q ∈ kp, q.1 < wl := fun q hq => lw q (hsub2 q hq)
  clear N16 hwf lo1 hg1 hd2 hPk hFk hsub2
  dsimp only [lexEs] at N17
  rename_i c0 c1 c2 c3 c4 c5 c6 c7 c8 c9 c10 c11 c12 c13 c14 c15 c16 c17 c18 c19 c20 c21 c22 c23 c24 c25 c26
  unfold qk ek
  clear qk ek c3 c4 c7 c8 c11 c12 c16 c17 c19 c20 c23 c24 hDv facts hT8 h225 hoS h236 hT9 f1 f2 f3 f4 f5 g1 g2 g3 g4 c2 g6 g7 lifted hsub c18 l3 hAW hnP hnW m123 m283 hasl h123 hnss pu8 pu9 pu10 pu11 pu12 hps h225g h236g m283' h283a o1 o2 o3 o4 o5 c26 lw ex1 ex2 hinc hB d kwd o oS q5 q4 q3 c1 q0 qh qt h1 tk1 c5 c6 h2 tk2 nw c9 c10 c13 c14 c15 h3 aW9 x nw4 nss a0 h5 tk5 nw5 done8 we8 dn8 pn8 n38 n48 n58 ds8 ps8 rest8 t6 k6 h7 tk7 c21 c22 d1 l1 f g q1 q2 qr kpl h8 tk8 n9 vs9
  as_aux_lemma =>
  revert G hg k1 k2 k3 k4 k5 k8 hcc hCell hus hNs hL hg8 hpg h283 hP2 mCell hNn hpl3 F15 hds N17 hkw
  revert b1L D w s₀ s₁ mg mb fa pm cd doc c0 oCell nA us kn ns pl aP as kl h4 tk4 g5 tb8 t7 kp x2 d2 l2 x1 tv c25 tk h9 tk9 q9 wl ds dn
  refine' (?yk : LK _) _ _ ?yl ?yb ?yc
  case yl => (
  intro b1L D w s₀ s₁ mg mb fa pm cd doc c0 oCell nA us kn ns pl aP as kl h4 tk4 g5 tb8 t7 kp x2 d2 l2 x1 tv c25 tk h9 tk9 q9 wl ds dn G hg k1 k2 k3 k4 k5 k8 hcc hCell hus hNs hL hg8 hpg h283 hP2 mCell hNn hpl3 F15 hds N17 hkw
  (repeat' first | (fail "g1"; refine stop_of ?_) | fail "k1")
  unfold Stop
  rename News _ _ _ _ => N18
  k_dflt (refine' due_spec rfl ?k1 ?k2 ?k3 ?k4 ?k5 ?k6 ?k7 pl nA as (pathsTo ns 5) kl us ns kn _ ?hN (hP2.sub ?sub) (pathsTo_psok ns) ?hnA hus hNs (fun du ds2 dn2 h10 tk10 F17 N19 hds2 ldu => ?_); (case k1 | k2 | k3 | k4 | hN => k_asm); (case k5 => rfl); (case k6 => first | ktr_room | k_room); (case k7 => ktr_units))
  injections du ds2 dn2 h10 tk10 F17 N19 hds2 ldu
  case sub => (intro q hq; fail "my.mem")
  case hnA => exact .tail _ (.tail _ (.tail _ (.tail _ (.tail _ (.tail _ hNn)))))
  clear N18
  (repeat' first | ((with_reducible show wpAny _ _ (compareOp .NotEq (Value.ref _) (Value.ref _)) _ _ _); refine stop_of ?_) | fail "k1")
  unfold Stop
  k_dflt (refine ne_pairs_N (by k_asm) hds hds2 hL.dok ?u ?_)
  case u => ktr_units
  (repeat' first | ((with_reducible show wpAny _ _ (call (Value.builtin "str.split") _) _ _ _); (refine stop_of ?_)) | fail "k1")
  unfold Stop
  obtain ⟨bI, hRw, hsums⟩ := hL.rows
  replace hsums := fun (_ : Unit) => hsums
  k_dflt (refine KSpl.split1 (by k_asm) (by k_asm) (by decide) (fun rl rls h11 tk11 erl hrl F19 N21 lrl => ?_) (by rw [sizeLine_eq]; omega))
  injections rl rls h11 tk11 erl hrl F19 N21 lrl
  rw [erl] at hrl
  clear erl
  obtain ⟨rz, hrz⟩ : ∃ rz, rz = Txt.split (pageS D b1L ns) (Str.ofString "\n") := ⟨_, rfl⟩
  rw [← hrz] at hrl hRw
  clear hrz
  have hkr : ∀ q ∈ kp, q.1 < rl := fun q hq => lrl q (by repeat (first | exact hq | refine List.mem_cons_of_mem _ ?_))
  have hlr : @LT.lt Nat _ wl rl := lrl (wl, listOf ds dn) (by k_mem)
  have N22 : News _ _ h11 ((rl, listOf (strValues rls).toArray 0) :: (wl, listOf ds dn) :: ((283 : Addr), tabObj tv) :: ((123 : Addr), tabObj tb8) :: kp) := news_sub N21 (List.forall_mem_cons.mpr ⟨.head _, List.forall_mem_cons.mpr ⟨by k_mem, List.forall_mem_cons.mpr ⟨by k_mem, List.forall_mem_cons.mpr ⟨by k_mem, fun q hq => by repeat (first | exact hq | refine List.mem_cons_of_mem _ ?_)⟩⟩⟩⟩)
  clear lrl N21 ldu
  generalize (strValues rls) = rvs at hrl N22
  (repeat' first | (fail "g12"; (refine stop_of ?_)) | fail "k1")
  unfold Stop
  k_dflt (refine LCg.Assign_ListComp_U (F₀ := by k_asm) (by rfl) (by with_unfolding_all rfl) (by rfl) (by decide) (by rfl) (by decide) (by rfl) (by rfl) (by rfl) ?_)
  (repeat' first | ((with_reducible show LCg.CompSrc ..); (refine stop_of ?_)) | fail "k1")
  unfold Stop
  have hrs : rvs.toArray.size = 6 := by rw [strs_size (ps := rvs.toArray) (by simpa using hrl), hRw.rl]
  have hrs2 : rvs.length = 6 := by simpa using hrs
  k_dflt (refine' comp_map (fun i ys => StrsAre ys ((bareF rz bI).take i)) rfl ?F ?N ?m ?z .nil ?step ?fin)
  case F => k_asm
  case N => k_asm
  case m => k_mem
  case z => omega
  case step =>
    intro i ys v I oI C oC DD m₂ h tk E' hv hR hoC hx F4 N4 off ne
    have pz13 := strs_at hrl hv
    obtain ⟨r, tr, hr, pz14⟩ := pz13
    rcases pz14 with rfl
    have hil : i < 6 := by
     rcases Nat.lt_or_ge i rz.length with h1 | h1
     ·have := hRw.rl; omega
     ·rw [List.getElem?_eq_none h1] at hr; cases hr
    have hk0 : bI[i]? = some (bI[i]'(by have := hRw.bl; omega)) := List.getElem?_eq_getElem _
    generalize bI[i]'(by have := hRw.bl; omega) = k0 at hk0
    obtain ⟨hro, hk9⟩ := hRw.each i r k0 hr hk0
    (repeat' first | ((with_reducible show wpAny _ _ (eval (PySem.Expr.Name _ _) (compEnvC _ _ _ _)) _ _ _); k_dflt (refine LCgL.ld_global (by k_asm) (by k_asm) (by k_asm) (by k_is) ?_)) | (fail "g1"; refine stop_of ?_) | fail "k1")
    unfold Stop
    k_dflt (refine' strip_spec rfl ?j1 ?j2 ?j3 ?j4 ?j5 ?j6 ?j7 r _ _ 9 k0 _ ?jN ⟨by omega, by omega⟩ (by have := hro.2.1; omega) hro.1 hro.2.2.1 hro.2.2.2.1 hro.2.2.2.2 (fun ii h5 tk5 t5 hii F13 N13 => ?_); (case j1 | j2 | j3 | j4 | jN => k_asm); (case j5 => rfl); (case j6 => first | ktr_room | k_room); (case j7 => ktr_units))
    injections ii h5 tk5 t5 hii F13 N13
    have hii' : ii = k0 := by rw [hii]; show min k0 9 = k0; omega
    subst hii'
    fail "g20"
    unfold Stop
    refine MapEnd.intro (by k_asm) (news_sub (by k_asm) (fun q hq => hq)) ?_
    rw [List.take_add_one, bare_at hr hk0]
    exact strs_snoc hR _ _
  case fin =>
    intro g ys hR
    unfold LCg.FinA
    rw [hrs2, List.take_of_length_le (by rw [List.length_map, List.length_zip, hRw.rl, hRw.bl]; omega)] at hR
    intro bl h12 tk12 F20 N23 lbl
    clear lbl
    have hds6 : ds.toList.length = 6 := by rw [hds.len_eq]; unfold dueF; rw [List.length_map, List.length_zip, List.length_append, List.length_drop, orderP_len]; rfl
    have hdw : ds = ds.toList.toArray := by simp
    generalize hdl : ds.toList = dl at hds hds6 hdw
    subst hdw
    (repeat' first | (fail "g3"; (refine stop_of ?_)) | fail "k1")
    unfold Stop
    k_dflt (refine LCg.ListComp_U (F₀ := by k_asm) (by rfl) (by decide) (by rfl) (by decide) (by rfl) ?_)
    (repeat' first | ((with_reducible show LCg.CompSrc ..); (refine stop_of ?_)) | fail "k1")
    unfold Stop
    k_dflt (refine' comp_map (fun i ys => IntsAre ys ((countsF (dueF ns (pathsTo ns 5))).take i)) rfl ?F2 ?N2 ?m2 ?z2 .nil ?step2 ?fin2)
    case F2 => k_asm
    case N2 => k_asm
    case m2 => k_mem
    case z2 => omega
    case step2 =>
     intro i ys v I oI C oC DD m₂ h tk E' hv hR2 hoC hx F4 N4 off ne
     have pz15 := strs_at hds hv
     obtain ⟨z, tz, hz, pz16⟩ := pz15
     rcases pz16 with rfl
     have hzl : z.length ≤ 1000 := hL.dlen z (List.mem_of_getElem? hz)
     fail "g20"
     unfold Stop
     have hcz : (countsF (dueF ns (pathsTo ns 5)))[i]? = some (Txt.count z (Str.ofString "&") : Int) := by
      unfold countsF
      rw [List.getElem?_map, hz]
      rfl
     refine MapEnd.intro (by k_asm) (news_sub (by k_asm) (fun q hq => hq)) ?_
     rw [List.take_add_one, hcz]
     exact ints_snoc hR2 _ _
    case fin2 =>
     intro g2 ys2 hR2
     unfold LCg.FinE
     rw [hds6, List.take_of_length_le (by unfold countsF dueF; rw [List.length_map, List.length_map, List.length_zip, List.length_append, List.length_drop, orderP_len]; decide)] at hR2
     intro cl2 h13 tk13 F21 N24 lcl
     clear lcl
     (repeat' first | (fail "g1"; refine stop_of ?_) | fail "k1")
     unfold Stop
     have N25 : News _ _ _ ((wl, listOf dl.toArray dn) :: (cl2, listOf ys2.toArray ys2.length) :: (bl, listOf ys.toArray ys.length) :: (rl, listOf rvs.toArray 0) :: ((283 : Addr), tabObj tv) :: ((123 : Addr), tabObj tb8) :: kp) := news_sub N24 (List.forall_mem_cons.mpr ⟨by k_mem, List.forall_mem_cons.mpr ⟨by k_mem, List.forall_mem_cons.mpr ⟨by k_mem, List.forall_mem_cons.mpr ⟨by k_mem, List.forall_mem_cons.mpr ⟨by k_mem, List.forall_mem_cons.mpr ⟨by k_mem, fun q hq => by repeat (first | exact hq | refine List.mem_cons_of_mem _ ?_)⟩⟩⟩⟩⟩⟩)
     clear N24
     have hzl6 : (dueF ns (pathsTo ns 5)).length = 6 := by unfold dueF; rw [List.length_map, List.length_zip, List.length_append, List.length_drop, orderP_len]; rfl
     k_dflt (refine' degrees_spec rfl ?k1 ?k2 ?k3 ?k4 ?k5 ?k6 ?k7 wl dl.toArray dn (dueF ns (pathsTo ns 5)) _ N25 (by simpa using hds) (by omega) (fun dg gs gn h14 tk14 F22 N26 hgs ldg lwg => ?_); (case k1 | k2 | k3 | k4 => k_asm); (case k5 => rfl); (case k6 => first | ktr_room | k_room); (case k7 => ktr_units))
     injections dg gs gn h14 tk14 F22 N26 hgs ldg lwg
     clear N25
     rw [hzl6] at hgs
     have hcok := hL.cok
     have hgok := hL.gok
     have hglen := hL.glen
     have hclen : (countsF (dueF ns (pathsTo ns 5))).length = 6 := by unfold countsF; rw [List.length_map, hzl6]
     clear hzl6
     generalize countsF (dueF ns (pathsTo ns 5)) = cs at hR2 hsums hcok hclen
     generalize (degF 6 (dueF ns (pathsTo ns 5))).1 = gz at hgs hsums hgok hglen
     obtain ⟨bz, hbz⟩ : ∃ bz, bz = bareF rz bI := ⟨_, rfl⟩
     rw [← hbz] at hR
     have hRB : StrsAre rvs.toArray.toList rz ∧ StrsAre ys.toArray.toList bz := ⟨by simpa using hrl, by simpa using hR⟩
     clear hds hds2 hrl hR
     obtain ⟨kq, hkq⟩ : ∃ kq, kq = (((283 : Addr), tabObj tv) :: ((123 : Addr), tabObj tb8) :: kp).filter (fun q => q.1 != (s₁.heap.objs.size + 1 : Nat)) := ⟨_, rfl⟩
     have hkc : ∀ q ∈ kq, q.1 ≠ (s₁.heap.objs.size + 1 : Nat) := fun q hq => by rw [hkq] at hq; simpa using (List.mem_filter.mp hq).2
     have hkn : ∀ q ∈ kq, q ∈ ((283 : Addr), tabObj tv) :: ((123 : Addr), tabObj tb8) :: kp := fun q hq => by rw [hkq] at hq; exact (List.mem_filter.mp hq).1
     have hkk : ∀ q ∈ ((283 : Addr), tabObj tv) :: ((123 : Addr), tabObj tb8) :: kp, q.1 ≠ (s₁.heap.objs.size + 1 : Nat) → q ∈ kq := fun q hq hne => by rw [hkq]; exact List.mem_filter.mpr ⟨hq, by simpa using hne⟩
     have mC26 : ((s₁.heap.objs.size + 1 : Nat), oCell) ∈ (dg, listOf gs gn) :: (wl, listOf dl.toArray dn) :: (cl2, listOf ys2.toArray ys2.length) :: (bl, listOf ys.toArray ys.length) :: (rl, listOf rvs.toArray 0) :: ((283 : Addr), tabObj tv) :: ((123 : Addr), tabObj tb8) :: kp := .tail _ (.tail _ (.tail _ (.tail _ (.tail _ (.tail _ (.tail _ mCell))))))
     have hkl : ∀ (a : Addr) (vs : Array Value) (n : Nat), (a, listOf vs n) ∈ kp → (a, listOf vs n) ∈ kq := fun a vs n h => hkk _ (.tail _ (.tail _ h)) (news_ne_data N26 (.tail _ (.tail _ (.tail _ (.tail _ (.tail _ (.tail _ (.tail _ h))))))) mC26 (list_cell hCell))
     have hP3 : PathsIn kq pl as (pathsTo ns 5) kl := ⟨hkl _ _ _ hP2.1, hP2.2.1, fun j a p h1 h2 => by
      obtain ⟨vs, n, h3, h4⟩ := hP2.2.2 j a p h1 h2
      exact ⟨vs, n, hkl _ _ _ h3, h4⟩⟩
     have hN3 : (nA, listOf us.toArray kn) ∈ kq := hkl _ _ _ hNn
     have m283q : ((283 : Addr), tabObj tv) ∈ kq := hkk _ (.head _) (by show ¬ (283 : Nat) = s₁.heap.objs.size + 1; omega)
     have m123q : ((123 : Addr), tabObj tb8) ∈ kq := hkk _ (.tail _ (.head _)) (by show ¬ (123 : Nat) = s₁.heap.objs.size + 1; omega)
     clear hkk mC26 hkl
     have N27 : News _ _ h14 ((dg, listOf gs gn) :: (cl2, listOf ys2.toArray ys2.length) :: (bl, listOf ys.toArray ys.length) :: (rl, listOf rvs.toArray 0) :: ((s₁.heap.objs.size + 1 : Nat), oCell) :: kq) := news_sub N26 (List.forall_mem_cons.mpr ⟨by k_mem, List.forall_mem_cons.mpr ⟨by k_mem, List.forall_mem_cons.mpr ⟨by k_mem, List.forall_mem_cons.mpr ⟨by k_mem, List.forall_mem_cons.mpr ⟨.tail _ (.tail _ (.tail _ (.tail _ (.tail _ (.tail _ (.tail _ mCell)))))), fun q hq => .tail _ (.tail _ (.tail _ (.tail _ (.tail _ (hkn q hq)))))⟩⟩⟩⟩⟩)
     clear N26
     obtain ⟨bas, hbas⟩ : ∃ bas, bas = (dg, listOf gs gn) :: (cl2, listOf ys2.toArray ys2.length) :: (bl, listOf ys.toArray ys.length) :: (rl, listOf rvs.toArray 0) :: kq := ⟨_, rfl⟩
     have hbc : ∀ q ∈ bas, q.1 ≠ (s₁.heap.objs.size + 1 : Nat) := by
      have hm : ∀ q ∈ bas, q ∈ (dg, listOf gs gn) :: (cl2, listOf ys2.toArray ys2.length) :: (bl, listOf ys.toArray ys.length) :: (rl, listOf rvs.toArray 0) :: ((s₁.heap.objs.size + 1 : Nat), oCell) :: kq := fun q hq => by
       rw [hbas] at hq
       simp only [List.mem_cons] at hq ⊢
       rcases hq with h | h | h | h | h <;> simp [h]
      have mc : ((s₁.heap.objs.size + 1 : Nat), oCell) ∈ (dg, listOf gs gn) :: (cl2, listOf ys2.toArray ys2.length) :: (bl, listOf ys.toArray ys.length) :: (rl, listOf rvs.toArray 0) :: ((s₁.heap.objs.size + 1 : Nat), oCell) :: kq := by k_mem
      rw [hbas]
      refine List.forall_mem_cons.mpr ⟨news_ne_data N27 (by k_mem) mc (list_cell hCell), List.forall_mem_cons.mpr ⟨news_ne_data N27 (by k_mem) mc (list_cell hCell), List.forall_mem_cons.mpr ⟨news_ne_data N27 (by k_mem) mc (list_cell hCell), List.forall_mem_cons.mpr ⟨news_ne_data N27 (by k_mem) mc (list_cell hCell), hkc⟩⟩⟩⟩
     (repeat' first | (fail "g16"; refine stop_of ?_) | fail "k1")
     unfold Stop
     rename Fr _ _ _ _ => F30
     rename_i b0 b1 b2 b3 b4 b5 b6 b7 b8 b9 b10 b11 b12 b13 b14 b15 b16 b17 b18 b19 b20 b21 b22 b23 b24 b25 b26 b27 b28
     clear qk ek b1 b2 b3 b5 b6 b8 b9 b4 b7 b11 b12 b13 b15 b16 b18 b20 b21 b22 b25 hpg hpl3 h283 hP2 hNn hkw mCell hkr hlr hrs hrs2 hds6 hdl hkn hkq du ds2 dn2 h10 h11 h12 h13 h14 h9 c25 g g2 dl rls
     as_aux_lemma =>
     revert G hg k1 k2 k3 k4 k5 k8 hcc hCell hus hNs hL hg8 hRw ldg lwg hR2 hcok hclen hgs hsums hgok hglen hbz hRB hkc hP3 hN3 m283q m123q hbas hbc b19 b26 F30 b28
     revert b1L D w s₀ s₁ mg mb fa pm cd doc c0 oCell nA us kn ns pl aP as kl h4 tk4 g5 tb8 t7 kp x2 d2 l2 x1 tv b0 tk9 q9 wl dn tk10 b10 bI rl tk11 rz rvs b14 ys bl tk12 ys2 cl2 tk13 dg gs gn tk14 cs gz bz kq bas b17 b23 b24 b27 tk
     refine' (?wk : LK _) _ _ ?wl ?wb ?wc
     case wl => (
     intro b1L D w s₀ s₁ mg mb fa pm cd doc c0 oCell nA us kn ns pl aP as kl h4 tk4 g5 tb8 t7 kp x2 d2 l2 x1 tv b0 tk9 q9 wl dn tk10 b10 bI rl tk11 rz rvs b14 ys bl tk12 ys2 cl2 tk13 dg gs gn tk14 cs gz bz kq bas b17 b23 b24 b27 tk G hg k1 k2 k3 k4 k5 k8 hcc hCell hus hNs hL hg8 hRw ldg lwg hR2 hcok hclen hgs hsums hgok hglen hbz hRB hkc hP3 hN3 m283q m123q hbas hbc b19 b26 F30 b28
     obtain ⟨mL, eL⟩ := fr_name F30
     k_dflt (refine' for_rangeN F30 rfl rfl rfl ?hfor)
     case hfor =>
     (repeat' first | ((with_reducible show ForRN ..); (refine stop_of ?_)) | fail "k1")
     unfold Stop
     rename News _ _ _ _ => N28
     have N29 := loop_arr N28
     clear N28
     rw [← hbas] at N29
     refine one_ask N29 fun sl0 e1 => ?_
     injections sl0 e1
     subst e1
     k_dflt (refine' ForRN.intro 5 (fun i m₁ nw => (∀ y, y ≠ Str.ofString "late" → y ≠ Str.ofString "soon" → y ≠ Str.ofString "factors" → y ≠ Str.ofString "sums" → m₁ y = mL y) ∧ ∃ (sl : Addr) (svs : List Value) (sk : Nat) (oc : Obj), m₁ (Str.ofString "sums") = some (.ref sl) ∧ (∃ v, oc.data = Data.cell v) ∧ IntsAre svs (outerF bI cs gz i) ∧ nw = (sl, listOf svs.toArray sk) :: ((s₁.heap.objs.size + 1 : Nat), oc) :: bas) ?r1 N29 ?r3 ?r4 ?r5 ?r6 ?turn ?done)
     case r1 => k_asm
     case r3 => assumption
     case r4 => rfl
     case r5 => rfl
     case r6 => exact ⟨fun y _ _ _ _ => by rw [eL], sl0, [_, _, _, _], 0, oCell, if_pos rfl, hCell, .cons 0 _ (.cons 0 _ (.cons 0 _ (.cons 0 _ .nil))), rfl⟩
     case turn =>
      intro I oI i t m₁ nw h tk hi5 hI1 hI2 pz17
      obtain ⟨hmo, sl, svs, sk, oc, hms, hoc, hsv, pz18⟩ := pz17
      rcases pz18 with rfl
      intro F5 N5
      rw [show (1 : Int) + ((i : Nat) : Int) = ((i + 1 : Nat) : Int) by omega] at F5
      have em1 : m₁ = fun y => if y = Str.ofString "sums" then some (.ref sl) else if y = Str.ofString "soon" then m₁ (Str.ofString "soon") else if y = Str.ofString "factors" then m₁ (Str.ofString "factors") else if y = Str.ofString "late" then m₁ (Str.ofString "late") else mL y := by
       funext y
       by_cases h1 : y = Str.ofString "sums"
       ·rw [if_pos h1, h1, hms]
       rw [if_neg h1]
       by_cases h2 : y = Str.ofString "soon"
       ·rw [if_pos h2, h2]
       rw [if_neg h2]
       by_cases h3 : y = Str.ofString "factors"
       ·rw [if_pos h3, h3]
       rw [if_neg h3]
       by_cases h4 : y = Str.ofString "late"
       ·rw [if_pos h4, h4]
       rw [if_neg h4]
       exact hmo y h4 h2 h3 h1
      generalize m₁ (Str.ofString "soon") = ov1 at em1
      generalize m₁ (Str.ofString "factors") = ov2 at em1
      generalize m₁ (Str.ofString "late") = ov3 at em1
      subst em1
      rw [eL] at F5
      (repeat' first | (fail "g16"; refine stop_of ?_) | fail "k1")
      unfold Stop
      rename Fr _ _ _ _ => F31
      obtain ⟨mL2, eL2⟩ := fr_name F31
      k_dflt (refine' for_rangeN F31 rfl rfl rfl ?hfor2)
      case hfor2 =>
      (repeat' first | ((with_reducible show ForRN ..); (refine stop_of ?_)) | fail "k1")
      unfold Stop
      rename News _ _ _ _ => N31
      have N32 : News _ _ _ ((sl, listOf svs.toArray sk) :: ((s₁.heap.objs.size + 1 : Nat), oc) :: (bas ++ [(I, oI)])) := N31
      clear N31
      k_dflt (refine' ForRN.intro (i + 1) (fun j m₁ nw => (∀ y, y ≠ Str.ofString "soon" → y ≠ Str.ofString "factors" → y ≠ Str.ofString "sums" → m₁ y = mL2 y) ∧ ∃ (sl : Addr) (svs : List Value) (sk : Nat) (oc : Obj), m₁ (Str.ofString "sums") = some (.ref sl) ∧ (∃ v, oc.data = Data.cell v) ∧ IntsAre svs (innerF bI cs gz (i + 1) (outerF bI cs gz i) j) ∧ sl ≠ I ∧ nw = (sl, listOf svs.toArray sk) :: ((s₁.heap.objs.size + 1 : Nat), oc) :: (bas ++ [(I, oI)])) ?q1 N32 ?q3 ?q4 ?q5 ?q6 ?turn2 ?done2)
      case q1 => k_asm
      case q3 => assumption
      case q4 => exact (small5 ⟨i, hi5⟩).1
      case q5 => exact (small5 ⟨i, hi5⟩).2
      case q6 => exact ⟨fun y _ _ _ => by rw [eL2], sl, svs, sk, oc, rfl, hoc, hsv, fun e => hI2 (sl, _) (.head _) (by simp [e]), rfl⟩
      case turn2 =>
       intro I2 oI2 j t2 m₂ nw2 h2 tk2 hj hI3 hI4 pz19
       obtain ⟨hmo2, sl2, svs2, sk2, oc2, hms2, hoc2, hsv2, hsI, pz20⟩ := pz19
       rcases pz20 with rfl
       intro F6 N6
       rw [show (0 : Int) + ((j : Nat) : Int) = ((j : Nat) : Int) by omega] at F6
       have em2 : m₂ = fun y => if y = Str.ofString "sums" then some (.ref sl2) else if y = Str.ofString "factors" then m₂ (Str.ofString "factors") else if y = Str.ofString "soon" then m₂ (Str.ofString "soon") else mL2 y := by
        funext y
        by_cases h1 : y = Str.ofString "sums"
        ·rw [if_pos h1, h1, hms2]
        rw [if_neg h1]
        by_cases h3 : y = Str.ofString "factors"
        ·rw [if_pos h3, h3]
        rw [if_neg h3]
        by_cases h2 : y = Str.ofString "soon"
        ·rw [if_pos h2, h2]
        rw [if_neg h2]
        exact hmo2 y h2 h3 h1
       generalize m₂ (Str.ofString "soon") = ow1 at em2
       generalize m₂ (Str.ofString "factors") = ow2 at em2
       subst em2
       rw [eL2] at F6
       (repeat' first | (fail "g1"; refine stop_of ?_) | fail "k1")
       unfold Stop
       have hsc : sl2 ≠ (s₁.heap.objs.size + 1 : Nat) := news_ne_data N6 (.head _) (.tail _ (.head _)) (list_cell hoc2)
       have hIc : I ≠ (s₁.heap.objs.size + 1 : Nat) := Nat.ne_of_gt (hI1 _ (.tail _ (.head _)))
       have hI2c : I2 ≠ (s₁.heap.objs.size + 1 : Nat) := Nat.ne_of_gt (hI3 _ (.tail _ (.head _)))
       obtain ⟨rst, hrst⟩ : ∃ rst, rst = kq ++ [(I, oI)] ++ [(I2, oI2)] := ⟨_, rfl⟩
       have hrc : ∀ q ∈ rst, q.1 ≠ (s₁.heap.objs.size + 1 : Nat) := fun q hq => by
        rw [hrst] at hq
        rcases List.mem_append.mp hq with hq | hq
        ·rcases List.mem_append.mp hq with hq | hq
         ·exact hkc q hq
         ·rw [List.mem_singleton.mp hq]; exact hIc
        ·rw [List.mem_singleton.mp hq]; exact hI2c
       have hB6 : ∀ q ∈ bas, q ∈ (sl2, listOf svs2.toArray sk2) :: ((s₁.heap.objs.size + 1 : Nat), oc2) :: (bas ++ [(I, oI)]) ++ [(I2, oI2)] := fun q hq => List.mem_append_left _ (.tail _ (.tail _ (List.mem_append_left _ hq)))
       have mrl : (rl, listOf rvs.toArray 0) ∈ bas := by rw [hbas]; k_mem
       have mbl : (bl, listOf ys.toArray ys.length) ∈ bas := by rw [hbas]; k_mem
       have mcl : (cl2, listOf ys2.toArray ys2.length) ∈ bas := by rw [hbas]; k_mem
       have mdg : (dg, listOf gs gn) ∈ bas := by rw [hbas]; k_mem
       have hkb : ∀ q ∈ kq, q ∈ bas := fun q hq => by rw [hbas]; exact .tail _ (.tail _ (.tail _ (.tail _ hq)))
       have hr6 : ∀ q ∈ rst, q ∈ (sl2, listOf svs2.toArray sk2) :: ((s₁.heap.objs.size + 1 : Nat), oc2) :: (bas ++ [(I, oI)]) ++ [(I2, oI2)] := fun q hq => by
        rw [hrst] at hq
        rcases List.mem_append.mp hq with hq | hq
        ·rcases List.mem_append.mp hq with hq | hq
         ·exact hB6 q (hkb q hq)
         ·exact List.mem_append_left _ (.tail _ (.tail _ (List.mem_append_right _ hq)))
        ·exact List.mem_append_right _ hq
       have N7 : News _ _ h2 ((rl, listOf rvs.toArray 0) :: (bl, listOf ys.toArray ys.length) :: ((s₁.heap.objs.size + 1 : Nat), oc2) :: (sl2, listOf svs2.toArray sk2) :: (cl2, listOf ys2.toArray ys2.length) :: (dg, listOf gs gn) :: rst) :=
        news_sub N6 (List.forall_mem_cons.mpr ⟨hB6 _ mrl, List.forall_mem_cons.mpr ⟨hB6 _ mbl, List.forall_mem_cons.mpr ⟨List.mem_append_left _ (.tail _ (.head _)), List.forall_mem_cons.mpr ⟨List.mem_append_left _ (.head _), List.forall_mem_cons.mpr ⟨hB6 _ mcl, List.forall_mem_cons.mpr ⟨hB6 _ mdg, hr6⟩⟩⟩⟩⟩⟩)
       have hdgc : dg ≠ (s₁.heap.objs.size + 1 : Nat) := hbc _ mdg
       have hclc : cl2 ≠ (s₁.heap.objs.size + 1 : Nat) := hbc _ mcl
       have hblc : bl ≠ (s₁.heap.objs.size + 1 : Nat) := hbc _ mbl
       have hrlc : rl ≠ (s₁.heap.objs.size + 1 : Nat) := hbc _ mrl
       k_dflt (refine' apart_spec rfl ?k1 ?k2 ?k3 ?k4 ?k5 ?k6 ?k7 rl bl rvs.toArray ys.toArray 0 ys.length rz bz bI j (i + 1) t2 t _ N7 hRB.1 hRB.2 hRw.rl ?hbl hRw.bl ?hok hRw.pos (by omega) (by omega) (fun c M h7 tk7 t7 hM1 hM2 hcM F7 N8 => ?_); (case k1 | k2 | k3 | k4 => k_asm); (case k5 => rfl); (case k6 => first | ktr_room | k_room); (case k7 => ktr_units))
       injections c M h7 tk7 t7 hM1 hM2 hcM F7 N8
       case hbl => (rw [hbz, List.length_map, List.length_zip, hRw.rl, hRw.bl]; rfl)
       case hok =>
        intro i9 r b k hr hb hk
        obtain ⟨hro, hk9⟩ := hRw.each i9 r k hr hk
        rw [hbz, bare_at hr hk] at hb
        cases hb
        refine ⟨hro, ?_⟩
        rw [slice_tail r (by have := hro.1; omega)]
        have := hro.1
        omega
       rw [apart_eq hM1 hM2 hcM]
       clear hM1 hM2 hcM N6 N7
       generalize hav : apartF bI j (i + 1) = av
       injections av hav
       have N9 : News _ _ h7 (((s₁.heap.objs.size + 1 : Nat), oc2) :: (sl2, listOf svs2.toArray sk2) :: (cl2, listOf ys2.toArray ys2.length) :: (dg, listOf gs gn) :: (rl, listOf rvs.toArray 0) :: (bl, listOf ys.toArray ys.length) :: rst) := news_sub N8 fun q hq => by
        simp only [List.mem_cons] at hq ⊢
        rcases hq with h | h | h | h | h | h | h <;> simp [h]
       clear N8
       have hcb : ∀ k < 6, 0 ≤ cs.getD k 0 ∧ cs.getD k 0 ≤ 1000 := fun k hk => by
        have e : cs[k]? = some (cs.getD k 0) := by rw [List.getD_eq_getElem?_getD, List.getElem?_eq_getElem (by omega)]; rfl
        exact hcok _ (List.mem_of_getElem? e)
       have hgb : ∀ k < 6, 0 ≤ gz.getD k 0 ∧ gz.getD k 0 ≤ 1000 := fun k hk => by
        have e : gz[k]? = some (gz.getD k 0) := by rw [List.getD_eq_getElem?_getD, List.getElem?_eq_getElem (by omega)]; rfl
        exact hgok _ (List.mem_of_getElem? e)
       have hc1 := hcb j (by omega)
       have hc2 := hcb (i + 1) (by omega)
       have hg1 := hgb j (by omega)
       have hg2 := hgb (i + 1) (by omega)
       have hm1 : IntMulOk (cs.getD ((j : Nat) : Int).toNat 0) (cs.getD ((i + 1 : Nat) : Int).toNat 0) := IntMulOk.of_left (intBits_le_64 (by rw [Int.toNat_natCast]; omega) (by rw [Int.toNat_natCast]; omega))
       have hm2 : IntMulOk (gz.getD ((j : Nat) : Int).toNat 0) (gz.getD ((i + 1 : Nat) : Int).toNat 0) := IntMulOk.of_left (intBits_le_64 (by rw [Int.toNat_natCast]; omega) (by rw [Int.toNat_natCast]; omega))
       obtain ⟨vcell, hvcell⟩ := hoc2
       (repeat' first | (fail "g12"; (refine stop_of ?_)) | fail "k1")
       unfold Stop
       rename Fr _ _ _ _ => F33
       obtain ⟨acc, hacc⟩ : ∃ acc, acc = innerF bI cs gz (i + 1) (outerF bI cs gz i) j := ⟨_, rfl⟩
       rw [← hacc] at hsv2
       have hac4 : acc.length = 4 := by rw [hacc]; exact innerF_len (outerF_len i) j
       replace hacc := fun (_ : Unit) => hacc
       have hfb := fact_box (cs := cs) (ds := gz) hc1 hc2 hg1 hg2
       k_dflt (refine' Assign_ListComp_W F33 rfl ?hsw ?c1 ?c2 ?c3 ?c4 ?c5 ?c6 ?c7 ?c8 ?c9 ?hcomp; (case hsw | c1 => with_unfolding_all rfl); (case c2 => decide); (case c3 => rfl); (case c4 => decide); (case c5 | c6 => rfl); (case c7 => decide); (case c8 | c9 => rfl))
       case hcomp =>
       (repeat' first | ((with_reducible show wpAny _ _ (call (Value.type "zip") _) _ _ _); (refine stop_of ?_)) | fail "k1")
       unfold Stop
       k_dflt (refine' zip_K (L := _) (m := _) (news := _) ?zF ?zN ?z1 ?z2 (fun z TI TO i1 i2 hz DZ a1 a2 a3 a4 a5 F35 N35 lo lL g0 => ?zz); (case zF | zN => k_asm); (case z1 | z2 => is_list))
       injections z TI TO i1 i2 hz DZ a1 a2 a3 a4 a5 F35 N35 lo lL g0
       case zz =>
       refine SrcT.zip (n1 := sk2) (n2 := 0) rfl DZ (fun i3 vs => IntsAre vs ((stepF bI cs gz (i + 1) acc j).take i3)) a1 a2 a3 a4 a5 (by k_mem) (by k_mem) lL g0 F35 N35 lo ?_ .nil ?_ ?_
       ·have := hsv2.length
        simp only [List.size_toArray]
        omega
       ·intro X i3 x3 y3 vs C oC DD m₃ h3 tk3 E' hx3 hy3 hRi hoC e1 e2 F36 N36
        obtain ⟨tot, ttot, rfl, htot⟩ := ints_at hsv2 (by rw [List.getElem?_toArray] at hx3; exact hx3)
        rw [List.getElem?_toArray] at hy3
        have pz21 := ints_at (ns := factF cs gz j (i + 1)) (.cons _ _ (.cons _ _ (.cons _ _ (.cons _ _ .nil)))) hy3
        obtain ⟨fct, tfct, pz22⟩ := pz21
        rcases pz22 with ⟨rfl, pz23⟩
        have hfct := pz23
        clear pz23
        have hfbb := hfb _ (List.mem_of_getElem? hfct)
        have hmok : IntMulOk av fct := IntMulOk.of_right (intBits_le_64 (by omega) (by omega))
        have hst := step_at (bI := bI) htot hfct
        rw [hav] at hst
        clear hx3 hy3
        fail "g20"
        unfold Stop
        refine MapEnd.intro (by k_asm) (news_sub (by k_asm) (fun q hq => hq)) ?_
        rw [List.take_add_one, hst]
        exact ints_snoc hRi _ _
       ·intro vs hRi DD h3 tk3 F36 N36 lt3
        rw [List.take_of_length_le (by rw [stepF_len hac4, List.size_toArray, List.size_toArray, hsv2.length, hac4]; exact Nat.le_refl _)] at hRi
        (repeat' first | ((with_reducible show TurnZ ..); (refine stop_of ?_)) | fail "k1")
        unfold Stop
        rename Fr _ _ _ _ => F38
        rename News _ _ _ _ => N38
        refine third_obj N38 fun o9 e9 => ?_
        injections o9 e9
        subst e9
        have hcd9 : ∃ v, o9.data = Data.cell v := ⟨_, by assumption⟩
        have mI2 : (I2, oI2) ∈ rst := by rw [hrst]; exact List.mem_append_right _ (.head _)
        have mI : (I, oI) ∈ rst := by rw [hrst]; exact List.mem_append_left _ (List.mem_append_right _ (.head _))
        have hDI2 : @LT.lt Nat _ I2 DD := lt3 (I2, oI2) (by repeat (first | exact mI2 | refine List.mem_cons_of_mem _ ?_))
        have hDI : @LT.lt Nat _ I DD := lt3 (I, oI) (by repeat (first | exact mI | refine List.mem_cons_of_mem _ ?_))
        refine TurnZ.intro (news' := (DD, listOf vs.toArray vs.length) :: ((s₁.heap.objs.size + 1 : Nat), o9) :: (bas ++ [(I, oI)])) F38 (news_sub N38 (loop_back hbas hrst)) (fun q hq => ?_) ⟨fun y h1 h2 h3 => by simp only [if_neg h1, if_neg h2, if_neg h3, eL2], DD, vs, vs.length, o9, if_pos rfl, hcd9, by rw [hacc ()] at hRi; exact hRi, Nat.ne_of_gt hDI, rfl⟩
        injections q hq
        rcases List.mem_cons.mp hq with rfl | hq
        ·simpa using Nat.ne_of_gt hDI2
        rcases List.mem_cons.mp hq with rfl | hq
        ·simpa using Ne.symm hI2c
        ·exact hI4 q (.tail _ (.tail _ hq))
      case done2 =>
       intro m₂ nw2 h2 tk2 pz24
       obtain ⟨hmo2, sl2, svs2, sk2, oc2, hms2, hoc2, hsv2, hsI, pz25⟩ := pz24
       rcases pz25 with rfl
       intro F6 N6
       have hIc : I ≠ (s₁.heap.objs.size + 1 : Nat) := Nat.ne_of_gt (hI1 _ (.tail _ (.head _)))
       dsimp only
       (repeat' first | ((with_reducible show TurnZ ..); (refine stop_of ?_)) | fail "k1")
       unfold Stop
       refine TurnZ.intro (news' := (sl2, listOf svs2.toArray sk2) :: ((s₁.heap.objs.size + 1 : Nat), oc2) :: bas) F6 N6 (fun q hq => ?_) ⟨fun y h1 h2 h3 h4 => ?_, sl2, svs2, sk2, oc2, hms2, hoc2, hsv2, rfl⟩
       injections q hq
       injections y h1 h2 h3 h4
       ·rcases List.mem_cons.mp hq with rfl | hq
        ·simpa using hsI
        rcases List.mem_cons.mp hq with rfl | hq
        ·simpa using Ne.symm hIc
        ·exact hI2 q (.tail _ (.tail _ hq))
       ·rw [hmo2 y h2 h3 h4, eL2]
        simp only [if_neg h1, if_neg h2, if_neg h3, if_neg h4, eL]
     case done =>
      intro m₁ nw h tk pz26
      obtain ⟨hmo, sl, svs, sk, oc, hms, hoc, hsv, pz27⟩ := pz26
      rcases pz27 with rfl
      intro F5 N5
      rw [hsums ()] at hsv
      have em1 : m₁ = fun y => if y = Str.ofString "sums" then some (.ref sl) else if y = Str.ofString "soon" then m₁ (Str.ofString "soon") else if y = Str.ofString "factors" then m₁ (Str.ofString "factors") else if y = Str.ofString "late" then m₁ (Str.ofString "late") else mL y := by
       funext y
       by_cases h1 : y = Str.ofString "sums"
       ·rw [if_pos h1, h1, hms]
       rw [if_neg h1]
       by_cases h2 : y = Str.ofString "soon"
       ·rw [if_pos h2, h2]
       rw [if_neg h2]
       by_cases h3 : y = Str.ofString "factors"
       ·rw [if_pos h3, h3]
       rw [if_neg h3]
       by_cases h4 : y = Str.ofString "late"
       ·rw [if_pos h4, h4]
       rw [if_neg h4]
       exact hmo y h4 h2 h3 h1
      generalize m₁ (Str.ofString "soon") = ov1 at em1
      generalize m₁ (Str.ofString "factors") = ov2 at em1
      generalize m₁ (Str.ofString "late") = ov3 at em1
      subst em1
      rw [eL] at F5
      dsimp only
      obtain ⟨v1, hv1⟩ : ∃ v, v = tiesF (pathsTo ns 5) [1, 1, 1, 1, 1, 1] := ⟨_, rfl⟩
      obtain ⟨v2, hv2⟩ : ∃ v, v = tiesF (pathsTo ns 5) (ns.map fun n => ((textS n).length : Int)) := ⟨_, rfl⟩
      rw [← hv1, ← hv2] at hsv
      replace hv1 := fun (_ : Unit) => hv1
      replace hv2 := fun (_ : Unit) => hv2
      have hkb : ∀ q ∈ kq, q ∈ bas := fun q hq => by rw [hbas]; exact .tail _ (.tail _ (.tail _ (.tail _ hq)))
      have N6 : News _ _ h ((sl, listOf svs.toArray sk) :: kq) := news_sub N5 (List.forall_mem_cons.mpr ⟨.head _, fun q hq => .tail _ (.tail _ (hkb q hq))⟩)
      clear N5 hkb
      have hm4 : IntMulOk 4 v1 := IntMulOk.of_left (intBits_le_64 (by decide) (by decide))
      clear hRB hR2 hgs hcok hgok hsums
      (repeat' first | (fail "g1"; refine stop_of ?_) | fail "k1")
      unfold Stop
      have h6 : ∀ {vs : List Value}, IntsAre vs (List.replicate (6 : Int).toNat [(1 : Int)]).flatten → IntsAre vs [1, 1, 1, 1, 1, 1] := fun h => h
      k_dflt (refine' ties_spec rfl ?k1 ?k2 ?k3 ?k4 ?k5 ?k6 ?k7 pl _ as (pathsTo ns 5) kl _ [1, 1, 1, 1, 1, 1] 0 _ ?hN (hP3.sub ?hPP) (pathsTo_psok ns) (.head _) (h6 ?hS) rfl (by decide) (fun h8 tk8 t8 F9 N9 => ?_); (case k1 | k2 | k3 | k4 | hN => k_asm); (case k5 => rfl); (case k6 => first | ktr_room | k_room); (case k7 => ktr_units); (case hPP => exact fun q hq => .tail _ (.tail _ (.tail _ hq))); (case hS => assumption))
      injections h8 tk8 t8 F9 N9
      rw [← hv1 ()]
      have N10 := news_sub N9 (show ∀ q ∈ (sl, listOf svs.toArray sk) :: kq, q ∈ _ from fun q hq => .tail _ (.tail _ hq))
      clear N9
      (repeat' first | (fail "g3"; (refine stop_of ?_)) | fail "k1")
      unfold Stop
      k_dflt (refine LCg.ListComp_U (F₀ := by k_asm) (by rfl) (by decide) (by rfl) (by decide) (by rfl) ?_)
      (repeat' first | ((with_reducible show LCg.CompSrc ..); (refine stop_of ?_)) | fail "k1")
      unfold Stop
      have hul : us.length = 6 := by rw [hus.length]; exact hNs.len
      k_dflt (refine' comp_map (vs := us) (k := kn) (fun i ys => IntsAre ys ((ns.map fun n => ((textS n).length : Int)).take i)) rfl ?F3 ?N3 ?m3 ?z3 .nil ?step3 ?fin3)
      case F3 => k_asm
      case N3 => k_asm
      case m3 => exact .tail _ hN3
      case z3 => omega
      case step3 =>
       intro i ys v I oI C oC DD m₂ h tk E' hv hR hoC hx F4 N4 off ne
       have pz28 := ints_at hus hv
       obtain ⟨n, tn, pz29⟩ := pz28
       rcases pz29 with ⟨rfl, pz30⟩
       have hn := pz30
       clear pz30
       have hnb := hNs.each n (List.mem_of_getElem? hn)
       have htl := text_good n
       have hnt : (ns.map fun n => ((textS n).length : Int))[i]? = some ((textS n).length : Int) := by rw [List.getElem?_map, hn]; rfl
       (repeat' first | ((with_reducible show wpAny _ _ (eval (PySem.Expr.Name _ _) (compEnvC _ _ _ _)) _ _ _); k_dflt (refine LCgL.ld_global (by k_asm) (by k_asm) (by k_asm) (by k_is) ?_)) | (fail "g1"; refine stop_of ?_) | fail "k1")
       unfold Stop
       k_dflt (refine' text_spec rfl ?k1 ?k2 ?k3 ?k4 ?k5 ?k6 ?k7 n hnb (fm _ (by decide)) (fm _ (by decide)) _ _ ?hN (fun h' tk' t' F' N' => ?_); (case k1 | k2 | k3 | k4 | hN => k_asm); (case k5 => rfl); (case k6 => first | ktr_room | k_room); (case k7 => ktr_units))
       injections h' tk' t' F' N'
       fail "g20"
       unfold Stop
       refine MapEnd.intro (by k_asm) (news_sub (by k_asm) (fun q hq => hq)) ?_
       rw [List.take_add_one, hnt]
       exact ints_snoc hR _ _
      case fin3 =>
       intro g ys hR
       unfold LCg.FinE
       rw [hul, List.take_of_length_le (by rw [List.length_map, hNs.len]; exact Nat.le_refl _)] at hR
       intro hl5 h11 tk11 F11 N11 o11
       clear o11
       (repeat' first | (fail "g1"; refine stop_of ?_) | fail "k1")
       unfold Stop
       k_dflt (refine' ties_spec rfl ?k1 ?k2 ?k3 ?k4 ?k5 ?k6 ?k7 pl hl5 as (pathsTo ns 5) kl ys (ns.map fun n => ((textS n).length : Int)) ys.length _ ?hN (hP3.sub ?hPP) (pathsTo_psok ns) (.head _) hR (by rw [List.length_map]; exact hNs.len) ?hw3 (fun h12 tk12 t12 F12 N12 => ?_); (case k1 | k2 | k3 | k4 | hN => k_asm); (case k5 => rfl); (case k6 => first | ktr_room | k_room); (case k7 => ktr_units); (case hPP => exact fun q hq => .tail _ (.tail _ hq)); (case hw3 => (intro x hx; obtain ⟨n, _, rfl⟩ := List.mem_map.mp hx; have := text_good n; omega)))
       injections h12 tk12 t12 F12 N12
       rw [← hv2 ()]
       have N13 := news_sub N12 (show ∀ q ∈ (sl, listOf svs.toArray sk) :: ((283 : Addr), tabObj tv) :: ((123 : Addr), tabObj tb8) :: kq, q ∈ _ from List.forall_mem_cons.mpr ⟨.tail _ (.head _), List.forall_mem_cons.mpr ⟨.tail _ (.tail _ m283q), List.forall_mem_cons.mpr ⟨.tail _ (.tail _ m123q), fun q hq => .tail _ (.tail _ hq)⟩⟩⟩)
       clear N12
       (repeat' first | ((with_reducible show wpAny _ _ (compareOp .Eq (Value.ref _) (Value.ref _)) _ _ _); refine stop_of ?_) | fail "k1")
       unfold Stop
       k_dflt (refine ke_eq_ints (by is_list) (by is_list) hsv (.cons _ _ (.cons _ _ (.cons _ _ (.cons _ _ .nil)))) (by ktr_units) ?_)
       rw [decide_eq_true rfl]
       k_steps
       rename Fr _ _ _ _ => F99
       rename News _ _ _ _ => N99
       refine ⟨rfl, F99.keep, rfl, hg8 (by rw [hg]; exact AllBare.empty), ?_⟩
       refine ⟨GrownAt.of N99 (ps := tv) (by k_mem), GrownAt.of N99 (ps := tb8) (by k_mem), trivial⟩
     )
     case wb => ((conv => delta mark24 mark16 mark8 mark6 mark4 mark3 mark2 mark1 _root_.id); (refine lbd (fun hx => ?_)); exact hx ())
     injections hx
     case wc => ((try (conv => zeta)); exact lbox _)
     case wk => exact fun m _ _ _ _ => m
  )
  case yb => ((conv => delta mark24 mark16 mark8 mark6 mark4 mark3 mark2 mark1 _root_.id); (refine lbd (fun hx => ?_)); exact hx ())
  injections hx
  case yc => ((try (conv => zeta)); exact lbox _)
  case yk => exact fun m _ _ _ _ => m
 fail "mk.b"
end
section
noncomputable def stmtOf (x : Str) : List Stmt → Option PySem.Expr
 | [] => none
 | .Assign [.Name y _] e _ :: r => if y = x then some e else stmtOf x r
 | _ :: r => stmtOf x r
noncomputable def constD : PySem.Expr → PySem.PyData
 | .Constant (.int k) _ _ => .int k
 | .Constant (.str s) _ _ => .str s
 | _ => .none
noncomputable def b3D : List (PySem.PyData × PySem.PyData) := match stmtOf (Str.ofString "b3_exceptions") PR.main.body with
 | some (.Dict ks vs _) => ks.zip vs |>.map fun p => ((p.1.map constD).getD .none, constD p.2)
 | _ => []
noncomputable def b1L : List Int := [173, 847, 6150, 6155, 6156, 6157, 8203, 8204, 8205, 8288, 65279] ++ (List.range 16).map fun i => ((65024 + i : Nat) : Int)
theorem b3D_str : ∀ p ∈ b3D, (match p.2 with | .str _ => true | _ => false) = true := by decide +kernel
theorem lookup_mem {k v : PySem.PyData} : ∀ {l : List (PySem.PyData × PySem.PyData)}, PySem.Spec.lookup k l = some v → ∃ p ∈ l, p.2 = v
 | [], h => by cases h
 | (a, b) :: r, h => by
  unfold PySem.Spec.lookup at h
  split at h
  ·cases h; exact ⟨_, .head _, rfl⟩
  ·rcases lookup_mem h with ⟨p, hp, e⟩
   exact ⟨p, .tail _ hp, e⟩
theorem b3D_val (k : Int) (v : PySem.PyData) (h : PySem.Spec.lookup (.int k) b3D = some v) : ∃ y, v = .str y := by
 rcases lookup_mem h with ⟨p, hp, rfl⟩
 have := b3D_str p hp
 revert this
 cases p.2 <;> simp
noncomputable def prepC (c : Nat) : List Nat := if (c : Int) ∈ b1L then [] else (b3S b3D c).cps.toList
noncomputable def unseenL : List Nat := [173, 847, 6150, 6155, 6156, 6157, 8203, 8204, 8205, 8288, 65279]
noncomputable def firstsL : List Nat := [119808, 119860, 119912, 120016, 120172, 120224, 120276, 120328, 120380, 120432]
noncomputable def pc (c : Nat) : List Nat :=
 if c < 128 then (if 65 ≤ c ∧ c ≤ 70 then [c + 32] else [c]) else if c ∈ unseenL then [] else
  match firstsL.find? (fun f => decide (f ≤ c ∧ c ≤ f + 5)) with
  | some f => [97 + (c - f)]
  | none => [c]
noncomputable def alphaL : List Nat := [10, 32, 35, 38, 47, 59, 60, 62, 97, 98, 99, 100, 101, 102, 103, 108, 109, 112, 116, 120, 65, 66, 67, 68, 69, 70] ++ unseenL ++ firstsL.flatMap fun f => [f, f + 1, f + 2, f + 3, f + 4, f + 5]
theorem pc_ok : ∀ c ∈ alphaL, prepC c = pc c ∧ (b3S b3D c).length ≤ 20 := by decide +kernel
end
section
noncomputable def pieceOk (z : Str) (l : List Nat) : Bool := z.cps.toList.all (fun c => decide (c ∈ alphaL)) && decide (z.cps.toList.flatMap pc = l) && decide (z.length ≤ 40)
noncomputable def nameOk (k : Int) (x : Str) : Bool := pieceOk (Str.ofString "<" ++ x) [60, (97 + k).toNat] && pieceOk (endS x) [60, 47, (97 + k).toNat, 62]
theorem name_ok1 : ∀ k : Fin 6, nameOk (k.val : Int) (Txt.upper (letS (k.val : Int))) = true ∧ nameOk (k.val : Int) (letS (k.val : Int)) = true := by decide +kernel
theorem name_ok2 : ∀ b : Fin 11, ∀ k : Fin 6, nameOk (k.val : Int) (Txt.item (Str.ofString "\xad\u034f\u1806\u180b\u180c\u180d\u200b\u200c\u200d\u2060\ufeff") (b.val : Int) ++ letS (k.val : Int)) = true := by decide +kernel
theorem name_ok3 : ∀ c : Fin 10, ∀ k : Fin 6, nameOk (k.val : Int) ⟨#[(firstsN.getD ((c.val : Int)).toNat 0 + [97, 98, 99, 100, 101, 102].getD ((k.val : Int)).toNat 0 - 97).toNat]⟩ = true := by decide +kernel
theorem name_ok (k n : Int) (hk : 0 ≤ k ∧ k < 6) : nameOk k (nameS k n) = true := by
 have f2 := fm (n.fdiv 2880) (m := 11) (by decide)
 have f3 := fm (n.fdiv 2880) (m := 10) (by decide)
 unfold nameS
 split
 ·exact int_casesN (N := 6) (P := fun k => nameOk k (Txt.upper (letS k)) = true) (fun i => (name_ok1 i).1) hk
 split
 ·revert f2
  generalize (n.fdiv 2880).fmod 11 = b
  intros f2
  exact int_casesN (N := 6) (P := fun k => nameOk k (Txt.item (Str.ofString "\xad\u034f\u1806\u180b\u180c\u180d\u200b\u200c\u200d\u2060\ufeff") b ++ letS k) = true) (fun i =>
   int_casesN (N := 11) (P := fun b => nameOk (i.val : Int) (Txt.item (Str.ofString "\xad\u034f\u1806\u180b\u180c\u180d\u200b\u200c\u200d\u2060\ufeff") b ++ letS (i.val : Int)) = true) (fun j => name_ok2 j i) f2) hk
 split
 ·revert f3
  generalize (n.fdiv 2880).fmod 10 = c
  intros f3
  exact int_casesN (N := 6) (P := fun k => nameOk k ⟨#[(firstsN.getD c.toNat 0 + [97, 98, 99, 100, 101, 102].getD k.toNat 0 - 97).toNat]⟩ = true) (fun i =>
   int_casesN (N := 10) (P := fun c => nameOk (i.val : Int) ⟨#[(firstsN.getD c.toNat 0 + [97, 98, 99, 100, 101, 102].getD ((i.val : Int)).toNat 0 - 97).toNat]⟩ = true) (fun j => name_ok3 j i) f3) hk
 ·exact int_casesN (N := 6) (P := fun k => nameOk k (letS k) = true) (fun i => (name_ok1 i).2) hk
noncomputable def rfN (n : Int) : List Nat := (List.replicate (rxD n).toNat (refOf (kxD n)).cps.toList).flatten
noncomputable def wsN (d : Nat) : List Nat := 10 :: List.replicate d 32
noncomputable def textOkN (a b : Int) : Bool :=
 let T := Txt.mul (Txt.item (Str.ofString "&<>\x0d") a) (1 + b)
 let R := (List.replicate (1 + b).toNat (refOf a).cps.toList).flatten
 pieceOk (escS (Txt.join (Str.ofString "") [T])) R && (List.range 7).all fun d => pieceOk (escS (Txt.join (Str.ofString "") [T, wsS d])) (R ++ wsN d)
theorem text_ok0 : ∀ a : Fin 4, ∀ b : Fin 3, textOkN (a.val : Int) (b.val : Int) = true := by decide +kernel
theorem ws_ok0 : ∀ d : Fin 7, pieceOk (escS (Txt.join (Str.ofString "") [wsS d.val])) (wsN d.val) = true := by decide +kernel
theorem ws_ok {d : Nat} (h : d ≤ 6) : pieceOk (escS (Txt.join (Str.ofString "") [wsS d])) (wsN d) = true := ws_ok0 ⟨d, by omega⟩
theorem text_ok (n : Int) : textOkN (kxD n) ((n.fdiv 240).fmod 3) = true := by
 have f1 := fm (n.fdiv 60) (m := 4) (by decide)
 have f2 := fm (n.fdiv 240) (m := 3) (by decide)
 unfold kxD
 revert f1 f2
 generalize (n.fdiv 60).fmod 4 = a
 generalize (n.fdiv 240).fmod 3 = b
 intros f1 f2
 exact int_casesN (N := 4) (P := fun a => textOkN a b = true) (fun i => int_casesN (N := 3) (P := fun b => textOkN (i.val : Int) b = true) (fun j => text_ok0 i j) f2) f1
theorem text_ok1 (n : Int) : pieceOk (escS (Txt.join (Str.ofString "") [textS n])) (rfN n) = true := by
 have := text_ok n
 unfold textOkN at this
 exact (Bool.and_eq_true_iff.mp this).1
theorem text_ok2 (n : Int) {d : Nat} (h : d ≤ 6) : pieceOk (escS (Txt.join (Str.ofString "") [textS n, wsS d])) (rfN n ++ wsN d) = true := by
 have := text_ok n
 unfold textOkN at this
 exact List.all_eq_true.mp (Bool.and_eq_true_iff.mp this).2 d (List.mem_range.mpr (by omega))
theorem gt_ok : pieceOk (Str.ofString ">") [62] = true := by decide +kernel
end
section
noncomputable def tkI (ns : List Int) : Nat × Int → List Nat
 | (0, k) => [60, (97 + k).toNat, 62]
 | (1, k) => rfN (ns.getD k.toNat 0)
 | (2, d) => wsN d.toNat
 | (_, k) => [60, 47, (97 + k).toNat, 62]
noncomputable def tkP (Ps : List (List Int)) : Nat → List Int → List (Nat × Int)
 | 0, _ => []
 | f + 1, p =>
  let r := Ps.foldl (fun (r : List (Nat × Int) × Bool) longer => if longer.dropLast = p then (r.1 ++ ((if r.2 then [(1, lastI p)] else []) ++ [(2, (p.length : Int))]) ++ tkP Ps f longer, false) else r) ([], true)
  [(0, lastI p)] ++ r.1 ++ (if r.2 then [(1, lastI p)] else []) ++ [(3, lastI p)]
noncomputable def tkF (Ps : List (List Int)) (f : Nat) (p : List Int) (r : List (Nat × Int) × Bool) (longer : List Int) : List (Nat × Int) × Bool :=
 if longer.dropLast = p then (r.1 ++ ((if r.2 then [(1, lastI p)] else []) ++ [(2, (p.length : Int))]) ++ tkP Ps f longer, false) else r
theorem tkP_succ (Ps : List (List Int)) (f : Nat) (p : List Int) : tkP Ps (f + 1) p =
 [(0, lastI p)] ++ (Ps.foldl (tkF Ps f p) ([], true)).1 ++ (if (Ps.foldl (tkF Ps f p) ([], true)).2 then [(1, lastI p)] else []) ++ [(3, lastI p)] := rfl
structure Pcs (zs : List Str) (l : List Nat) : Prop where
 al : ∀ z ∈ zs, ∀ c ∈ z.cps.toList, c ∈ alphaL
 eq : zs.flatMap (fun z => z.cps.toList.flatMap pc) = l
 len : ∀ z ∈ zs, z.length ≤ 40
theorem Pcs.nil : Pcs [] [] := ⟨by simp, rfl, by simp⟩
theorem Pcs.one {z : Str} {l : List Nat} (h : pieceOk z l = true) : Pcs [z] l := by
 unfold pieceOk at h
 simp only [Bool.and_eq_true, List.all_eq_true, decide_eq_true_eq] at h
 rcases h with ⟨⟨h1, h2⟩, h3⟩
 refine ⟨fun y hy => ?_, by rw [List.flatMap_cons, List.flatMap_nil, List.append_nil]; exact h2, fun y hy => ?_⟩
 ·rw [List.mem_singleton.mp hy]; exact h1
 ·rw [List.mem_singleton.mp hy]; exact h3
theorem Pcs.append {zs ys : List Str} {l m : List Nat} (a : Pcs zs l) (b : Pcs ys m) : Pcs (zs ++ ys) (l ++ m) := by
 refine ⟨fun z hz => ?_, by rw [List.flatMap_append, a.eq, b.eq], fun z hz => ?_⟩
 ·rcases List.mem_append.mp hz with h | h
  ·exact a.al z h
  ·exact b.al z h
 ·rcases List.mem_append.mp hz with h | h
  ·exact a.len z h
  ·exact b.len z h
theorem Pcs.cast {zs : List Str} {l m : List Nat} (a : Pcs zs l) (h : l = m) : Pcs zs m := h ▸ a
structure PcT (ns : List Int) (zs : List Str) (ts : List (Nat × Int)) : Prop where
 pcs : Pcs zs (ts.flatMap (tkI ns))
 cnt : zs.length ≤ 2 * ts.length
theorem PcT.nil {ns : List Int} : PcT ns [] [] := ⟨Pcs.nil, Nat.le_refl _⟩
theorem PcT.append {ns : List Int} {zs ys : List Str} {ts us : List (Nat × Int)} (a : PcT ns zs ts) (b : PcT ns ys us) : PcT ns (zs ++ ys) (ts ++ us) :=
 ⟨(a.pcs.append b.pcs).cast (by rw [List.flatMap_append]), by have := a.cnt; have := b.cnt; rw [List.length_append, List.length_append]; omega⟩
theorem told_tk (ns : List Int) {Ps : List (List Int)} (hPs : PsOk Ps) : ∀ f, ∀ p ∈ Ps, PcT ns (toldP ns Ps f p) (tkP Ps f p)
 | 0, p, _ => PcT.nil
 | f + 1, p, hp => by
  have ih := told_tk ns hPs f
  have hl := hPs.last hp
  have h6 := (hPs.each p hp).2.1
  have key : ∀ (ls : List (List Int)) (r : List Str × List Str) (q : List (Nat × Int) × Bool), (∀ l ∈ ls, l ∈ Ps) → PcT ns r.1 q.1 → ((q.2 = true ∧ r.2 = [textS (nodeN ns p)]) ∨ (q.2 = false ∧ r.2 = [])) →
    PcT ns (ls.foldl (toldF ns Ps f p) r).1 (ls.foldl (tkF Ps f p) q).1 ∧ (((ls.foldl (tkF Ps f p) q).2 = true ∧ (ls.foldl (toldF ns Ps f p) r).2 = [textS (nodeN ns p)]) ∨ ((ls.foldl (tkF Ps f p) q).2 = false ∧ (ls.foldl (toldF ns Ps f p) r).2 = [])) := by
   intros ls
   induction ls with
   | nil => intros r q _ h1 h2; exact ⟨h1, h2⟩
   | cons l ls ihl =>
    intros r q hls h1 h2
    rw [List.foldl_cons, List.foldl_cons]
    refine ihl _ _ (fun x hx => hls x (List.mem_cons_of_mem _ hx)) ?_ ?_
    ·unfold toldF tkF
     by_cases hd : l.dropLast = p
     ·rw [if_pos hd, if_pos hd]
      refine (h1.append ?_).append (ih l (hls l (List.mem_cons_self ..)))
      rcases h2 with ⟨e1, e2⟩ | ⟨e1, e2⟩
      ·rw [e1, e2]
       exact ⟨(Pcs.one (text_ok2 (nodeN ns p) h6)).cast (by simp [tkI, nodeN]), by simp [flushL]⟩
      ·rw [e1, e2]
       exact ⟨(Pcs.one (ws_ok h6)).cast (by simp [tkI]), by simp [flushL]⟩
     ·rw [if_neg hd, if_neg hd]; exact h1
    ·unfold toldF tkF
     by_cases hd : l.dropLast = p
     ·rw [if_pos hd, if_pos hd]; exact .inr ⟨rfl, rfl⟩
     ·rw [if_neg hd, if_neg hd]; exact h2
  have hk := key Ps ([], [textS (nodeN ns p)]) ([], true) (fun _ h => h) PcT.nil (.inl ⟨rfl, rfl⟩)
  rw [toldP_succ, tkP_succ]
  have hn := name_ok (lastI p) (nodeN ns p) hl
  unfold nameOk at hn
  rcases Bool.and_eq_true_iff.mp hn with ⟨hn1, hn2⟩
  have o1 : PcT ns [Str.ofString "<" ++ nodeS ns p, Str.ofString ">"] [(0, lastI p)] := ⟨((Pcs.one hn1).append (Pcs.one gt_ok)).cast (by simp [tkI]), by simp⟩
  have o2 : PcT ns [endS (nodeS ns p)] [(3, lastI p)] := ⟨(Pcs.one hn2).cast (by simp [tkI]), by simp⟩
  refine ((o1.append hk.1).append ?_).append o2
  rcases hk.2 with ⟨e1, e2⟩ | ⟨e1, e2⟩
  ·rw [e1, e2]
   exact ⟨(Pcs.one (text_ok1 (nodeN ns p))).cast (by simp [tkI, nodeN]), by simp [flushL]⟩
  ·rw [e1, e2]
   exact PcT.nil
end
section
noncomputable def stepC (Ps : List (List Int)) (place c : Nat) : List (List Int) := Ps ++ [Ps.getD c [] ++ [(place : Int)]]
noncomputable def treeC (c2 c3 c4 c5 : Nat) : List (List Int) := stepC (stepC (stepC (stepC (stepC [[0]] 1 0) 2 c2) 3 c3) 4 c4) 5 c5
theorem tree_of (ns : List Int) : ∃ (c2 : Fin 2) (c3 : Fin 3) (c4 : Fin 4) (c5 : Fin 5), pathsTo ns 5 = treeC c2.val c3.val c4.val c5.val := by
 have f : ∀ (a : Int) (n : Nat), 0 < n → (a.fmod (n : Int)).toNat < n := fun a n h => by
  have := fm a (m := (n : Int)) (by omega)
  omega
 refine ⟨⟨_, f (ns.getD 2 0) 2 (by decide)⟩, ⟨_, f (ns.getD 3 0) 3 (by decide)⟩, ⟨_, f (ns.getD 4 0) 4 (by decide)⟩, ⟨_, f (ns.getD 5 0) 5 (by decide)⟩, ?_⟩
 have h1 : ((ns.getD 1 0).fmod ((1 : Nat) : Int)).toNat = 0 := by
  have := f (ns.getD 1 0) 1 (by decide)
  omega
 show pathStep ns (pathStep ns (pathStep ns (pathStep ns (pathStep ns [[0]] 1) 2) 3) 4) 5 = _
 unfold treeC stepC pathStep
 rw [h1]
noncomputable abbrev pairsP (Ps : List (List Int)) : List (List Int × List Int) := (orderP Ps).zip ((orderP Ps).drop 1 ++ [[]])
noncomputable def rowTk (pa : List Int × List Int) : List (Nat × Int) := [(0, lastI pa.1), (1, lastI pa.1)] ++ (pa.1.drop (pa.2.length - 1)).reverse.map fun k => (3, k)
noncomputable def dueTk (Ps : List (List Int)) : List (Nat × Int) := ((pairsP Ps).flatMap fun pa => (2, ((pa.1.length - 1 : Nat) : Int)) :: rowTk pa).drop 1
noncomputable def depthsP (Ps : List (List Int)) : List Nat := (orderP Ps).map fun p => p.length - 1
noncomputable def endsP (Ps : List (List Int)) : List Int := (pairsP Ps).map fun pa => ((pa.1.drop (pa.2.length - 1)).length : Int)
noncomputable def whoP (Ps : List (List Int)) : List Nat := (orderP Ps).map fun p => (lastI p).toNat
noncomputable def treeOk (Ps : List (List Int)) : Bool :=
 decide (tkP Ps 6 [0] = dueTk Ps) && decide ((dueTk Ps).length ≤ 23) && ((List.range 6).all fun i => decide (i = 0 ∨ 1 ≤ (depthsP Ps).getD i 0)) && ((depthsP Ps).all fun d => decide (d ≤ 9)) && decide ((depthsP Ps).getD 0 9 = 0)
theorem tree_ok : ∀ (c2 : Fin 2) (c3 : Fin 3) (c4 : Fin 4) (c5 : Fin 5), treeOk (treeC c2.val c3.val c4.val c5.val) = true := by decide +kernel
end
section
theorem tag_chars {k : Int} (h : 0 ≤ k ∧ k < 6) : (tagD k).cps.toList = [60, (97 + k).toNat, 62] ∧ (closeD k).cps.toList = [60, 47, (97 + k).toNat, 62] :=
 int_casesN (N := 6) (P := fun k => (tagD k).cps.toList = [60, (97 + k).toNat, 62] ∧ (closeD k).cps.toList = [60, 47, (97 + k).toNat, 62]) (by decide +kernel) h
theorem wordRef_chars (b r : Str) : ∀ n, (wordRef b r n).cps.toList = b.cps.toList ++ (List.replicate n r.cps.toList).flatten
 | 0 => by simp [wordRef]
 | n + 1 => by
  show (wordRef b r n ++ r).cps.toList = _
  rw [Str.cps_append, Array.toList_append, wordRef_chars b r n, List.replicate_succ', List.flatten_append, List.append_assoc]
  simp
theorem join_chars0 : ∀ zs : List Str, (Str.join (Str.ofString "") zs).cps.toList = zs.flatMap fun z => z.cps.toList
 | [] => rfl
 | [z] => by simp; rfl
 | z :: y :: r => by
  show (z ++ Str.ofString "" ++ Str.join (Str.ofString "") (y :: r)).cps.toList = _
  rw [Str.cps_append, Array.toList_append, Str.cps_append, Array.toList_append, join_chars0 (y :: r), List.flatMap_cons]
  simp [show (Str.ofString "").cps.toList = [] by decide]
theorem join_chars (zs : List Str) : (Txt.join (Str.ofString "") zs).cps.toList = zs.flatMap fun z => z.cps.toList := by
 have e : Txt.join (Str.ofString "") zs = Str.join (Str.ofString "") zs := StrLaws.glued_eq_join _ _
 rw [e, join_chars0]
theorem pairs_mem {Ps : List (List Int)} (hPs : PsOk Ps) {pa : List Int × List Int} (h : pa ∈ pairsP Ps) : pa.1 ∈ Ps := by
 have h1 : pa.1 ∈ orderP Ps := (List.of_mem_zip h).1
 unfold orderP at h1
 rcases List.mem_map.mp h1 with ⟨i, hi, e⟩
 have hlt := (sortIx_ok Ps).2 i hi
 rw [← e, List.getD_eq_getElem?_getD, List.getElem?_eq_getElem (by rw [hPs.len]; exact hlt)]
 exact List.getElem_mem _
theorem word_tk (ns : List Int) {Ps : List (List Int)} (hPs : PsOk Ps) {pa : List Int × List Int} (h : pa ∈ pairsP Ps) : (wordD ns pa.1 pa.2).cps.toList = (rowTk pa).flatMap (tkI ns) := by
 have hp := pairs_mem hPs h
 have hl := hPs.last hp
 have hb := (hPs.each _ hp).2.2.2
 unfold wordD rowTk
 rw [Str.cps_append, Array.toList_append, wordRef_chars, (tag_chars hl).1, join_chars, List.flatMap_append]
 have e : ((pa.1.drop (pa.2.length - 1)).reverse.map closeD).flatMap (fun z => z.cps.toList) = ((pa.1.drop (pa.2.length - 1)).reverse.map fun k => (3, k)).flatMap (tkI ns) := by
  rw [List.flatMap_map, List.flatMap_map]
  have hc : ∀ k ∈ (pa.1.drop (pa.2.length - 1)).reverse, 0 ≤ k ∧ k < 6 := fun k hk => hb k (List.mem_of_mem_drop (List.mem_reverse.mp hk))
  revert hc
  generalize (pa.1.drop (pa.2.length - 1)).reverse = l
  intros hc
  induction l with
  | nil => rfl
  | cons k l ih =>
   rw [List.flatMap_cons, List.flatMap_cons, ih fun x hx => hc x (List.mem_cons_of_mem _ hx), (tag_chars (hc k (List.mem_cons_self ..))).2]
   rfl
 rw [e]
 simp [tkI, rfN, nodeN]
end
section
theorem prep_chars (l : List Nat) : (Txt.join (Str.ofString "") (prepS b3D b1L l)).cps.toList = l.flatMap prepC := by
 rw [join_chars]
 unfold prepS
 induction l with
 | nil => rfl
 | cons c l ih =>
  rw [List.flatMap_cons]
  unfold prepC at ih ⊢
  by_cases hb : (c : Int) ∈ b1L
  ·rw [List.filter_cons_of_neg (by simp [hb]), ih, if_pos hb]; rfl
  ·rw [List.filter_cons_of_pos (by simp [hb]), List.map_cons, List.flatMap_cons, ih, if_neg hb]
theorem flat_pc {l : List Nat} (h : ∀ c ∈ l, c ∈ alphaL) : l.flatMap prepC = l.flatMap pc := by
 induction l with
 | nil => rfl
 | cons c l ih => rw [List.flatMap_cons, List.flatMap_cons, ih fun x hx => h x (List.mem_cons_of_mem _ hx), (pc_ok c (h c (List.mem_cons_self ..))).1]
noncomputable def pageOf : List (Nat × List Nat) → List Nat
 | [] => []
 | [x] => List.replicate x.1 32 ++ x.2
 | x :: y :: r => List.replicate x.1 32 ++ x.2 ++ 10 :: pageOf (y :: r)
theorem pageOf_flat : ∀ (x : Nat × List Nat) (r : List (Nat × List Nat)), pageOf (x :: r) = List.replicate x.1 32 ++ x.2 ++ r.flatMap fun y => wsN y.1 ++ y.2
 | x, [] => by simp [pageOf]
 | x, y :: r => by
  show List.replicate x.1 32 ++ x.2 ++ 10 :: pageOf (y :: r) = _
  rw [pageOf_flat y r, List.flatMap_cons]
  simp [wsN]
theorem drop_flat (ns : List Int) (T : List Int × List Int → List (Nat × Int)) (dp : List Int × List Int → Nat) : ∀ l : List (List Int × List Int), (∀ pa, l[0]? = some pa → dp pa = 0) →
  ((l.flatMap fun pa => (2, (dp pa : Int)) :: T pa).drop 1).flatMap (tkI ns) = pageOf (l.map fun pa => (dp pa, (T pa).flatMap (tkI ns)))
 | [], _ => rfl
 | pa :: r, h => by
  have h0 := h pa rfl
  rw [List.flatMap_cons, List.map_cons, pageOf_flat, h0]
  show ((T pa ++ r.flatMap fun pa => (2, (dp pa : Int)) :: T pa)).flatMap (tkI ns) = _
  rw [List.flatMap_append]
  simp only [List.replicate_zero, List.nil_append]
  congr 1
  clear h h0
  induction r with
  | nil => rfl
  | cons y r ih =>
   rw [List.flatMap_cons, List.map_cons, List.flatMap_cons, List.flatMap_append, ih, List.flatMap_cons]
   simp [tkI, wsN]
noncomputable def rowsL (ns : List Int) (Ps : List (List Int)) : List (Nat × List Nat) := (pairsP Ps).map fun pa => (pa.1.length - 1, (rowTk pa).flatMap (tkI ns))
structure TreeOk (Ps : List (List Int)) : Prop where
 tk : tkP Ps 6 [0] = dueTk Ps
 len : (dueTk Ps).length ≤ 23
 pos : ∀ i, 1 ≤ i → i < 6 → 1 ≤ (depthsP Ps).getD i 0
 le : ∀ d ∈ depthsP Ps, d ≤ 9
 zero : (depthsP Ps).getD 0 9 = 0
theorem tree_facts (ns : List Int) : TreeOk (pathsTo ns 5) := by
 rcases tree_of ns with ⟨c2, c3, c4, c5, e⟩
 rw [e]
 have h := tree_ok c2 c3 c4 c5
 unfold treeOk at h
 simp only [Bool.and_eq_true, List.all_eq_true, decide_eq_true_eq, List.mem_range] at h
 rcases h with ⟨⟨⟨⟨h1, h2⟩, h3⟩, h4⟩, h5⟩
 exact ⟨h1, h2, fun i hi h6 => by have := h3 i h6; omega, h4, h5⟩
theorem told_pcs (ns : List Int) : PcT ns (toldP ns (pathsTo ns 5) 6 [0]) (tkP (pathsTo ns 5) 6 [0]) := told_tk ns (pathsTo_psok ns) 6 [0] (by
 have : (pathsTo ns 5)[0]? = some [0] := by simp [pathsTo, pathStep]
 exact List.mem_of_getElem? this)
theorem told_alpha (ns : List Int) : ∀ c ∈ (toldS ns).cps.toList, c ∈ alphaL := by
 rw [join_chars]
 intros c hc
 rcases List.mem_flatMap.mp hc with ⟨z, hz, hcz⟩
 exact (told_pcs ns).pcs.al z hz c hcz
theorem page_rows (ns : List Int) : (pageS b3D b1L ns).cps.toList = pageOf (rowsL ns (pathsTo ns 5)) := by
 have h1 : (pageS b3D b1L ns).cps.toList = (dueTk (pathsTo ns 5)).flatMap (tkI ns) := by
  show (Txt.join (Str.ofString "") (prepS b3D b1L (toldS ns).cps.toList)).cps.toList = _
  rw [prep_chars, flat_pc (told_alpha ns), join_chars, List.flatMap_assoc, (told_pcs ns).pcs.eq, (tree_facts ns).tk]
 rw [h1]
 refine drop_flat ns rowTk (fun pa => pa.1.length - 1) (pairsP (pathsTo ns 5)) fun pa hpa => ?_
 have hz := (tree_facts ns).zero
 have h2 : (orderP (pathsTo ns 5))[0]? = some pa.1 := by
  have h3 : (pairsP (pathsTo ns 5))[0]? = some (pa.1, pa.2) := hpa
  exact (List.getElem?_zip_eq_some.mp h3).1
 unfold depthsP at hz
 rw [List.getD_eq_getElem?_getD, List.getElem?_map, h2] at hz
 exact hz
end
section
structure GoodW (W : List Nat) : Prop where
 ne : W ≠ []
 each : ∀ c ∈ W, wsC c = false ∧ c ≠ 34 ∧ c ≠ 92
theorem tokB_end : ∀ (W acc : List Nat) (ln : Int), (∀ c ∈ W, wsC c = false) → tokB acc W ln = (acc ++ W, [], ln)
 | [], acc, ln, _ => by simp [tokB]
 | c :: r, acc, ln, h => by
  unfold tokB
  rw [h c (List.mem_cons_self ..)]
  simp only [Bool.false_eq_true, if_false]
  rw [tokB_end r (acc ++ [c]) ln fun x hx => h x (List.mem_cons_of_mem _ hx)]
  simp
theorem tokB_nl : ∀ (W acc rest : List Nat) (ln : Int), (∀ c ∈ W, wsC c = false) → tokB acc (W ++ 10 :: rest) ln = (acc ++ W, rest, ln + 1)
 | [], acc, rest, ln, _ => by simp [tokB, wsC, nlC]
 | c :: r, acc, rest, ln, h => by
  show tokB acc (c :: (r ++ 10 :: rest)) ln = _
  unfold tokB
  rw [h c (List.mem_cons_self ..)]
  simp only [Bool.false_eq_true, if_false]
  rw [tokB_nl r (acc ++ [c]) rest ln fun x hx => h x (List.mem_cons_of_mem _ hx)]
  simp
theorem tokA_blanks (rest : List Nat) (ln : Int) : ∀ d, tokA (List.replicate d 32 ++ rest) ln = tokA rest ln
 | 0 => rfl
 | d + 1 => by
  rw [List.replicate_succ]
  show tokA (32 :: (List.replicate d 32 ++ rest)) ln = _
  rw [← tokA_blanks rest ln d]
  conv => lhs; unfold tokA
  rfl
theorem tokA_word1 {W : List Nat} (g : GoodW W) (rest : List Nat) (ln : Int) : tokA (W ++ 10 :: rest) ln = (W, rest, ln + 1) ∧ tokA W ln = (W, [], ln) := by
 rcases g with ⟨ne, each⟩
 cases W with
 | nil => exact absurd rfl ne
 | cons c r =>
  have hc := (each c (List.mem_cons_self ..)).1
  have hr : ∀ x ∈ r, wsC x = false := fun x hx => (each x (List.mem_cons_of_mem _ hx)).1
  constructor
  ·show tokA (c :: (r ++ 10 :: rest)) ln = _
   unfold tokA
   rw [hc]
   simp only [Bool.false_eq_true, if_false]
   rw [tokB_nl r [c] rest ln hr]
   rfl
  ·unfold tokA
   rw [hc]
   simp only [Bool.false_eq_true, if_false]
   rw [tokB_end r [c] ln hr]
   rfl
theorem words_rows : ∀ (rows : List (Nat × List Nat)) (x : Nat × List Nat) (n : Nat) (ln : Int), (∀ y ∈ x :: rows, GoodW y.2) → rows.length + 2 ≤ n → wordsF n (pageOf (x :: rows)) ln = ((x :: rows).map (·.2), ln + rows.length)
 | [], x, n, ln, h, hn => by
  obtain ⟨m, rfl⟩ : ∃ m, n = m + 1 + 1 := ⟨n - 2, by simp at hn; omega⟩
  have g := h x (List.mem_cons_self ..)
  show wordsF (m + 1 + 1) (List.replicate x.1 32 ++ x.2) ln = _
  unfold wordsF
  rw [tokA_blanks, (tokA_word1 g [] ln).2]
  simp only [if_neg g.ne]
  have e : wordsF (m + 1) [] ln = ([], ln) := by unfold wordsF; simp [tokA]
  rw [e]
  simp
 | y :: r, x, n, ln, h, hn => by
  obtain ⟨m, rfl⟩ : ∃ m, n = m + 1 := ⟨n - 1, by simp at hn; omega⟩
  have g := h x (List.mem_cons_self ..)
  show wordsF (m + 1) (List.replicate x.1 32 ++ x.2 ++ 10 :: pageOf (y :: r)) ln = _
  unfold wordsF
  rw [List.append_assoc, tokA_blanks, (tokA_word1 g (pageOf (y :: r)) ln).1]
  simp only [if_neg g.ne]
  rw [words_rows r y m (ln + 1) (fun z hz => h z (List.mem_cons_of_mem _ hz)) (by simp at hn; omega)]
  simp only [List.map_cons, List.length_cons]
  rw [show ln + 1 + (r.length : Int) = ln + ((r.length + 1 : Nat) : Int) by omega]
theorem pageOf_len : ∀ (rows : List (Nat × List Nat)) (x : Nat × List Nat), (∀ y ∈ x :: rows, GoodW y.2) → rows.length + 1 ≤ (pageOf (x :: rows)).length
 | [], x, h => by
  have g := (h x (List.mem_cons_self ..)).ne
  show 1 ≤ (List.replicate x.1 32 ++ x.2).length
  rw [List.length_append]
  have := List.length_pos_iff.mpr g
  omega
 | y :: r, x, h => by
  have := pageOf_len r y fun z hz => h z (List.mem_cons_of_mem _ hz)
  show _ ≤ (List.replicate x.1 32 ++ x.2 ++ 10 :: pageOf (y :: r)).length
  rw [List.length_append, List.length_cons, List.length_cons]
  omega
noncomputable abbrev rowS (x : Nat × List Nat) : Str := ⟨(List.replicate x.1 32 ++ x.2).toArray⟩
theorem join_rows : ∀ (rows : List (Nat × List Nat)) (x : Nat × List Nat), (Str.join ⟨#[10]⟩ ((x :: rows).map rowS)).cps.toList = pageOf (x :: rows)
 | [], x => by simp [Str.join, pageOf]
 | y :: r, x => by
  show (rowS x ++ ⟨#[10]⟩ ++ Str.join ⟨#[10]⟩ ((y :: r).map rowS)).cps.toList = _
  rw [Str.cps_append, Array.toList_append, Str.cps_append, Array.toList_append, join_rows r y]
  show _ = List.replicate x.1 32 ++ x.2 ++ 10 :: pageOf (y :: r)
  simp
theorem first_part {c : Nat} : ∀ {a b r s : List Nat}, c ∉ a → c ∉ b → a ++ c :: r = b ++ c :: s → a = b ∧ r = s
 | [], [], r, s, _, _, h => ⟨rfl, by simpa using h⟩
 | [], y :: b, r, s, _, hb, h => by
  have : c = y := (List.cons.inj h).1
  exact absurd (this ▸ List.mem_cons_self ..) hb
 | x :: a, [], r, s, ha, _, h => by
  have : x = c := (List.cons.inj h).1
  exact absurd (this ▸ List.mem_cons_self ..) ha
 | x :: a, y :: b, r, s, ha, hb, h => by
  rcases List.cons.inj h with ⟨h1, h2⟩
  rcases first_part (fun q => ha (List.mem_cons_of_mem _ q)) (fun q => hb (List.mem_cons_of_mem _ q)) h2 with ⟨e1, e2⟩
  exact ⟨by rw [h1, e1], e2⟩
theorem parts_one {c : Nat} : ∀ (ps qs : List Str), ps ≠ [] → qs ≠ [] → (∀ p ∈ ps, c ∉ p.cps.toList) → (∀ q ∈ qs, c ∉ q.cps.toList) → (Str.join ⟨#[c]⟩ ps).cps.toList = (Str.join ⟨#[c]⟩ qs).cps.toList → ps = qs
 | [], _, h, _, _, _, _ => absurd rfl h
 | _, [], _, h, _, _, _ => absurd rfl h
 | [p], [q], _, _, _, _, h => by rw [Str.ext' (Array.ext' (show p.cps.toList = q.cps.toList from h))]
 | [p], q :: q' :: r, _, _, hp, _, h => by
  have h2 : p.cps.toList = (q ++ ⟨#[c]⟩ ++ Str.join ⟨#[c]⟩ (q' :: r)).cps.toList := h
  exfalso
  refine hp p (List.mem_cons_self ..) ?_
  rw [h2, Str.cps_append, Array.toList_append, Str.cps_append, Array.toList_append]
  simp
 | p :: p' :: s, [q], _, _, _, hq, h => by
  have h2 : (p ++ ⟨#[c]⟩ ++ Str.join ⟨#[c]⟩ (p' :: s)).cps.toList = q.cps.toList := h
  exfalso
  refine hq q (List.mem_cons_self ..) ?_
  rw [← h2, Str.cps_append, Array.toList_append, Str.cps_append, Array.toList_append]
  simp
 | p :: p' :: s, q :: q' :: r, _, _, hp, hq, h => by
  have h2 : (p ++ ⟨#[c]⟩ ++ Str.join ⟨#[c]⟩ (p' :: s)).cps.toList = (q ++ ⟨#[c]⟩ ++ Str.join ⟨#[c]⟩ (q' :: r)).cps.toList := h
  rw [Str.cps_append, Array.toList_append, Str.cps_append, Array.toList_append, Str.cps_append, Array.toList_append, Str.cps_append, Array.toList_append] at h2
  have h3 : p.cps.toList ++ c :: (Str.join ⟨#[c]⟩ (p' :: s)).cps.toList = q.cps.toList ++ c :: (Str.join ⟨#[c]⟩ (q' :: r)).cps.toList := by simpa using h2
  rcases first_part (hp p (List.mem_cons_self ..)) (hq q (List.mem_cons_self ..)) h3 with ⟨e1, e2⟩
  have ih := parts_one (p' :: s) (q' :: r) (by simp) (by simp) (fun z hz => hp z (List.mem_cons_of_mem _ hz)) (fun z hz => hq z (List.mem_cons_of_mem _ hz)) e2
  rw [Str.ext' (Array.ext' e1), ih]
theorem split_ne (x : Str) (c : Nat) : Txt.split x ⟨#[c]⟩ ≠ [] := by
 unfold Txt.split
 split
 ·exact List.cons_ne_nil _ _
 ·split
  ·exact List.cons_ne_nil _ _
  ·rw [StrLaws.partsBetween_eq]
   rcases StrLaws.partsFrom_ne x (Str.length ⟨#[c]⟩) 0 (Builtin.Str.occurrences x ⟨#[c]⟩ 0 x.length (x.length + 1)) with ⟨p, r, e⟩
   rw [e]
   exact List.cons_ne_nil _ _
theorem split_rows {page : Str} {x : Nat × List Nat} {rows : List (Nat × List Nat)} (h : page.cps.toList = pageOf (x :: rows)) (g : ∀ y ∈ x :: rows, GoodW y.2) : Txt.split page (Str.ofString "\n") = (x :: rows).map rowS := by
 have e : Str.ofString "\n" = ⟨#[10]⟩ := by decide
 rw [e]
 refine parts_one _ _ (split_ne page 10) (by simp) (StrLaws.split_free page 10) (fun q hq => ?_) ?_
 ·rcases List.mem_map.mp hq with ⟨y, hy, rfl⟩
  intros hc
  rcases List.mem_append.mp (show (10 : Nat) ∈ List.replicate y.1 32 ++ y.2 from by simpa using hc) with h1 | h1
  ·exact absurd (List.eq_of_mem_replicate h1) (by decide)
  ·have := ((g y hy).each 10 h1).1
   exact absurd this (by decide)
 ·rw [StrLaws.join_split, join_rows, h]
end
section
noncomputable def goodL : List Nat := [60, 62, 47, 38, 59, 35, 120, 97, 98, 99, 100, 101, 102, 103, 108, 109, 112, 116]
theorem goodL_ok : ∀ c ∈ goodL, wsC c = false ∧ c ≠ 34 ∧ c ≠ 92 ∧ c < 1114112 ∧ c ≠ 32 := by decide
noncomputable def seen (l : List Nat) (a s m : Nat) : Bool := l.all (fun c => decide (c ∈ goodL)) && decide (l.count 38 = a) && decide (l.count 47 = s) && decide (l.length ≤ m)
theorem seen_app {l r : List Nat} {a b s t m n : Nat} (h1 : seen l a s m = true) (h2 : seen r b t n = true) : seen (l ++ r) (a + b) (s + t) (m + n) = true := by
 unfold seen at *
 simp only [Bool.and_eq_true, decide_eq_true_eq, List.all_append, List.count_append, List.length_append] at *
 rcases h1 with ⟨⟨⟨a1, a2⟩, a3⟩, a4⟩
 rcases h2 with ⟨⟨⟨b1, b2⟩, b3⟩, b4⟩
 exact ⟨⟨⟨⟨a1, b1⟩, by omega⟩, by omega⟩, by omega⟩
theorem seen_ends {k : Int} (h : 0 ≤ k ∧ k < 6) : seen [60, (97 + k).toNat, 62] 0 0 3 = true ∧ seen [60, 47, (97 + k).toNat, 62] 0 1 4 = true :=
 int_casesN (N := 6) (P := fun k => seen [60, (97 + k).toNat, 62] 0 0 3 = true ∧ seen [60, 47, (97 + k).toNat, 62] 0 1 4 = true) (by decide +kernel) h
theorem seen_rf0 : ∀ a : Fin 4, ∀ b : Fin 3, seen (List.replicate (1 + (b.val : Int)).toNat (refOf (a.val : Int)).cps.toList).flatten (1 + b.val) 0 15 = true := by decide +kernel
theorem seen_rf (n : Int) : seen (rfN n) (rxD n).toNat 0 15 = true := by
 have f1 := fm (n.fdiv 60) (m := 4) (by decide)
 have f2 := fm (n.fdiv 240) (m := 3) (by decide)
 unfold rfN kxD rxD
 revert f1 f2
 generalize (n.fdiv 60).fmod 4 = a
 generalize (n.fdiv 240).fmod 3 = b
 intros f1 f2
 refine int_casesN (N := 4) (P := fun a => seen (List.replicate (1 + b).toNat (refOf a).cps.toList).flatten (1 + b).toNat 0 15 = true) (fun i => int_casesN (N := 3) (P := fun b => seen (List.replicate (1 + b).toNat (refOf (i.val : Int)).cps.toList).flatten (1 + b).toNat 0 15 = true) (fun j => ?_) f2) f1
 have := seen_rf0 i j
 rw [show (1 + (j.val : Int)).toNat = 1 + j.val by omega] at this ⊢
 exact this
theorem seen_closers (ns : List Int) : ∀ l : List Int, (∀ k ∈ l, 0 ≤ k ∧ k < 6) → seen ((l.map fun k => (3, k)).flatMap (tkI ns)) 0 l.length (4 * l.length) = true
 | [], _ => rfl
 | k :: l, h => by
  have h1 := (seen_ends (h k (List.mem_cons_self ..))).2
  have h2 := seen_closers ns l fun x hx => h x (List.mem_cons_of_mem _ hx)
  have := seen_app h1 h2
  rw [List.map_cons, List.flatMap_cons, List.length_cons]
  rw [show l.length + 1 = 1 + l.length by omega, show 4 * (1 + l.length) = 4 + 4 * l.length by omega]
  exact this
theorem seen_row (ns : List Int) {Ps : List (List Int)} (hPs : PsOk Ps) {pa : List Int × List Int} (h : pa ∈ pairsP Ps) :
  seen ((rowTk pa).flatMap (tkI ns)) (rxD (nodeN ns pa.1)).toNat (pa.1.drop (pa.2.length - 1)).length 42 = true := by
 have hp := pairs_mem hPs h
 have hl := hPs.last hp
 have hb := (hPs.each _ hp).2.2.2
 have h6 := (hPs.each _ hp).2.1
 unfold rowTk
 rw [List.flatMap_append]
 have e1 : [(0, lastI pa.1), (1, lastI pa.1)].flatMap (tkI ns) = [60, (97 + lastI pa.1).toNat, 62] ++ rfN (nodeN ns pa.1) := by simp [tkI, nodeN]
 rw [e1]
 have a1 := seen_app (seen_app (seen_ends hl).1 (seen_rf (nodeN ns pa.1))) (seen_closers ns (pa.1.drop (pa.2.length - 1)).reverse fun k hk => hb k (List.mem_of_mem_drop (List.mem_reverse.mp hk)))
 rw [List.length_reverse] at a1
 have hd : (pa.1.drop (pa.2.length - 1)).length ≤ 6 := by rw [List.length_drop]; omega
 unfold seen at a1 ⊢
 simp only [Bool.and_eq_true, decide_eq_true_eq] at a1 ⊢
 rcases a1 with ⟨⟨⟨b1, b2⟩, b3⟩, b4⟩
 exact ⟨⟨⟨b1, by omega⟩, by omega⟩, by omega⟩
theorem goodW_row (ns : List Int) {Ps : List (List Int)} (hPs : PsOk Ps) : ∀ y ∈ rowsL ns Ps, GoodW y.2 ∧ y.2.length ≤ 42 ∧ y.2.head? = some 60 := by
 intros y hy
 unfold rowsL at hy
 rcases List.mem_map.mp hy with ⟨pa, hpa, rfl⟩
 have hs := seen_row ns hPs hpa
 unfold seen at hs
 simp only [Bool.and_eq_true, decide_eq_true_eq, List.all_eq_true] at hs
 rcases hs with ⟨⟨⟨b1, b2⟩, b3⟩, b4⟩
 have hh : ((rowTk pa).flatMap (tkI ns)).head? = some 60 := by simp [rowTk, tkI]
 have hne : (rowTk pa).flatMap (tkI ns) ≠ [] := fun e => by
  rw [e] at hh
  cases hh
 refine ⟨⟨hne, fun c hc => ?_⟩, b4, hh⟩
 have := goodL_ok c (b1 c hc)
 exact ⟨this.1, this.2.1, this.2.2.1⟩
end
section
theorem item_nat {x : Str} {i c : Nat} (h : x.cps.toList[i]? = some c) : Txt.item x (i : Int) = ⟨#[c]⟩ := by
 have h2 : x.cps[((i : Nat) : Int).toNat]? = some c := by rw [Int.toNat_natCast, ← Array.getElem?_toList]; exact h
 have h3 : Txt.charAt x (i : Int) = some c := StrLaws.at_nonneg (by omega) h2
 unfold Txt.item
 rw [h3]
 rfl
theorem blank_ne {c : Nat} (h : c ≠ 32) : ¬ (⟨#[c]⟩ : Str) = Str.ofString " " := by
 rw [show Str.ofString " " = ⟨#[32]⟩ by decide]
 intros e
 have := congrArg (fun s : Str => s.cps.toList) e
 simp at this
 exact h this
theorem row_ok {d : Nat} {W : List Nat} (g : GoodW W) (hl : W.length ≤ 42) (hh : W.head? = some 60) (hd : d ≤ 9) : RowOk (rowS (d, W)) d := by
 have hlen : (rowS (d, W)).length = d + W.length := by
  show (List.replicate d 32 ++ W).toArray.size = _
  simp
 have hW : 1 ≤ W.length := by
  have := List.length_pos_iff.mpr g.ne
  omega
 refine ⟨by rw [hlen]; omega, by rw [hlen]; omega, fun i hi => ?_, ?_, ?_⟩
 ·rw [item_nat (c := 32) (by show (List.replicate d 32 ++ W)[i]? = _; rw [List.getElem?_append_left (by simpa using hi)]; simp [hi])]
  decide
 ·rw [item_nat (c := 60) (by
   show (List.replicate d 32 ++ W)[d]? = _
   rw [List.getElem?_append_right (by simp)]
   simp only [List.length_replicate, Nat.sub_self]
   rw [← List.head?_eq_getElem?]
   exact hh)]
  exact blank_ne (by decide)
 ·have e : ((rowS (d, W)).length : Int) - 1 = ((d + W.length - 1 : Nat) : Int) := by rw [hlen]; omega
  rw [e]
  have hlt : W.length - 1 < W.length := by omega
  have hc : W[W.length - 1]? = some (W[W.length - 1]'hlt) := List.getElem?_eq_getElem hlt
  rw [item_nat (c := W[W.length - 1]'hlt) (by
   show (List.replicate d 32 ++ W)[d + W.length - 1]? = _
   rw [List.getElem?_append_right (by simp; omega)]
   simp only [List.length_replicate]
   rw [show d + W.length - 1 - d = W.length - 1 by omega]
   exact hc)]
  refine blank_ne fun e => ?_
  have h3 := (g.each _ (List.getElem_mem hlt)).1
  rw [e] at h3
  exact absurd h3 (by decide)
theorem rowsL_len (ns : List Int) (Ps : List (List Int)) : (rowsL ns Ps).length = 6 := by
 unfold rowsL
 rw [List.length_map, List.length_zip, List.length_append, List.length_drop, orderP_len]
 rfl
theorem rowsL_fst (ns : List Int) (Ps : List (List Int)) : (rowsL ns Ps).map (·.1) = depthsP Ps := by
 unfold rowsL depthsP
 rw [List.map_map]
 have h1 : ((orderP Ps).zip ((orderP Ps).drop 1 ++ [[]])).map (fun pa => pa.1) = orderP Ps := by
  rw [← List.unzip_fst, List.unzip_zip (by rw [List.length_append, List.length_drop, orderP_len]; rfl)]
 show (pairsP Ps).map (fun pa => pa.1.length - 1) = _
 conv => rhs; rw [← h1]
 rw [List.map_map]
 rfl
theorem due_rows (ns : List Int) {Ps : List (List Int)} (hPs : PsOk Ps) : (dueF ns Ps).map (·.cps.toList) = (rowsL ns Ps).map (·.2) := by
 unfold dueF rowsL
 rw [List.map_map, List.map_map]
 refine List.map_congr_left fun pa hpa => ?_
 exact word_tk ns hPs hpa
theorem rowsL_cons (ns : List Int) (Ps : List (List Int)) : ∃ x r, rowsL ns Ps = x :: r ∧ r.length = 5 := by
 have := rowsL_len ns Ps
 cases h : rowsL ns Ps with
 | nil => rw [h] at this; cases this
 | cons x r => rw [h] at this; exact ⟨x, r, rfl, by simpa using this⟩
theorem rows_facts (ns : List Int) : RowsOk (Txt.split (pageS b3D b1L ns) (Str.ofString "\n")) (depthsP (pathsTo ns 5)) := by
 rcases rowsL_cons ns (pathsTo ns 5) with ⟨x, r, e, hr⟩
 have hg := goodW_row ns (pathsTo_psok ns)
 have hpg := page_rows ns
 rw [e] at hpg hg
 have hs := split_rows hpg fun y hy => (hg y hy).1
 have T := tree_facts ns
 have hd6 : (depthsP (pathsTo ns 5)).length = 6 := by unfold depthsP; rw [List.length_map]; exact orderP_len _
 refine ⟨by rw [hs, List.length_map, List.length_cons, hr], hd6, fun i rw1 k h1 h2 => ?_, fun i k h1 h2 => ?_⟩
 ·rw [hs, List.getElem?_map] at h1
  rw [← rowsL_fst ns, e, List.getElem?_map] at h2
  cases hy : (x :: r)[i]? with
  | none => rw [hy] at h1; cases h1
  | some y =>
   rw [hy] at h1 h2
   have e1 : rowS y = rw1 := by simpa using h1
   have e2 : y.1 = k := by simpa using h2
   have hm := List.mem_of_getElem? hy
   rcases hg y hm with ⟨g1, g2, g3⟩
   have hk9 : y.1 ≤ 9 := T.le y.1 (by rw [← rowsL_fst ns, e]; exact List.mem_map_of_mem hm)
   rw [← e1, ← e2]
   exact ⟨row_ok g1 g2 g3 hk9, hk9⟩
 ·have hi : i < 6 := by
   rcases Nat.lt_or_ge i (depthsP (pathsTo ns 5)).length with h | h
   ·omega
   ·rw [List.getElem?_eq_none h] at h2; cases h2
  have := T.pos i h1 hi
  rw [List.getD_eq_getElem?_getD, h2] at this
  exact this
theorem words_facts (ns : List Int) : wordsF ((pageS b3D b1L ns).length + 1) (pageS b3D b1L ns).cps.toList 1 = ((dueF ns (pathsTo ns 5)).map (·.cps.toList), 6) := by
 rcases rowsL_cons ns (pathsTo ns 5) with ⟨x, r, e, hr⟩
 have hg := goodW_row ns (pathsTo_psok ns)
 have hpg := page_rows ns
 rw [due_rows ns (pathsTo_psok ns)]
 rw [e] at hpg hg ⊢
 have hl : 6 ≤ (pageS b3D b1L ns).length := by
  have h1 := pageOf_len r x fun y hy => (hg y hy).1
  rw [← hpg, hr] at h1
  show 6 ≤ (pageS b3D b1L ns).cps.size
  simpa using h1
 rw [hpg, words_rows r x _ 1 (fun y hy => (hg y hy).1) (by omega), hr]
 rfl
end
section
noncomputable def dStep (st : List Int × List Int) (i : Nat) (e : Int) : List Int × List Int :=
 (match st.2.getLast? with
  | none => st.1 ++ [0]
  | some h => (st.1 ++ [1]).set h.toNat ((st.1 ++ [1]).getD h.toNat 0 + 1), pickTo (st.2 ++ [(i : Int)]) ((st.2.length : Int) + 1 - e))
noncomputable def dG : Nat → List Int → List Int × List Int
 | 0, _ => ([], [])
 | i + 1, es => dStep (dG i es) i (es.getD i 0)
theorem deg_dG (zs : List Str) : ∀ n, n ≤ zs.length → degF n zs = dG n (zs.map slashes)
 | 0, _ => rfl
 | n + 1, h => by
  show degStep (degF n zs) n (zs.getD n Str.empty) = dStep (dG n (zs.map slashes)) n ((zs.map slashes).getD n 0)
  rw [deg_dG zs n (by omega)]
  have e : (zs.map slashes).getD n 0 = slashes (zs.getD n Str.empty) := by
   rw [List.getD_eq_getElem?_getD, List.getElem?_map, List.getD_eq_getElem?_getD, List.getElem?_eq_getElem (by omega)]
   rfl
  rw [e]
  rfl
theorem cnt_count (c : Nat) : ∀ l : List Nat, cnt c l = (l.count c : Int)
 | [] => rfl
 | x :: r => by
  rw [cnt_cons, cnt_count c r, List.count_cons]
  by_cases h : x = c <;> simp [h] <;> omega
noncomputable def pairsL : List (Nat × Nat) := [(0, 1), (0, 2), (1, 2), (0, 3), (1, 3), (2, 3), (0, 4), (1, 4), (2, 4), (3, 4), (0, 5), (1, 5), (2, 5), (3, 5), (4, 5)]
noncomputable def pairSum (f : Nat → Nat → Int) : Int := pairsL.foldl (fun s p => s + f p.1 p.2) 0
theorem step4 (bI : List Nat) (cs ds : List Int) (late soon : Nat) (a b c d : Int) : stepF bI cs ds late [a, b, c, d] soon = [a + apartF bI soon late * 1, b + apartF bI soon late * (cs.getD soon 0 * cs.getD late 0), c + apartF bI soon late * (ds.getD soon 0 * ds.getD late 0), d + apartF bI soon late * (ds.getD soon 0 + ds.getD late 0)] := rfl
theorem outer_eq (bI : List Nat) (cs ds : List Int) : outerF bI cs ds 5 = [pairSum fun j i => apartF bI j i * 1, pairSum fun j i => apartF bI j i * (cs.getD j 0 * cs.getD i 0), pairSum fun j i => apartF bI j i * (ds.getD j 0 * ds.getD i 0), pairSum fun j i => apartF bI j i * (ds.getD j 0 + ds.getD i 0)] := by
 simp only [outerF, innerF, step4, pairSum, pairsL, List.foldl_cons, List.foldl_nil]
abbrev Trm := Int × Nat × Nat
noncomputable def evalT (w : List Int) (ts : List Trm) : Int := (ts.map fun t => t.1 * (w.getD t.2.1 0 * w.getD t.2.2 0)).sum
theorem evalT_append (w : List Int) (a b : List Trm) : evalT w (a ++ b) = evalT w a + evalT w b := by
 unfold evalT
 rw [List.map_append, List.sum_append]
noncomputable def co (ts : List Trm) (k l : Nat) : Int := ((ts.filter fun t => decide ((t.2.1 = k ∧ t.2.2 = l) ∨ (t.2.1 = l ∧ t.2.2 = k))).map (·.1)).sum
noncomputable def coSum (w : List Int) (f : Nat → Nat → Int) : Int := pairSum fun k l => f k l * (w.getD k 0 * w.getD l 0)
theorem co_cons (t : Trm) (ts : List Trm) (k l : Nat) : co (t :: ts) k l = (if (t.2.1 = k ∧ t.2.2 = l) ∨ (t.2.1 = l ∧ t.2.2 = k) then t.1 else 0) + co ts k l := by
 unfold co
 by_cases h : (t.2.1 = k ∧ t.2.2 = l) ∨ (t.2.1 = l ∧ t.2.2 = k)
 ·rw [List.filter_cons_of_pos (by simpa using h), List.map_cons, List.sum_cons, if_pos h]
 ·rw [List.filter_cons_of_neg (by simpa using h), if_neg h, Int.zero_add]
noncomputable def trmOk (t : Trm) : Bool := decide (t.2.1 < 6) && decide (t.2.2 < 6) && decide (t.2.1 ≠ t.2.2)
theorem fold_add (f g u : Nat × Nat → Int) : ∀ (l : List (Nat × Nat)) (s t : Int), l.foldl (fun s p => s + (f p + g p) * u p) (s + t) = l.foldl (fun s p => s + f p * u p) s + l.foldl (fun s p => s + g p * u p) t
 | [], _, _ => rfl
 | p :: l, s, t => by
  rw [List.foldl_cons, List.foldl_cons, List.foldl_cons, ← fold_add f g u l, Int.add_mul, Int.add_assoc, Int.add_assoc, Int.add_left_comm t]
theorem coSum_add (w : List Int) (f g : Nat → Nat → Int) : coSum w (fun k l => f k l + g k l) = coSum w f + coSum w g :=
 fold_add (fun p => f p.1 p.2) (fun p => g p.1 p.2) (fun p => w.getD p.1 0 * w.getD p.2 0) pairsL 0 0
theorem fold_if (c : Nat × Nat → Bool) (a : Int) (u : Nat × Nat → Int) : ∀ (l : List (Nat × Nat)) (s : Int), l.foldl (fun s p => s + (if c p = true then a else 0) * u p) s = s + a * ((l.filter c).map u).sum
 | [], s => (Int.add_zero s).symm.trans (congrArg (s + ·) (Int.mul_zero a).symm)
 | p :: l, s => by
  rw [List.foldl_cons, fold_if c a u l, List.filter_cons]
  cases c p
  ·rw [if_neg (by decide), if_neg (by decide), Int.zero_mul, Int.add_zero]
  ·rw [if_pos rfl, if_pos rfl, List.map_cons, List.sum_cons, Int.mul_add, Int.add_assoc]
noncomputable def meetP (x y : Nat) (p : Nat × Nat) : Bool := decide ((x = p.1 ∧ y = p.2) ∨ (x = p.2 ∧ y = p.1))
theorem pick_pair : ∀ x : Fin 6, ∀ y : Fin 6, x ≠ y → pairsL.filter (meetP x.1 y.1) = [(min x.1 y.1, max x.1 y.1)] := by decide
theorem coSum_one (w : List Int) (x y : Nat) (hx : x < 6) (hy : y < 6) (a : Int) (h : x ≠ y) : coSum w (fun k l => if (x = k ∧ y = l) ∨ (x = l ∧ y = k) then a else 0) = a * (w.getD x 0 * w.getD y 0) := by
 have e : coSum w (fun k l => if (x = k ∧ y = l) ∨ (x = l ∧ y = k) then a else 0) = pairsL.foldl (fun s p => s + (if meetP x y p = true then a else 0) * (w.getD p.1 0 * w.getD p.2 0)) 0 := by
  unfold coSum pairSum meetP
  simp only [decide_eq_true_eq]
 rw [e, fold_if (meetP x y) a fun p => w.getD p.1 0 * w.getD p.2 0, pick_pair ⟨x, hx⟩ ⟨y, hy⟩ (fun e => h (congrArg Fin.val e)), Int.zero_add, List.map_cons, List.map_nil, List.sum_cons, List.sum_nil, Int.add_zero]
 rcases Nat.lt_or_gt_of_ne h with q | q
 ·dsimp only
  rw [Nat.min_eq_left (Nat.le_of_lt q), Nat.max_eq_right (Nat.le_of_lt q)]
 ·dsimp only
  rw [Nat.min_eq_right (Nat.le_of_lt q), Nat.max_eq_left (Nat.le_of_lt q), Int.mul_comm (w.getD y 0)]
theorem coSum_zero (w : List Int) : coSum w (fun _ _ => 0) = 0 := by
 unfold coSum pairSum pairsL
 simp
theorem eval_co (w : List Int) : ∀ ts : List Trm, ts.all trmOk = true → evalT w ts = coSum w (co ts)
 | [], _ => by
  have : coSum w (co []) = coSum w (fun _ _ => 0) := rfl
  rw [this, coSum_zero]; rfl
 | t :: ts, h => by
  rw [List.all_cons, Bool.and_eq_true] at h
  rcases h with ⟨h1, h2⟩
  unfold trmOk at h1
  simp only [Bool.and_eq_true, decide_eq_true_eq] at h1
  rcases h1 with ⟨⟨a1, a2⟩, a3⟩
  have e : co (t :: ts) = fun k l => (if (t.2.1 = k ∧ t.2.2 = l) ∨ (t.2.1 = l ∧ t.2.2 = k) then t.1 else 0) + co ts k l := by
   funext k l
   exact co_cons t ts k l
  rw [e, coSum_add, ← eval_co w ts h2, coSum_one w t.2.1 t.2.2 a1 a2 t.1 a3]
  rfl
theorem pairSum_eval (w : List Int) (A : Nat → Nat → Int) (v : Nat → Nat) : pairSum (fun j i => A j i * (w.getD (v j) 0 * w.getD (v i) 0)) = evalT w (pairsL.map fun p => (A p.1 p.2, v p.1, v p.2)) := by
 unfold pairSum evalT
 rw [List.map_map]
 have : ∀ (l : List (Nat × Nat)) (s : Int), l.foldl (fun s p => s + A p.1 p.2 * (w.getD (v p.1) 0 * w.getD (v p.2) 0)) s = s + (l.map ((fun t : Trm => t.1 * (w.getD t.2.1 0 * w.getD t.2.2 0)) ∘ fun p => (A p.1 p.2, v p.1, v p.2))).sum := by
  intros l
  induction l with
  | nil => intros s; simp
  | cons p l ih =>
   intros s
   rw [List.foldl_cons, ih, List.map_cons, List.sum_cons]
   simp only [Function.comp]
   omega
 rw [this, Int.zero_add]
end
section
noncomputable def lastsL (l : List (List Int)) : List Nat := l.map fun o => (lastI o).toNat
noncomputable def inL (Ps : List (List Int)) (p : List Int) : List Nat := lastsL (Ps.filter fun o => decide (lastI p ∈ o))
noncomputable def outL (Ps : List (List Int)) (p : List Int) : List Nat := lastsL (Ps.filter fun o => !decide (lastI p ∈ o))
noncomputable def sumAt (w : List Int) (l : List Nat) : Int := (l.map fun x => w.getD x 0).sum
noncomputable def tR (Ps : List (List Int)) : List Trm := (Ps.drop 1).flatMap fun p => (inL Ps p).flatMap fun x => (outL Ps p).map fun y => (1, x, y)
noncomputable def tL (Ps : List (List Int)) : List Trm := pairsL.map fun p => (apartF (depthsP Ps) p.1 p.2, (whoP Ps).getD p.1 0, (whoP Ps).getD p.2 0)
theorem sumAt_split (w : List Int) (q : List Int → Bool) : ∀ l : List (List Int), sumAt w (lastsL (l.filter q)) + sumAt w (lastsL (l.filter fun o => !q o)) = sumAt w (lastsL l)
 | [] => rfl
 | o :: l => by
  have ih := sumAt_split w q l
  unfold sumAt lastsL at *
  cases h : q o
  ·rw [List.filter_cons_of_neg (by simp [h]), List.filter_cons_of_pos (by simp [h])]
   simp only [List.map_cons, List.sum_cons]
   omega
  ·rw [List.filter_cons_of_pos h, List.filter_cons_of_neg (by simp [h])]
   simp only [List.map_cons, List.sum_cons]
   omega
theorem len6 {α : Type} : ∀ {v : List α}, v.length = 6 → ∃ a b c d e g, v = [a, b, c, d, e, g]
 | [a, b, c, d, e, g], _ => ⟨a, b, c, d, e, g, rfl⟩
theorem sumAt_all {w : List Int} (h : w.length = 6) : sumAt w [0, 1, 2, 3, 4, 5] = w.sum := by
 rcases len6 h with ⟨a, b, c, d, e, g, rfl⟩
 rfl
theorem evalT_row (w : List Int) (x : Nat) : ∀ b : List Nat, evalT w (b.map fun y => (1, x, y)) = w.getD x 0 * sumAt w b
 | [] => by simp [evalT, sumAt]
 | y :: b => by
  have ih := evalT_row w x b
  unfold evalT sumAt at *
  simp only [List.map_cons, List.sum_cons, Int.mul_add, Int.one_mul] at *
  omega
theorem evalT_prod (w : List Int) (b : List Nat) : ∀ a : List Nat, evalT w (a.flatMap fun x => b.map fun y => (1, x, y)) = sumAt w a * sumAt w b
 | [] => by simp [evalT, sumAt]
 | x :: a => by
  rw [List.flatMap_cons, evalT_append, evalT_prod w b a, evalT_row]
  unfold sumAt
  simp only [List.map_cons, List.sum_cons, Int.add_mul]
theorem ties_eval {Ps : List (List Int)} {w : List Int} (hl : lastsL Ps = [0, 1, 2, 3, 4, 5]) (hw : w.length = 6) : tiesF Ps w = evalT w (tR Ps) := by
 unfold tiesF tR
 have key : ∀ p, tiePart Ps w p * (w.sum - tiePart Ps w p) = evalT w ((inL Ps p).flatMap fun x => (outL Ps p).map fun y => (1, x, y)) := fun p => by
  have e1 : tiePart Ps w p = sumAt w (inL Ps p) := by
   unfold tiePart sumAt inL lastsL
   rw [List.map_map]
   rfl
  have e2 := sumAt_split w (fun o => decide (lastI p ∈ o)) Ps
  rw [hl, sumAt_all hw] at e2
  have e3 : w.sum - tiePart Ps w p = sumAt w (outL Ps p) := by
   rw [e1, ← e2]
   unfold inL outL
   omega
  rw [evalT_prod, ← e3, ← e1]
 generalize Ps.drop 1 = ds
 induction ds with
 | nil => rfl
 | cons p ds ih => rw [List.map_cons, List.sum_cons, List.flatMap_cons, evalT_append, ih, key]
noncomputable def sumOk (Ps : List (List Int)) : Bool :=
 let ds := (dG 6 (endsP Ps)).1
 let A := apartF (depthsP Ps)
 let S := tiesF Ps [1, 1, 1, 1, 1, 1]
 decide (lastsL Ps = [0, 1, 2, 3, 4, 5]) && (tL Ps).all trmOk && (tR Ps).all trmOk && (pairsL.all fun p => decide (co (tL Ps) p.1 p.2 = co (tR Ps) p.1 p.2)) &&
 decide (pairSum (fun j i => A j i * 1) = S) && decide (pairSum (fun j i => A j i * (ds.getD j 0 * ds.getD i 0)) = 4 * S - 55) && decide (pairSum (fun j i => A j i * (ds.getD j 0 + ds.getD i 0)) = 4 * S - 30) &&
 decide (ds.length = 6) && (ds.all fun c => decide (0 ≤ c ∧ c ≤ 1000)) && (whoP Ps).all fun k => decide (k < 6)
abbrev sK (d : Nat) : Prop := ∀ (a : Fin 2) (b : Fin 3) (c : Fin 4), sumOk (treeC a.val b.val c.val d) = true
theorem sK0 : sK 0 := by decide +kernel
theorem sK1 : sK 1 := by decide +kernel
theorem sK2 : sK 2 := by decide +kernel
theorem sK3 : sK 3 := by decide +kernel
theorem sK4 : sK 4 := by decide +kernel
theorem sum_ok (a : Fin 2) (b : Fin 3) (c : Fin 4) : ∀ d : Fin 5, sumOk (treeC a.val b.val c.val d.val) = true
 | ⟨0, _⟩ => sK0 a b c
 | ⟨1, _⟩ => sK1 a b c
 | ⟨2, _⟩ => sK2 a b c
 | ⟨3, _⟩ => sK3 a b c
 | ⟨4, _⟩ => sK4 a b c
end
section
theorem weight_at (ns : List Int) (hN : NsOk ns) {k : Nat} (hk : k < 6) : (ns.map fun n => ((textS n).length : Int)).getD k 0 = ((rxD (ns.getD k 0)).toNat : Int) := by
 have hl : k < ns.length := by rw [hN.len]; exact hk
 have h1 : ns[k]? = some (ns.getD k 0) := by rw [List.getD_eq_getElem?_getD, List.getElem?_eq_getElem hl]; rfl
 rw [List.getD_eq_getElem?_getD, List.getElem?_map, h1]
 show ((textS (ns.getD k 0)).cps.size : Int) = _
 rw [text_size]
theorem count_word (ns : List Int) {Ps : List (List Int)} (hPs : PsOk Ps) {pa : List Int × List Int} (h : pa ∈ pairsP Ps) :
  (Txt.count (wordD ns pa.1 pa.2) (Str.ofString "&") : Int) = ((rxD (nodeN ns pa.1)).toNat : Int) ∧ slashes (wordD ns pa.1 pa.2) = ((pa.1.drop (pa.2.length - 1)).length : Int) := by
 have hs := seen_row ns hPs h
 unfold seen at hs
 simp only [Bool.and_eq_true, decide_eq_true_eq] at hs
 rcases hs with ⟨⟨⟨b1, b2⟩, b3⟩, b4⟩
 constructor
 ·rw [show Str.ofString "&" = ⟨#[38]⟩ by decide, count_cnt, word_tk ns hPs h, cnt_count, b2]
 ·show (Txt.count (wordD ns pa.1 pa.2) (Str.ofString "/") : Int) = _
  rw [show Str.ofString "/" = ⟨#[47]⟩ by decide, count_cnt, word_tk ns hPs h, cnt_count, b3]
theorem pairs_fst (Ps : List (List Int)) : (pairsP Ps).map (·.1) = orderP Ps := by
 show ((orderP Ps).zip ((orderP Ps).drop 1 ++ [[]])).map (fun pa => pa.1) = orderP Ps
 rw [← List.unzip_fst, List.unzip_zip (by rw [List.length_append, List.length_drop, orderP_len]; rfl)]
theorem counts_due (ns : List Int) (hN : NsOk ns) {Ps : List (List Int)} (hPs : PsOk Ps) : countsF (dueF ns Ps) = (whoP Ps).map fun k => (ns.map fun n => ((textS n).length : Int)).getD k 0 := by
 have e : whoP Ps = (pairsP Ps).map fun pa => (lastI pa.1).toNat := by
  unfold whoP
  rw [← pairs_fst Ps, List.map_map]
  rfl
 rw [e]
 unfold countsF dueF
 rw [List.map_map, List.map_map]
 refine List.map_congr_left fun pa hpa => ?_
 have hl := hPs.last (pairs_mem hPs hpa)
 show (Txt.count (wordD ns pa.1 pa.2) (Str.ofString "&") : Int) = (ns.map fun n => ((textS n).length : Int)).getD (lastI pa.1).toNat 0
 rw [(count_word ns hPs hpa).1, weight_at ns hN (by omega)]
 rfl
theorem slashes_due (ns : List Int) {Ps : List (List Int)} (hPs : PsOk Ps) : (dueF ns Ps).map slashes = endsP Ps := by
 unfold dueF endsP
 rw [List.map_map]
 exact List.map_congr_left fun pa hpa => (count_word ns hPs hpa).2
theorem pairSum_map (A : Nat → Nat → Int) (f : Nat → Int) {v : List Nat} (h : v.length = 6) : pairSum (fun j i => A j i * ((v.map f).getD j 0 * (v.map f).getD i 0)) = pairSum (fun j i => A j i * (f (v.getD j 0) * f (v.getD i 0))) := by
 rcases len6 h with ⟨a, b, c, d, e, g, rfl⟩
 rfl
theorem coSum_congr {w : List Int} {f g : Nat → Nat → Int} (h : ∀ p ∈ pairsL, f p.1 p.2 = g p.1 p.2) : coSum w f = coSum w g := by
 unfold coSum pairSum
 have : ∀ (l : List (Nat × Nat)) (s : Int), (∀ p ∈ l, f p.1 p.2 = g p.1 p.2) → l.foldl (fun s p => s + f p.1 p.2 * (w.getD p.1 0 * w.getD p.2 0)) s = l.foldl (fun s p => s + g p.1 p.2 * (w.getD p.1 0 * w.getD p.2 0)) s := by
  intros l
  induction l with
  | nil => intros s _; rfl
  | cons p l ih =>
   intros s hl
   rw [List.foldl_cons, List.foldl_cons, hl p (List.mem_cons_self ..)]
   exact ih _ fun q hq => hl q (List.mem_cons_of_mem _ hq)
 exact this pairsL 0 h
theorem sums_facts (ns : List Int) (hN : NsOk ns) :
  (outerF (depthsP (pathsTo ns 5)) (countsF (dueF ns (pathsTo ns 5))) (degF 6 (dueF ns (pathsTo ns 5))).1 5 =
   [tiesF (pathsTo ns 5) [1, 1, 1, 1, 1, 1], tiesF (pathsTo ns 5) (ns.map fun n => ((textS n).length : Int)), 4 * tiesF (pathsTo ns 5) [1, 1, 1, 1, 1, 1] - 55, 4 * tiesF (pathsTo ns 5) [1, 1, 1, 1, 1, 1] - 30]) ∧
  (∀ c ∈ (degF 6 (dueF ns (pathsTo ns 5))).1, 0 ≤ c ∧ c ≤ 1000) ∧ (degF 6 (dueF ns (pathsTo ns 5))).1.length = 6 := by
 have hPs := pathsTo_psok ns
 have hdl : (dueF ns (pathsTo ns 5)).length = 6 := by unfold dueF; rw [List.length_map, List.length_zip, List.length_append, List.length_drop, orderP_len]; rfl
 have hdeg : degF 6 (dueF ns (pathsTo ns 5)) = dG 6 (endsP (pathsTo ns 5)) := by rw [deg_dG _ 6 (by omega), slashes_due ns hPs]
 have hcs := counts_due ns hN hPs
 rw [hdeg, hcs]
 have hS : sumOk (pathsTo ns 5) = true := by
  rcases tree_of ns with ⟨c2, c3, c4, c5, e⟩
  rw [e]
  exact sum_ok c2 c3 c4 c5
 have hw6 : (ns.map fun n => ((textS n).length : Int)).length = 6 := by rw [List.length_map, hN.len]
 have hv6 : (whoP (pathsTo ns 5)).length = 6 := by unfold whoP; rw [List.length_map]; exact orderP_len _
 generalize (ns.map fun n => ((textS n).length : Int)) = w at hw6
 generalize pathsTo ns 5 = Ps at hS hv6
 unfold sumOk at hS
 simp only [Bool.and_eq_true, decide_eq_true_eq] at hS
 rcases hS with ⟨⟨⟨⟨⟨⟨⟨⟨⟨s1, s2⟩, s3⟩, s4⟩, s5⟩, s6⟩, s7⟩, s8⟩, s9⟩, s10⟩
 refine ⟨?_, fun c hc => ?_, s8⟩
 ·rw [outer_eq, s5, s6, s7]
  have h2 : pairSum (fun j i => apartF (depthsP Ps) j i * (((whoP Ps).map fun k => w.getD k 0).getD j 0 * ((whoP Ps).map fun k => w.getD k 0).getD i 0)) = tiesF Ps w := by
   rw [pairSum_map (apartF (depthsP Ps)) (fun k => w.getD k 0) hv6, pairSum_eval w (apartF (depthsP Ps)) (fun j => (whoP Ps).getD j 0), ties_eval s1 hw6]
   show evalT w (tL Ps) = _
   rw [eval_co w _ s2, eval_co w _ s3]
   refine coSum_congr fun p hp => ?_
   have := List.all_eq_true.mp s4 p hp
   simpa using this
  rw [h2]
 ·have := List.all_eq_true.mp s9 c hc
  simpa using this
theorem due_len (ns : List Int) {Ps : List (List Int)} (hPs : PsOk Ps) : ∀ z ∈ dueF ns Ps, PyData.strOk z = true ∧ z.length ≤ 1000 := by
 intros z hz
 unfold dueF at hz
 rcases List.mem_map.mp hz with ⟨pa, hpa, rfl⟩
 have hs := seen_row ns hPs hpa
 unfold seen at hs
 simp only [Bool.and_eq_true, decide_eq_true_eq, List.all_eq_true] at hs
 rcases hs with ⟨⟨⟨b1, b2⟩, b3⟩, b4⟩
 rw [← word_tk ns hPs hpa] at b1 b4
 constructor
 ·unfold PyData.strOk
  rw [Array.all_eq_true']
  intros c hc
  have := (goodL_ok c (b1 c (Array.mem_toList_iff.mpr hc))).2.2.2.1
  simpa using this
 ·show (wordD ns pa.1 pa.2).cps.size ≤ 1000
  rw [Array.length_toList] at b4
  omega
theorem law_facts (ns : List Int) (hN : NsOk ns) : LawFacts b3D b1L ns := by
 have hp := told_pcs ns
 have T := tree_facts ns
 have hPs := pathsTo_psok ns
 have hcnt : (toldP ns (pathsTo ns 5) 6 [0]).length ≤ 46 := by
  have h1 := hp.cnt
  have h2 := T.len
  rw [T.tk] at h1
  omega
 have hsum : ∀ zs : List Str, (∀ z ∈ zs, z.length ≤ 40) → (zs.map (·.length)).sum ≤ 40 * zs.length := by
  intros zs
  induction zs with
  | nil => intros _; simp
  | cons z zs ih =>
   intros h
   have h1 := h z (List.mem_cons_self ..)
   have h2 := ih fun y hy => h y (List.mem_cons_of_mem _ hy)
   rw [List.map_cons, List.sum_cons, List.length_cons]
   omega
 have hs := hsum _ hp.pcs.len
 have hsz : (toldS ns).cps.toList.length ≤ 1840 := by
  rw [join_chars]
  have : ∀ zs : List Str, (zs.flatMap fun z => z.cps.toList).length = (zs.map (·.length)).sum := by
   intros zs
   induction zs with
   | nil => rfl
   | cons z zs ih => rw [List.flatMap_cons, List.length_append, ih, List.map_cons, List.sum_cons]; rfl
  rw [this]
  omega
 have hpg := page_rows ns
 rcases rowsL_cons ns (pathsTo ns 5) with ⟨x, r, e, hr⟩
 have hg := goodW_row ns hPs
 have hpl : ∀ (r : List (Nat × List Nat)) (x : Nat × List Nat), (∀ y ∈ x :: r, y.1 ≤ 9 ∧ y.2.length ≤ 42) → (pageOf (x :: r)).length ≤ 52 * (r.length + 1) := by
  intros r
  induction r with
  | nil =>
   intros x h
   have := h x (List.mem_cons_self ..)
   show (List.replicate x.1 32 ++ x.2).length ≤ _
   rw [List.length_append, List.length_replicate]
   simp
   omega
  | cons y r ih =>
   intros x h
   have h1 := h x (List.mem_cons_self ..)
   have h2 := ih y fun z hz => h z (List.mem_cons_of_mem _ hz)
   show (List.replicate x.1 32 ++ x.2 ++ 10 :: pageOf (y :: r)).length ≤ _
   rw [List.length_append, List.length_append, List.length_replicate, List.length_cons, List.length_cons]
   omega
 have hrow : ∀ y ∈ x :: r, y.1 ≤ 9 ∧ y.2.length ≤ 42 := fun y hy => by
  rw [← e] at hy
  exact ⟨T.le _ (by rw [← rowsL_fst ns]; exact List.mem_map_of_mem hy), (hg y hy).2.1⟩
 have hpq : ∀ (r : List (Nat × List Nat)) (x : Nat × List Nat), (∀ y ∈ x :: r, GoodW y.2) → ∀ c ∈ pageOf (x :: r), c ≠ 34 ∧ c ≠ 92 := by
  intros r
  induction r with
  | nil =>
   intros x h c hc
   rcases List.mem_append.mp (show c ∈ List.replicate x.1 32 ++ x.2 from hc) with h1 | h1
   ·rw [List.eq_of_mem_replicate h1]; decide
   ·exact ((h x (List.mem_cons_self ..)).each c h1).2
  | cons y r ih =>
   intros x h c hc
   rcases List.mem_append.mp (show c ∈ (List.replicate x.1 32 ++ x.2) ++ 10 :: pageOf (y :: r) from hc) with h1 | h1
   ·rcases List.mem_append.mp h1 with h1 | h1
    ·rw [List.eq_of_mem_replicate h1]; decide
    ·exact ((h x (List.mem_cons_self ..)).each c h1).2
   ·rcases List.mem_cons.mp h1 with h1 | h1
    ·rw [h1]; decide
    ·exact ih y (fun z hz => h z (List.mem_cons_of_mem _ hz)) c h1
 have hsf := sums_facts ns hN
 rw [e] at hpg hg
 exact {
  tlen := by omega
  tsum := by omega
  tsz := by rw [Array.length_toList] at hsz; omega
  b3len := fun c hc => (pc_ok c (told_alpha ns c hc)).2
  plen := by
   have h1 := hpl r x hrow
   rw [← hpg, hr, Array.length_toList] at h1
   show (pageS b3D b1L ns).cps.size ≤ 3000
   omega
  pnq := fun c hc => hpq r x (fun y hy => (hg y hy).1) c (by rw [← hpg]; exact hc)
  words := words_facts ns
  dok := fun z hz => (due_len ns hPs z hz).1
  dlen := fun z hz => (due_len ns hPs z hz).2
  cok := fun c hc => by
   unfold countsF at hc
   rcases List.mem_map.mp hc with ⟨z, hz, rfl⟩
   have hb := count_bounds z (Str.ofString "&")
   have := (due_len ns hPs z hz).2
   unfold dueF at hz
   rcases List.mem_map.mp hz with ⟨pa, hpa, rfl⟩
   rw [(count_word ns hPs hpa).1]
   have := fm ((nodeN ns pa.1).fdiv 240) (m := 3) (by decide)
   unfold rxD
   omega
  gok := hsf.2.1
  glen := hsf.2.2
  rows := ⟨depthsP (pathsTo ns 5), rows_facts ns, hsf.1⟩ }
end
end
end
end
open E
section
set_option maxRecDepth 100000
set_option maxHeartbeats 400000
section
noncomputable def evs (st : Nat) : Nat → List (Int × Str) → List (Int × Value)
 | _, [] => []
 | t, (i, x) :: r => (i, .str x (t + 1)) :: evs st (t + st) r
theorem evs_keys {st : Nat} : ∀ (l : List (Int × Str)) (t : Nat), (evs st t l).map (·.1) = l.map (·.1)
 | [], t => rfl
 | (i, x) :: l, t => by simp [evs, evs_keys l]
theorem ents_pairs {w : World} {st st' t' : Nat} : ∀ (l l' : List (Int × Str)) (t : Nat), PySem.Pairs (intKind PR w) (ents st t l ++ ents st' t' l') (evs st t l ++ evs st' t' l')
 | [], [], t => .nil
 | [], (i, x) :: l', t => by
  have h := ents_pairs (w := w) (st := st') (st' := st') (t' := t') l' [] (t' + st')
  simp only [ents, evs, List.nil_append, List.append_nil] at h ⊢
  exact .cons (intKind_is _ _ _ _) rfl h
 | (i, x) :: l, l', t => .cons (intKind_is _ _ _ _) rfl (ents_pairs l l' (t + st))
theorem evs_flat1 {st : Nat} : ∀ (l : List (Int × Str)) (t : Nat), PyProof.V.FlatPairs PySem.PyData.int (evs st t l) (l.map fun q => (PySem.PyData.int q.1, PySem.PyData.str q.2))
 | [], t => .nil
 | (i, x) :: l, t => .cons (PyProof.V.Flat.str x _) (evs_flat1 l (t + st))
theorem evs_flat {st st' t' : Nat} : ∀ (l l' : List (Int × Str)) (t : Nat), PyProof.V.FlatPairs PySem.PyData.int (evs st t l ++ evs st' t' l') ((l ++ l').map fun q => (PySem.PyData.int q.1, PySem.PyData.str q.2))
 | [], l', t => evs_flat1 l' t'
 | (i, x) :: l, l', t => .cons (PyProof.V.Flat.str x _) (evs_flat l l' (t + st))
theorem Srt.nodup {l : List (Int × Str)} (h : Srt l) : (l.map (·.1)).Nodup := by
 rw [List.Nodup, List.pairwise_map]
 exact h.imp fun {a b} x => Int.ne_of_lt x
theorem b3D_T : b3T.map (fun q => (PySem.PyData.int q.1, PySem.PyData.str q.2)) = b3D := by kernel_rfl
theorem tab236 {w : World} {h : Heap} (e : h.get? 236 = some d650) : IntTab PR w h 236 b3D := by
 refine ⟨by decide, evs 3 680 (b3T.take 646) ++ evs 2 2618 (b3T.drop 646), ⟨d650, _, _, e, ⟨rfl, rfl, rfl⟩, rfl, ?_, ?_, ?_⟩, ?_⟩
 ·intro x hx
  have hm : ∀ {st t : Nat} {l : List (Int × Str)}, (∀ q ∈ l, q ∈ b3T) → x ∈ ents st t l → ∃ k, (intKind PR w).is k x.key = true ∧ x.hash = (intKind PR w).hash k := fun hl hx => by
   obtain ⟨q, hq, e1, u, e2⟩ := ents_hash hx
   refine ⟨q.1, by rw [e2]; exact intKind_is _ _ _ _, e1.trans ?_⟩
   exact (litO_hash ok17 q (hl q hq)).symm
  rcases List.mem_append.mp (List.mem_toArray.mp hx) with hx | hx
  ·exact hm (fun q hq => List.mem_of_mem_take hq) hx
  ·exact hm (fun q hq => List.mem_of_mem_drop hq) hx
 ·exact ents_pairs _ _ _
 ·rw [List.map_append, evs_keys, evs_keys, ← List.map_append, List.take_append_drop]
  exact Srt.nodup (srtB_spec srt17)
 ·have := evs_flat (st := 3) (st' := 2) (t' := 2618) (b3T.take 646) (b3T.drop 646) 680
  rw [List.take_append_drop, b3D_T] at this
  exact this
noncomputable def intOf : Int × Value → Option Int
 | (h, .int k _) => if h = hashInt k then some k else none
 | _ => none
noncomputable def b1K : List Int := [65024, 65025, 65026, 65027, 65028, 65029, 6150, 65030, 65031, 65032, 65033, 6155, 6156, 6157, 8203, 8204, 8205, 65034, 65035, 65036, 65037, 65038, 65039, 173, 847, 8288, 65279]
theorem b1_to : ∀ x ∈ b1L, x ∈ b1K := by decide
theorem b1_from : ∀ x ∈ b1K, x ∈ b1L := by decide
theorem set225 (w : World) (P : Params) : (b1O P).SetObjOf (intKind PR w) (fun k => decide (k ∈ b1L)) 27 := by
 have hl : ∀ es : List (Int × Value), (es.all fun e => (intOf e).isSome) = true → ∀ e ∈ es, ∃ k t, e = (hashInt k, .int k t) := fun es h e he => by
  have := List.all_eq_true.mp h e he
  obtain ⟨x, v⟩ := e
  cases v with
  | int k t =>
   change (if x = hashInt k then some k else none).isSome = true at this
   by_cases e1 : x = hashInt k
   ·subst e1; exact ⟨k, t, rfl⟩
   ·rw [if_neg e1] at this; cases this
  | _ => cases this
 have hb : ∀ es : List (Int × Value), (es.all fun e => (intOf e).isSome) = true → ∀ L : List Int, es.filterMap intOf = L → ∀ k, k ∈ L ↔ ∃ e ∈ es, (intKind PR w).is k e.2 = true := by
  rintro es h L rfl k
  rw [List.mem_filterMap]
  constructor
  ·rintro ⟨e, he, e1⟩
   obtain ⟨k', t, rfl⟩ := hl es h e he
   cases Option.some.inj ((if_pos rfl).symm.trans e1)
   exact ⟨_, he, intKind_is _ _ _ _⟩
  ·rintro ⟨e, he, e1⟩
   obtain ⟨k', t, rfl⟩ := hl es h e he
   refine ⟨_, he, ?_⟩
   have : k' = k := Value.isInt_inj (.int k' t) _ _ (intKind_is PR w k' t) e1
   subst this
   exact if_pos rfl
 refine ⟨⟨rfl, rfl, rfl⟩, _, _, _, rfl, ?_, ?_, rfl, rfl⟩
 ·intro e he
  obtain ⟨k, t, rfl⟩ := hl _ (by kernel_rfl) e he
  exact ⟨⟨k, intKind_is _ _ _ _, rfl⟩, rfl⟩
 ·intro k
  rw [decide_eq_true_eq, ← hb _ (by kernel_rfl) b1K (by kernel_rfl) k]
  exact ⟨fun h => b1_to k h, fun h => b1_from k h⟩
theorem law_yp {w : World} {s : Shared} (e : Yf s = Ya w) : LawYP b1L b3D w s.heap := by
 obtain ⟨e1, e2⟩ := Prod.mk.inj e
 obtain ⟨e2, e3⟩ := Prod.mk.inj e2
 obtain ⟨e3, e4⟩ := Prod.mk.inj e3
 refine ⟨InK.of asK_eq w s e1, List.map_inj_left.mp e2, ⟨_, e3, set225 w _⟩, tab236 e4⟩
end
end
section
set_option maxRecDepth 100000
set_option maxHeartbeats 16000000
theorem yp_keeps (w : World) (h h' : Heap) (Y : LawYP b1L b3D w h) (k : ∀ b o, h.get? b = some o → h'.get? b = some o) : LawYP b1L b3D w h' := by
 obtain ⟨y1, y2, ⟨oS, y3, y4⟩, y5⟩ := Y
 exact ⟨InK.keeps w h h' y1 k, fun P hP => k _ _ (y2 P hP), ⟨oS, k _ _ y3, y4⟩, y5.keep k⟩
end
end Mine.Internal
set_option maxHeartbeats 16000000
theorem PySem.Challenge.cw_to0089_01_holds : PySem.Challenge.rw_to0089_01.Holds := by
 w_on
 refine holds_law Mine.Internal.E.lsaid fun said => ?_
 refine holds_open (q := Mine.Internal.vw) (loose := Mine.Internal.lo) (Xt := fun s => xlAt Mine.Internal.vw [] s && recOk (RowW.records PySem.Challenge.rw_to0089_01.row.toRowW) s) (XP := XL Mine.Internal.vw []) (Yf := Mine.Internal.E.Yf) (Ya := Mine.Internal.E.Ya) (YP := Mine.Internal.LawYP Mine.Internal.b1L Mine.Internal.b3D) (N := 20000) Mine.Internal.E.left1 (fun w s e => Mine.Internal.law_yp e) Mine.Internal.yp_keeps (fun s e => xl_of s (Bool.and_eq_true_iff.mp e).1) XL.keeps (by rfl) (by rfl) (by rfl) (fun s e => recFacts_of (Bool.and_eq_true_iff.mp e).2) (by rfl) (by assumption) (by decide +kernel) ⟨rfl, rfl, rfl, rfl, rfl, by decide +kernel⟩ ?hw ?hc
 case hw => w_witness2
 case hc => exact Mine.Internal.law_walk Mine.Internal.b3D_val Mine.Internal.law_facts rfl
